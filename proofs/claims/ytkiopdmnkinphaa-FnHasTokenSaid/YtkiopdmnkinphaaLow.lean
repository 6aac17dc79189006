/-
  Small functions of FnHasToken: classes of bytes, trimming, names of tokens.
-/
import Derived.Test.YtkiopdmnkinphaaGr
namespace Go.Proofs.Ytkiopdmnkinphaa
open Go.RowKit

theorem eqT {a n : Nat} (h : a = n) : ((a : Int) == (n : Int)) = true := by rw [beq_iff_eq]; omega
theorem eqF {a n : Nat} (h : a ≠ n) : ((a : Int) == (n : Int)) = false := by rw [beq_eq_false_iff_ne]; omega
theorem neT {a n : Nat} (h : a ≠ n) : ((a : Int) != (n : Int)) = true := by rw [bne_iff_ne]; omega
theorem neF {a n : Nat} (h : a = n) : ((a : Int) != (n : Int)) = false := by rw [bne_eq_false_iff_eq]; omega
theorem notEmpty {s : ByteArray} (h0 : 0 < s.size) : s.toList.isEmpty = false := by
  rw [bl_toList]
  cases h : bl s with
  | nil => have := bl_length s; rw [h] at this; simp at this; omega
  | cons _ _ => rfl
theorem isEmpty_of {s : ByteArray} (h0 : ¬ 0 < s.size) : s.toList.isEmpty = true := by
  rw [bl_toList]
  cases h : bl s with
  | nil => rfl
  | cons _ _ => have := bl_length s; rw [h] at this; simp at this; omega

def lowU (c : UInt8) : UInt8 := if uppB c.toNat then c + 32 else c
def lowN (n : Nat) : Nat := if uppB n then n + 32 else n
theorem lowU_toNat (c : UInt8) : (lowU c).toNat = lowN c.toNat := by
  unfold lowU lowN
  split
  · rename_i h
    simp [uppB] at h
    rw [UInt8.toNat_add]
    simp
    omega
  · rfl
def asc (l : Bs) : Bool := l.all fun c => decide (c.toNat < 128)
def trimR (l : Bs) : Bs := (skip wsB l.reverse).reverse
def trim (l : Bs) : Bs := trimR (skip wsB l)
def foldP (l : Bs) : Option Bs := if asc l then some (l.map lowU) else none

theorem letter_any (n : Nat) (w : World) :
    Calls Try.prog 20 #[.int .u8 n] w fun e w' => e = .returned (.bool (alpB n)) ∧ w = w' := by
  by_cases h0 : 97 ≤ n <;> by_cases h1 : n ≤ 122 <;> by_cases h2 : 65 ≤ n <;> by_cases h3 : n ≤ 90 <;> (try omega) <;>
  · go_enter Try.func20, Try.ntmps20
    go_wp2
    go_ret
    exact ⟨ret_bool (by rw [Bool.eq_iff_iff]; simp [alpB, lowB, uppB]; omega), rfl⟩
theorem digit_any (n : Nat) (w : World) :
    Calls Try.prog 21 #[.int .u8 n] w fun e w' => e = .returned (.bool (digB n)) ∧ w = w' := by
  by_cases h0 : 48 ≤ n <;> by_cases h1 : n ≤ 57 <;> (try omega) <;>
  · go_enter Try.func21, Try.ntmps21
    go_wp2
    go_ret
    exact ⟨ret_bool (by rw [Bool.eq_iff_iff]; simp [digB]; omega), rfl⟩
theorem isOWS_any (n : Nat) (w : World) :
    Calls Try.prog 31 #[.int .u8 n] w fun e w' => e = .returned (.bool (wsB n)) ∧ w = w' := by
  by_cases h1 : n = 32 <;> by_cases h2 : n = 9 <;> (try omega) <;>
  · go_enter Try.func31, Try.ntmps31
    go_wp2
    go_ret
    exact ⟨ret_bool (by rw [Bool.eq_iff_iff]; simp [wsB]; omega), rfl⟩
theorem lowerASCII_any (n : Nat) (hn : n < 256) (w : World) :
    Calls Try.prog 30 #[.int .u8 n] w fun e w' => e = .returned (.int .u8 (lowN n)) ∧ w = w' := by
  by_cases h0 : 65 ≤ n <;> by_cases h1 : n ≤ 90 <;> (try omega) <;>
  · go_enter Try.func30, Try.ntmps30
    go_wp2
    go_ret
    refine ⟨?_, rfl⟩
    simp [lowN, uppB, h0, h1]
    try omega

theorem among_next (n : Nat) (s : ByteArray) (k : Nat) (h : k < s.size) (hc : (s[k]).toNat ≠ n) (r : Bool) (hr : r = amongB n ((bl s).drop k)) : r = amongB n ((bl s).drop (k + 1)) := by
  rw [hr, bl_get s k h]
  simp [amongB, hc]
theorem among_found (n : Nat) (s : ByteArray) (k : Nat) (h : k < s.size) (hc : (s[k]).toNat = n) (r : Bool) (hr : r = amongB n ((bl s).drop k)) : Hid (true = r) := by
  rw [hr, bl_get s k h]
  simp [amongB, hc, Hid]
theorem among_end (n : Nat) (s : ByteArray) (k : Nat) (h : ¬ k < s.size) (r : Bool) (hr : r = amongB n ((bl s).drop k)) : false = r := by
  rw [hr, bl_end s k h]
  rfl

set_option maxHeartbeats 400000 in
theorem among_any (n : Nat) (s : ByteArray) (w : World) (hs : s.size ≤ maxLen) :
    Calls Try.prog 22 #[.int .u8 n, .string s] w fun e w' => e = .returned (.bool (amongB n (bl s))) ∧ w = w' := by
  unfold maxLen at hs
  obtain ⟨res, hres⟩ : ∃ r, r = amongB n (bl s) := ⟨_, rfl⟩
  rw [← hres]
  have Hres := hid hres
  clear hres
  go_enter Try.func22, Try.ntmps22
  go_wp2
  go_loop [8] (fun i => ∃ k : Nat, k ≤ s.size ∧ i = .int .i64 k ∧ Hid (res = amongB n ((bl s).drop k))) (fun i => s.size - (intOf i).toNat)
  case atStart => exact ⟨0, Nat.zero_le _, rfl, Hres⟩
  case round =>
    obtain ⟨k, hk, rfl, hr⟩ := hrel
    by_cases hlt : k < s.size
    · by_cases h1 : (s[k]).toNat = n
      · have H1 : ((s[k]).toNat : Int) = n := by omega
        have hf := among_found n s k hlt h1 res hr.out
        clear h1
        go_wp2
        go_ret
        exact ⟨ret_bool hf.out, rfl⟩
      · have H1 : (((s[k]).toNat : Int) == n) = false := by simp; omega
        go_wp2
        go_round
        case rel => exact ⟨k + 1, by omega, by go_num, among_next n s k hlt h1 res hr.out⟩
        case measure => simp [intOf]; omega
    · go_wp2
      go_ret
      exact ⟨ret_bool (among_end n s k hlt res hr.out), rfl⟩

theorem among_l (n : Nat) (s : ByteArray) (l : Bs) (w : World) (hs : s.size ≤ maxLen) (hl : bl s = l) :
    Calls Try.prog 22 #[.int .u8 n, .string s] w fun e w' => e = .returned (.bool (amongB n l)) ∧ w = w' := by
  rw [← hl]
  exact among_any n s w hs

theorem tchar_any (n : Nat) (w : World) :
    Calls Try.prog 13 #[.int .u8 n] w fun e w' => e = .returned (.bool (tokB n)) ∧ w = w' := by
  cases h1 : alpB n <;> cases h2 : digB n <;> cases h3 : amongB n tokMarks <;>
  · go_enter Try.func13, Try.ntmps13
    go_wp2_with (first | (go_at_call 21; refine (digit_any _ _).mono ?_; rintro e w' ⟨rfl, rfl⟩) | (go_at_call 20; refine (letter_any _ _).mono ?_; rintro e w' ⟨rfl, rfl⟩) | (go_at_call 22; refine (among_l _ _ tokMarks _ (by decide) rfl).mono ?_; rintro e w' ⟨rfl, rfl⟩))
    go_ret
    exact ⟨ret_bool (by simp [tokB, h1, h2, h3]), rfl⟩

theorem wsB_among (n : Nat) : amongB n [32, 9] = wsB n := by
  rw [Bool.eq_iff_iff]
  simp [amongB, wsB]
  omega

/-! ### Trimming -/
def sz : Value → Nat
  | .string s => s.size
  | _ => 0

theorem skip_yes (x : ByteArray) (h : 0 < x.size) (hc : wsB (x[0]).toNat = true) : skip wsB (bl (x.extract 1 x.size)) = skip wsB (bl x) := by
  have hg := bl_get x 0 h
  rw [List.drop_zero] at hg
  rw [bl_from, hg]
  simp [skip, hc]
theorem skip_no (x : ByteArray) (h : 0 < x.size) (hc : wsB (x[0]).toNat = false) : skip wsB (bl x) = bl x := by
  have hg := bl_get x 0 h
  rw [List.drop_zero] at hg
  rw [hg]
  simp [skip, hc]
theorem skip_end (x : ByteArray) (h : ¬ 0 < x.size) : skip wsB (bl x) = bl x := by
  have : bl x = [] := List.eq_nil_of_length_eq_zero (by rw [bl_length]; omega)
  rw [this]
  rfl
theorem bl_last (x : ByteArray) (m : Nat) (h : x.size = m + 1) : bl x = bl (x.extract 0 m) ++ [x[m]] := by
  rw [bl_upto]
  have h1 := bl_get x m (by omega)
  have h2 := bl_end x (m + 1) (by omega)
  rw [h2] at h1
  rw [← h1, List.take_append_drop]
theorem trimR_yes (x : ByteArray) (m : Nat) (h : x.size = m + 1) (hc : wsB (x[m]).toNat = true) : trimR (bl (x.extract 0 m)) = trimR (bl x) := by
  rw [bl_last x m h]
  simp [trimR, skip, hc]
theorem trimR_no (x : ByteArray) (m : Nat) (h : x.size = m + 1) (hc : wsB (x[m]).toNat = false) : bl x = trimR (bl x) := by
  rw [bl_last x m h]
  simp [trimR, skip, hc]
theorem trimR_end (x : ByteArray) (h : ¬ 0 < x.size) : bl x = trimR (bl x) := by
  have : bl x = [] := List.eq_nil_of_length_eq_zero (by rw [bl_length]; omega)
  rw [this]
  rfl
theorem size_from (x : ByteArray) : (x.extract 1 x.size).size = x.size - 1 := by
  rw [← bl_length, bl_from, List.length_drop, bl_length]
theorem size_upto (x : ByteArray) (m : Nat) (h : x.size = m + 1) : (x.extract 0 m).size = m := by
  rw [← bl_length, bl_upto, List.length_take, bl_length]
  omega

end Go.Proofs.Ytkiopdmnkinphaa
