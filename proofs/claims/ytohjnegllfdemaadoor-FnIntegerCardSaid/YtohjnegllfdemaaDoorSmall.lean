/-
  The contracts of the small functions on bytes.
-/
import Derived.Test.YtohjnegllfdemaaDoorGr
namespace Go.Proofs.YtohjnegllfdemaaDoor
open Go.RowKit

theorem letter_any (n : Nat) (w : World) :
    Calls Tryd.prog 57 #[.int .u8 n] w fun e w' => e = .returned (.bool (alpB n)) ∧ w = w' := by
  by_cases h0 : 97 ≤ n <;> by_cases h1 : n ≤ 122 <;> by_cases h2 : 65 ≤ n <;> by_cases h3 : n ≤ 90 <;> (try omega) <;>
  · go_enter Tryd.func57, Tryd.ntmps57
    go_wp2
    go_ret
    exact ⟨ret_bool (by rw [Bool.eq_iff_iff]; simp [alpB, lowB, uppB]; omega), rfl⟩

theorem digit_any (n : Nat) (w : World) :
    Calls Tryd.prog 54 #[.int .u8 n] w fun e w' => e = .returned (.bool (digB n)) ∧ w = w' := by
  by_cases h0 : 48 ≤ n <;> by_cases h1 : n ≤ 57 <;> (try omega) <;>
  · go_enter Tryd.func54, Tryd.ntmps54
    go_wp2
    go_ret
    exact ⟨ret_bool (by rw [Bool.eq_iff_iff]; simp [digB]; omega), rfl⟩

theorem lower_any (n : Nat) (w : World) :
    Calls Tryd.prog 73 #[.int .u8 n] w fun e w' => e = .returned (.bool (lowB n)) ∧ w = w' := by
  by_cases h0 : 97 ≤ n <;> by_cases h1 : n ≤ 122 <;> (try omega) <;>
  · go_enter Tryd.func73, Tryd.ntmps73
    go_wp2
    go_ret
    exact ⟨ret_bool (by rw [Bool.eq_iff_iff]; simp [lowB]; omega), rfl⟩

theorem isLCAlpha_any (n : Nat) (w : World) :
    Calls Tryd.prog 96 #[.int .u8 n] w fun e w' => e = .returned (.bool (lowB n)) ∧ w = w' := by
  by_cases h0 : 97 ≤ n <;> by_cases h1 : n ≤ 122 <;> (try omega) <;>
  · go_enter Tryd.func96, Tryd.ntmps96
    go_wp2
    go_ret
    exact ⟨ret_bool (by rw [Bool.eq_iff_iff]; simp [lowB]; omega), rfl⟩

theorem isDigit_any (n : Nat) (w : World) :
    Calls Tryd.prog 90 #[.int .u8 n] w fun e w' => e = .returned (.bool (digB n)) ∧ w = w' := by
  by_cases h0 : 48 ≤ n <;> by_cases h1 : n ≤ 57 <;> (try omega) <;>
  · go_enter Tryd.func90, Tryd.ntmps90
    go_wp2
    go_ret
    exact ⟨ret_bool (by rw [Bool.eq_iff_iff]; simp [digB]; omega), rfl⟩

theorem isVChar_any (n : Nat) (w : World) :
    Calls Tryd.prog 87 #[.int .u8 n] w fun e w' => e = .returned (.bool (vchB n)) ∧ w = w' := by
  by_cases h0 : 33 ≤ n <;> by_cases h1 : n ≤ 126 <;> (try omega) <;>
  · go_enter Tryd.func87, Tryd.ntmps87
    go_wp2
    go_ret
    exact ⟨ret_bool (by rw [Bool.eq_iff_iff]; simp [vchB]; omega), rfl⟩

theorem isSP_any (n : Nat) (w : World) :
    Calls Tryd.prog 88 #[.int .u8 n] w fun e w' => e = .returned (.bool (spB n)) ∧ w = w' := by
  by_cases h0 : n = 32 <;> (try omega) <;>
  · go_enter Tryd.func88, Tryd.ntmps88
    go_wp2
    go_ret
    exact ⟨ret_bool (by rw [Bool.eq_iff_iff]; simp [spB]; omega), rfl⟩

theorem isAlpha_any (n : Nat) (w : World) :
    Calls Tryd.prog 93 #[.int .u8 n] w fun e w' => e = .returned (.bool (alpB n)) ∧ w = w' := by
  cases hl : lowB n <;> by_cases h1 : 65 ≤ n <;> by_cases h2 : n ≤ 90 <;> (try omega) <;>
  · go_enter Tryd.func93, Tryd.ntmps93
    go_wp2_with (go_at_call 96; refine (isLCAlpha_any _ _).mono ?_; rintro e w' ⟨rfl, rfl⟩)
    go_ret
    exact ⟨ret_bool (by rw [Bool.eq_iff_iff]; simp [alpB, uppB, hl]; try omega), rfl⟩

theorem among_next (n : Nat) (s : ByteArray) (k : Nat) (h : k < s.size) (hc : (s[k]).toNat ≠ n) (r : Bool) (hr : r = amongB n ((bl s).drop k)) : r = amongB n ((bl s).drop (k + 1)) := by
  rw [hr, bl_get s k h]
  simp [amongB, hc]
theorem among_found (n : Nat) (s : ByteArray) (k : Nat) (h : k < s.size) (hc : (s[k]).toNat = n) (r : Bool) (hr : r = amongB n ((bl s).drop k)) : Hid (true = r) := by
  rw [hr, bl_get s k h]
  simp [amongB, hc, Hid]
theorem among_end (n : Nat) (s : ByteArray) (k : Nat) (h : ¬ k < s.size) (r : Bool) (hr : r = amongB n ((bl s).drop k)) : false = r := by
  rw [hr, bl_end s k h]
  rfl

set_option maxHeartbeats 400000 in
theorem among_any (n : Nat) (s : ByteArray) (w : World) (hs : s.size ≤ maxLen) :
    Calls Tryd.prog 31 #[.int .u8 n, .string s] w fun e w' => e = .returned (.bool (amongB n (bl s))) ∧ w = w' := by
  unfold maxLen at hs
  obtain ⟨res, hres⟩ : ∃ r, r = amongB n (bl s) := ⟨_, rfl⟩
  rw [← hres]
  have Hres := hid hres
  clear hres
  go_enter Tryd.func31, Tryd.ntmps31
  go_wp2
  go_loop [8] (fun i => ∃ k : Nat, k ≤ s.size ∧ i = .int .i64 k ∧ Hid (res = amongB n ((bl s).drop k))) (fun i => s.size - (intOf i).toNat)
  case atStart => exact ⟨0, Nat.zero_le _, rfl, Hres⟩
  case round =>
    obtain ⟨k, hk, rfl, hr⟩ := hrel
    by_cases hlt : k < s.size
    · by_cases h1 : (s[k]).toNat = n
      · have H1 : ((s[k]).toNat : Int) = n := by omega
        have hf := among_found n s k hlt h1 res hr.out
        clear h1
        go_wp2
        go_ret
        exact ⟨ret_bool hf.out, rfl⟩
      · have H1 : (((s[k]).toNat : Int) == n) = false := by simp; omega
        go_wp2
        go_round
        case rel => exact ⟨k + 1, by omega, by go_num, among_next n s k hlt h1 res hr.out⟩
        case measure => simp [intOf]; omega
    · go_wp2
      go_ret
      exact ⟨ret_bool (among_end n s k hlt res hr.out), rfl⟩

theorem tchar_any (n : Nat) (w : World) :
    Calls Tryd.prog 79 #[.int .u8 n] w fun e w' => e = .returned (.bool (tokB n)) ∧ w = w' := by
  cases h1 : alpB n <;> cases h2 : digB n <;>
  · go_enter Tryd.func79, Tryd.ntmps79
    go_wp2_with (first | (go_at_call 57; refine (letter_any _ _).mono ?_; rintro e w' ⟨rfl, rfl⟩) | (go_at_call 54; refine (digit_any _ _).mono ?_; rintro e w' ⟨rfl, rfl⟩) | (go_at_call 31; refine (among_any _ _ _ (by decide)).mono ?_; rintro e w' ⟨rfl, rfl⟩))
    go_ret
    exact ⟨ret_bool (by simp [tokB, tokMarks, bl, h1, h2]), rfl⟩

/-- The value of a hexadecimal digit with a small letter (whatever it is, where there is none). -/
theorem small_yes (n : Nat) (w : World) (hn : n ≤ 255) (h : hexB n = true) :
    Calls Tryd.prog 81 #[.int .u8 n] w fun e w' => e = .returned (.tuple #[.int .u8 (hexV n : Nat), .bool true]) ∧ w = w' := by
  cases h1 : digB n
  · have h2 : 97 ≤ n ∧ n ≤ 102 := by simpa [hexB, h1] using h
    obtain ⟨h3, h4⟩ := h2
    have h5 : decide ((n : Int) ≤ 102) = true := by simp; omega
    have hv : Hid (hexV n = n - 87) := hid (by simp [hexV, h1])
    clear h
    go_enter Tryd.func81, Tryd.ntmps81
    go_wp2_with (go_at_call 54; refine (digit_any _ _).mono ?_; rintro e w' ⟨rfl, rfl⟩)
    go_ret2
    refine ⟨?_, rfl⟩
    rw [hv.out]
    have : (((n - 87 : Nat) : Int)) = (n : Int) - 97 + 10 := by omega
    rw [this]
    rfl
  · have h2 : 48 ≤ n ∧ n ≤ 57 := by simpa [digB] using h1
    obtain ⟨h3, h4⟩ := h2
    have hv : Hid (hexV n = n - 48) := hid (by simp [hexV, h1])
    clear h
    go_enter Tryd.func81, Tryd.ntmps81
    go_wp2_with (go_at_call 54; refine (digit_any _ _).mono ?_; rintro e w' ⟨rfl, rfl⟩)
    go_ret2
    refine ⟨?_, rfl⟩
    rw [hv.out]
    have : (((n - 48 : Nat) : Int)) = (n : Int) - 48 := by omega
    rw [this]
    rfl

theorem small_no (n : Nat) (w : World) (hn : n ≤ 255) (h : hexB n = false) :
    Calls Tryd.prog 81 #[.int .u8 n] w fun e w' => (∃ x, e = .returned (.tuple #[.int .u8 x, .bool false])) ∧ w = w' := by
  have h1 : digB n = false := by
    cases hd : digB n
    · rfl
    · simp [hexB, hd] at h
  have h2 : 97 ≤ n → ¬ n ≤ 102 := by simpa [hexB, h1] using h
  clear h
  by_cases h3 : 97 ≤ n
  · have h4 : decide ((n : Int) ≤ 102) = false := by have := h2 h3; simp; omega
    clear h2
    go_enter Tryd.func81, Tryd.ntmps81
    go_wp2_with (go_at_call 54; refine (digit_any _ _).mono ?_; rintro e w' ⟨rfl, rfl⟩)
    go_ret2
    exact ⟨⟨_, rfl⟩, rfl⟩
  · clear h2
    go_enter Tryd.func81, Tryd.ntmps81
    go_wp2_with (go_at_call 54; refine (digit_any _ _).mono ?_; rintro e w' ⟨rfl, rfl⟩)
    go_ret2
    exact ⟨⟨_, rfl⟩, rfl⟩

/-- A row of bytes in a block. -/
def Cells8 (w : World) (b : Nat) (l : Bs) : Prop := ∀ (i : Nat) (h : i < l.length), w.cell? ⟨b, i, none⟩ = some (.int .u8 (l[i]'h).toNat)
theorem Cells8.gr {a b : World} {g : Nat} {l : Bs} (h : Cells8 a g l) (k : Gr a b) : Cells8 b g l := fun i hi => k.cell (h i hi)
theorem cells8_alloc (w : World) (C : Array Value) (e : TypeId) (fz : Nat × Nat) (l : Bs) (hC : C.toList.take l.length = l.map fun c => Value.int .u8 c.toNat) : Cells8 (w.alloc (.cells C e fz)) w.heap.size l := by
  intro i hi
  have h1 : (C.toList.take l.length)[i]? = some (.int .u8 (l[i]'hi).toNat) := by rw [hC]; simp [hi]
  rw [List.getElem?_take, if_pos hi] at h1
  simp only [World.cell?]
  rw [heap_alloc_new]
  simpa using h1

set_option maxHeartbeats 400000 in
theorem index_yes (b : Nat) (l : Bs) (n cap : Nat) (w : World) (hl : l.length ≤ 9223372036854775807) (hc : Cells8 w b l) (hin : amongB n l = true) :
    Calls Tryd.prog 104 #[.slice (some ⟨b, 0, none⟩) l.length cap, .int .u8 n] w fun e w' => (∃ i : Nat, e = .returned (.int .i64 i)) ∧ w = w' := by
  have Hin := hid hin
  clear hin
  go_enter Tryd.func104, Tryd.ntmps104
  go_wp2
  go_loop [8] (fun i => ∃ k : Nat, k ≤ l.length ∧ i = .int .i64 k ∧ Hid (amongB n (l.drop k) = true)) (fun i => l.length - (intOf i).toNat)
  case atStart => exact ⟨0, Nat.zero_le _, rfl, Hin⟩
  case round =>
    obtain ⟨k, hk, rfl, hr⟩ := hrel
    by_cases hlt : k < l.length
    · have hcell := hc k hlt
      by_cases h1 : (l[k]).toNat = n
      · have H1 : (n : Int) = ((l[k]).toNat : Int) := by omega
        clear h1
        go_wp2
        go_ret
        exact ⟨⟨k, rfl⟩, rfl⟩
      · have H1 : ((n : Int) == ((l[k]).toNat : Int)) = false := by simp; omega
        go_wp2
        go_round
        case rel =>
          refine ⟨k + 1, by omega, by go_num, ?_⟩
          have hr' := hr.out
          rw [List.drop_eq_getElem_cons hlt] at hr'
          have h1' : ((l[k]).toNat == n) = false := by simp [h1]
          refine hid ?_
          simpa only [amongB, List.any_cons, h1', Bool.false_or] using hr'
        case measure => simp [intOf]; omega
    · have : l.drop k = [] := by rw [List.drop_eq_nil_iff]; omega
      have hr' := hr.out
      rw [this] at hr'
      cases hr'

set_option maxHeartbeats 400000 in
theorem index_no (b : Nat) (l : Bs) (n cap : Nat) (w : World) (hl : l.length ≤ 9223372036854775807) (hc : Cells8 w b l) (hin : amongB n l = false) :
    Calls Tryd.prog 104 #[.slice (some ⟨b, 0, none⟩) l.length cap, .int .u8 n] w fun e w' => e = .returned (.int .i64 (-1)) ∧ w = w' := by
  have Hin : ∀ (i : Nat) (h : i < l.length), (l[i]).toNat ≠ n := by
    intro i h e
    rw [amongB, List.any_eq_false] at hin
    exact hin l[i] (List.getElem_mem h) (by simpa using e)
  clear hin
  have HH := hid Hin
  clear Hin
  go_enter Tryd.func104, Tryd.ntmps104
  go_wp2
  go_loop [8] (fun i => ∃ k : Nat, k ≤ l.length ∧ i = .int .i64 k) (fun i => l.length - (intOf i).toNat)
  case atStart => exact ⟨0, Nat.zero_le _, rfl⟩
  case round =>
    obtain ⟨k, hk, rfl⟩ := hrel
    by_cases hlt : k < l.length
    · have hcell := hc k hlt
      have H1 : ((n : Int) == ((l[k]).toNat : Int)) = false := by
        have := HH.out k hlt
        simp; omega
      go_wp2
      go_round
      case rel => exact ⟨k + 1, by omega, by go_num⟩
      case measure => simp [intOf]; omega
    · go_wp2
      go_ret
      exact ⟨rfl, rfl⟩

theorem contains_any (b : Nat) (l : Bs) (n len cap : Nat) (w : World) (hlen : len = l.length) (hl : l.length ≤ 9223372036854775807) (hc : Cells8 w b l) :
    Calls Tryd.prog 97 #[.slice (some ⟨b, 0, none⟩) len cap, .int .u8 n] w fun e w' => e = .returned (.bool (amongB n l)) ∧ w = w' := by
  subst hlen
  cases hin : amongB n l
  · go_enter Tryd.func97, Tryd.ntmps97
    go_wp2_with fail
    refine (index_no b l n cap _ hl hc hin).mono ?_
    rintro e w' ⟨rfl, rfl⟩
    go_wp2_with fail
    go_ret
    exact ⟨rfl, rfl⟩
  · go_enter Tryd.func97, Tryd.ntmps97
    go_wp2_with fail
    refine (index_yes b l n cap _ hl hc hin).mono ?_
    rintro e w' ⟨⟨i, rfl⟩, rfl⟩
    go_wp2_with fail
    go_ret
    exact ⟨rfl, rfl⟩

theorem isTChar_any (n : Nat) (w : World) :
    Calls Tryd.prog 103 #[.int .u8 n] w fun e w' => e = .returned (.bool (tokB n)) ∧ Gr w w' := by
  cases h1 : alpB n <;> cases h2 : digB n
  · go_enter Tryd.func103, Tryd.ntmps103
    go_wp2_with (first | (go_at_call 93; refine (isAlpha_any _ _).mono ?_; rintro e w' ⟨rfl, rfl⟩) | (go_at_call 90; refine (isDigit_any _ _).mono ?_; rintro e w' ⟨rfl, rfl⟩))
    refine (contains_any _ tokMarks n _ _ _ rfl (by decide) (cells8_alloc _ _ _ _ _ rfl)).mono ?_
    rintro e w' ⟨rfl, rfl⟩
    go_wp2_with fail
    go_ret
    exact ⟨ret_bool (by simp [tokB, h1, h2]), (Gr.refl _).alloc _⟩
  all_goals
    go_enter Tryd.func103, Tryd.ntmps103
    go_wp2_with (first | (go_at_call 93; refine (isAlpha_any _ _).mono ?_; rintro e w' ⟨rfl, rfl⟩) | (go_at_call 90; refine (isDigit_any _ _).mono ?_; rintro e w' ⟨rfl, rfl⟩))
    go_ret
    exact ⟨ret_bool (by simp [tokB, h1, h2]), Gr.refl _⟩

end Go.Proofs.YtohjnegllfdemaaDoor
