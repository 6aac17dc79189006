/-
  The walks of headerValueContainsToken, HeaderValuesContainsToken, zzFits1.
-/
import Derived.Test.YtkiopdmnkinphaaEq
import Derived.Lib.Bytealg
import Derived.Lib.Walk
set_option maxRecDepth 100000
namespace Go.Proofs.Ytkiopdmnkinphaa
open Go.RowKit

/-- Has a part between the commas the mark? (acc: what is read of the part so far.) -/
def anyP (p : Bs → Bool) (acc : Bs) : Bs → Bool
  | [] => p acc
  | c :: r => if c = 44 then p acc || anyP p [] r else anyP p (acc ++ [c]) r

theorem anyP_no (p : Bs → Bool) (l acc : Bs) (h : Lib.indexByte l 44 = -1) : anyP p acc l = p (acc ++ l) := by
  induction l generalizing acc with
  | nil => simp [anyP]
  | cons c r ih =>
    unfold Lib.indexByte at h
    split at h
    · cases h
    · rename_i hc
      have hc' : ¬ c = 44 := by simpa using hc
      split at h
      · rename_i hr
        rw [anyP, if_neg hc', ih _ (by simpa using hr)]
        simp
      · rename_i hr
        have := Lib.indexByte_ge r 44
        omega
theorem anyP_at (p : Bs → Bool) (l acc : Bs) (k : Nat) (h : Lib.indexByte l 44 = (k : Int)) : k < l.length ∧ anyP p acc l = (p (acc ++ l.take k) || anyP p [] (l.drop (k + 1))) := by
  induction l generalizing acc k with
  | nil => simp [Lib.indexByte] at h
  | cons c r ih =>
    unfold Lib.indexByte at h
    split at h
    · rename_i hc
      have hc' : c = 44 := by simpa using hc
      obtain rfl : k = 0 := by omega
      refine ⟨by simp, ?_⟩
      rw [anyP, if_pos hc']
      simp
    · rename_i hc
      have hc' : ¬ c = 44 := by simpa using hc
      split at h
      · omega
      · rename_i hr
        obtain ⟨j, rfl⟩ : ∃ j, k = j + 1 := ⟨k - 1, by have := Lib.indexByte_ge r 44; simp at hr; omega⟩
        obtain ⟨h1, h2⟩ := ih (acc ++ [c]) j (by omega)
        refine ⟨by simpa using h1, ?_⟩
        rw [anyP, if_neg hc', h2]
        simp

theorem stringslite_IndexByte (s : ByteArray) (c : Int) (w : World) :
    Calls Try.prog 29 #[.string s, .int .u8 c] w fun e w' => e = .returned (.int .i64 (Lib.indexByte s.data.toList c.toNat.toUInt8)) ∧ w' = w := by
  go_enter Try.func29, Try.ntmps29
  go_wp2
  rw [run_callFunc_extern Try.func32 (by kernel_rfl) (by kernel_rfl) (by kernel_rfl) (e := Extern.BytealgIndexByte.indexByte) (by kernel_rfl), Lib.run_indexByteString]
  simp only [Result.andThen]
  rw [Oper.upon_value]
  go_wp2
  go_ret
  exact ⟨rfl, rfl⟩

/-- strings.IndexByte, a comma. -/
theorem comma_any (s : ByteArray) (w : World) :
    Calls Try.prog 26 #[.string s, .int .u8 44] w fun e w' => (e = .returned (.int .i64 (-1)) ∧ Lib.indexByte (bl s) 44 = -1 ∨ ∃ k : Nat, e = .returned (.int .i64 k) ∧ Lib.indexByte (bl s) 44 = k) ∧ w = w' := by
  go_enter Try.func26, Try.ntmps26
  go_wp2_with (go_at_call 29; refine (stringslite_IndexByte _ _ _).mono ?_; rintro e w' ⟨rfl, rfl⟩)
  go_ret
  refine ⟨?_, rfl⟩
  have h := Lib.indexByte_ge (bl s) 44
  by_cases h1 : Lib.indexByte (bl s) 44 = -1
  · exact .inl ⟨by rw [← h1]; rfl, h1⟩
  · obtain ⟨k, hk⟩ : ∃ k : Nat, Lib.indexByte (bl s) 44 = k := ⟨(Lib.indexByte (bl s) 44).toNat, by omega⟩
    exact .inr ⟨k, by rw [← hk]; rfl, hk⟩

/-- The mark that the library tries. -/
def isEq (t : ByteArray) (l : Bs) : Bool := teq (trim l) (bl t)

set_option maxHeartbeats 2000000 in
theorem value_any (s t : ByteArray) (w : World) (hs : s.size ≤ maxLen) :
    Calls Try.prog 24 #[.string s, .string t] w fun e w' => e = .returned (.bool (anyP (isEq t) [] (bl s))) ∧ Gr w w' := by
  obtain ⟨R, hR⟩ : ∃ R, anyP (isEq t) [] (bl s) = R := ⟨_, rfl⟩
  rw [hR]
  have HR := hid hR
  clear hR
  go_enter Try.func24, Try.ntmps24
  go_wp2_with fail
  refine (comma_any _ _).mono ?_
  rintro e w1 ⟨hidx, rfl⟩
  have HI : ∃ j : Int, e = .returned (.int .i64 j) ∧ Lib.indexByte (bl s) 44 = j := by
    rcases hidx with ⟨rfl, h⟩ | ⟨k, rfl, h⟩
    · exact ⟨_, rfl, h⟩
    · exact ⟨_, rfl, h⟩
  obtain ⟨j, rfl, hj⟩ := HI
  have HJ := hid hj
  clear hidx hj
  go_wp2_with fail
  go_loopw [0, 5] (fun v c wr => ∃ (x : ByteArray) (j : Int), v = .string x ∧ c = .int .i64 j ∧ x.size ≤ s.size ∧ Hid (Lib.indexByte (bl x) 44 = j) ∧ Hid (anyP (isEq t) [] (bl x) = R) ∧ Gr w wr) (fun v _ _ => sz v)
  case atStart => exact ⟨s, j, rfl, rfl, Nat.le_refl _, HJ, HR, Gr.refl _⟩
  case round =>
    clear HJ HR
    obtain ⟨x, j, rfl, rfl, hx, hj, hr, hg⟩ := hrel
    unfold maxLen at hs
    by_cases h1 : j = -1
    · subst h1
      have HV := hid ((anyP_no (isEq t) (bl x) [] hj.out).symm.trans hr.out)
      clear hj hr
      go_wp2_with fail
      refine (trimOWS_any x _ (by unfold maxLen; omega)).mono ?_
      rintro e w1 ⟨⟨y, rfl, hy, hsz⟩, rfl⟩
      have HY := hid hy
      clear hy
      go_wp2_with fail
      refine (tokenEqual_any y t _).mono ?_
      rintro e w1 ⟨rfl, hg1⟩
      go_wp2_with fail
      go_ret
      exact ⟨ret_bool (by rw [HY.out]; exact HV.out), hg.trans hg1⟩
    · obtain ⟨k, rfl⟩ : ∃ k : Nat, j = k := ⟨j.toNat, by have := Lib.indexByte_ge (bl x) 44; have := hj.out; omega⟩
      obtain ⟨hk, hv⟩ := anyP_at (isEq t) (bl x) [] k hj.out
      rw [bl_length] at hk
      have c0 : ((k : Int) != -1) = true := by rw [bne_iff_ne]; omega
      have HV := hid (hv.symm.trans hr.out)
      clear hj hr hv h1
      have hs1 : (x.extract 0 k).size ≤ 2 ^ 63 - 1 := by rw [← bl_length, bl_upto, List.length_take, bl_length]; omega
      have hs2 : (x.extract (k + 1) x.size).size = x.size - (k + 1) := by rw [← bl_length, bl_from, List.length_drop, bl_length]
      go_wp2_with fail
      refine (trimOWS_any (x.extract 0 k) _ hs1).mono ?_
      rintro e w1 ⟨⟨y, rfl, hy, hsz⟩, rfl⟩
      rw [bl_upto] at hy
      have HY := hid hy
      clear hy
      go_wp2_with fail
      refine (tokenEqual_any y t _).mono ?_
      rintro e w1 ⟨rfl, hg1⟩
      cases hq : teq (bl y) (bl t)
      · have HN := hid (show anyP (isEq t) [] ((bl x).drop (k + 1)) = R by
          have h1 := HV.out
          have h2 : isEq t ([] ++ (bl x).take k) = false := by rw [List.nil_append, isEq, ← HY.out, hq]
          rwa [h2, Bool.false_or] at h1)
        go_wp2_with fail
        refine (comma_any _ _).mono ?_
        rintro e w2 ⟨hidx, rfl⟩
        have HI : ∃ j : Int, e = .returned (.int .i64 j) ∧ Lib.indexByte (bl (x.extract (k + 1) x.size)) 44 = j := by
          rcases hidx with ⟨rfl, h⟩ | ⟨k, rfl, h⟩
          · exact ⟨_, rfl, h⟩
          · exact ⟨_, rfl, h⟩
        obtain ⟨j, rfl, hj⟩ := HI
        have HJ := hid hj
        clear hidx hj
        go_wp2_with fail
        go_roundw
        case rel => exact ⟨x.extract (k + 1) x.size, j, rfl, rfl, by omega, HJ, by rw [bl_from]; exact HN, hg.trans hg1⟩
        case measure => simp only [sz, hs2]; omega
      · have HN := hid (show true = R by
          have h1 := HV.out
          have h2 : isEq t ([] ++ (bl x).take k) = true := by rw [List.nil_append, isEq, ← HY.out, hq]
          rwa [h2, Bool.true_or] at h1)
        go_wp2_with fail
        go_ret
        exact ⟨ret_bool HN.out, hg.trans hg1⟩
end Go.Proofs.Ytkiopdmnkinphaa
