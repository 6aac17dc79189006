/-
  The walk of spec.display.
-/
import Derived.Test.YtohjnegllfdemaaDoorUtf2
set_option maxRecDepth 100000
namespace Go.Proofs.YtohjnegllfdemaaDoor
open Go.RowKit

/-- The display string at the head of a text: its decoded bytes, and what is left. -/
def dspS : Bs → Option (Bs × Bs)
  | a :: b :: r => if a = 37 ∧ b = 34 then dspT r else none
  | _ => none
/-- The decoded bytes so far, put ahead. -/
def dspA (xs : Bs) (x : Option (Bs × Bs)) : Option (Bs × Bs) := x.map fun x => (xs ++ x.1, x.2)
theorem dspA_map (xs : Bs) (c : UInt8) (x : Option (Bs × Bs)) : dspA xs (x.map fun x => (c :: x.1, x.2)) = dspA (xs ++ [c]) x := by
  cases x <;> simp [dspA]

theorem hexV_le (n : Nat) (h : hexB n = true) : hexV n ≤ 15 := by
  unfold hexV
  cases hd : digB n
  · simp [hexB, hd] at h
    simp only [Bool.false_eq_true, if_false]
    omega
  · simp [digB] at hd
    simp only [if_true]
    omega

/-- A round of the scanner of display strings. -/
theorem dsp_step (s : ByteArray) (k : Nat) (xs : Bs) (R : Option (Bs × Bs)) (h : k < s.size) (hr : dspA xs (dspT ((bl s).drop k)) = R) :
    (visB (s[k]).toNat = false ∧ R = none) ∨
    (visB (s[k]).toNat = true ∧ (s[k]).toNat = 34 ∧ R = some (xs, (bl s).drop (k + 1))) ∨
    (visB (s[k]).toNat = true ∧ (s[k]).toNat = 37 ∧ s.size ≤ k + 2 ∧ R = none) ∨
    (visB (s[k]).toNat = true ∧ (s[k]).toNat = 37 ∧ ∃ h2 : k + 2 < s.size, (hexB (s[k + 1]).toNat && hexB (s[k + 2]).toNat) = false ∧ R = none) ∨
    (visB (s[k]).toNat = true ∧ (s[k]).toNat = 37 ∧ ∃ h2 : k + 2 < s.size, hexB (s[k + 1]).toNat = true ∧ hexB (s[k + 2]).toNat = true ∧
      dspA (xs ++ [UInt8.ofNat (hexV (s[k + 1]).toNat * 16 + hexV (s[k + 2]).toNat)]) (dspT ((bl s).drop (k + 3))) = R) ∨
    (visB (s[k]).toNat = true ∧ (s[k]).toNat ≠ 34 ∧ (s[k]).toNat ≠ 37 ∧ dspA (xs ++ [s[k]]) (dspT ((bl s).drop (k + 1))) = R) := by
  rw [bl_get s k h, dspT.eq_def] at hr
  simp only at hr
  cases hv : visB (s[k]).toNat
  · rw [hv] at hr
    exact .inl ⟨rfl, by simpa [dspA] using hr.symm⟩
  · rw [hv] at hr
    simp only [if_true] at hr
    refine .inr ?_
    split at hr
    · rename_i hc
      exact .inl ⟨rfl, (u8_eq (n := 34) (by decide)).1 hc, by simpa [dspA] using hr.symm⟩
    · rename_i hc
      have hc' : (s[k]).toNat ≠ 34 := fun e => hc ((u8_eq (n := 34) (by decide)).2 e)
      split at hr
      · rename_i hp
        have hp' := (u8_eq (n := 37) (by decide)).1 hp
        by_cases h2 : k + 2 < s.size
        · rw [bl_get s (k + 1) (by omega), bl_get s (k + 2) h2] at hr
          simp only at hr
          cases hx : (hexB (s[k + 1]).toNat && hexB (s[k + 2]).toNat)
          · rw [hx] at hr
            exact .inr (.inr (.inl ⟨rfl, hp', h2, hx, by simpa [dspA] using hr.symm⟩))
          · rw [hx] at hr
            simp only [if_true] at hr
            rw [dspA_map] at hr
            rw [Bool.and_eq_true] at hx
            exact .inr (.inr (.inr (.inl ⟨rfl, hp', h2, hx.1, hx.2, hr⟩)))
        · refine .inr (.inl ⟨rfl, hp', by omega, ?_⟩)
          by_cases h1 : k + 1 < s.size
          · rw [bl_get s (k + 1) h1, bl_end s (k + 1 + 1) (by omega)] at hr
            simpa [dspA] using hr.symm
          · rw [bl_end s (k + 1) h1] at hr
            simpa [dspA] using hr.symm
      · rename_i hp
        have hp' : (s[k]).toNat ≠ 37 := fun e => hp ((u8_eq (n := 37) (by decide)).2 e)
        rw [dspA_map] at hr
        exact .inr (.inr (.inr (.inr ⟨rfl, hc', hp', hr⟩)))

/-- What display gives. -/
def DispPost (s : ByteArray) (R : Option (Bs × Bs)) (e : Ending) : Prop :=
  match R with
  | none => e = .returned (.tuple #[.int .i64 0, .string ⟨#[]⟩, .bool false])
  | some (o, r) => ∃ v : ByteArray, e = .returned (.tuple #[.int .i64 ((s.size - r.length : Nat) : Int), .string v, .bool (validU o)]) ∧ bl v = o ∧ r.length ≤ s.size

theorem dispPost_at (s : ByteArray) (k : Nat) (o r : Bs) (hk : k ≤ s.size) (h : (bl s).drop k = r) (x : Int) (hx : x = (k : Int)) :
    DispPost s (some (o, r)) (.returned (.tuple #[.int .i64 x, .string ⟨o.toArray⟩, .bool (validU (bl ⟨o.toArray⟩))])) := by
  have hl : r.length = s.size - k := by rw [← h, List.length_drop, bl_length]
  have : ((s.size - r.length : Nat) : Int) = x := by omega
  exact ⟨_, by rw [this, bl_mk], bl_mk o, by omega⟩

theorem or16 (a b : Nat) (ha : a ≤ 15) (hb : b ≤ 15) : bits .or .u8 ((a : Int) * 16) (b : Int) = (a : Int) * 16 + (b : Int) :=
  bits_join .u8 8 (by decide) wraps_u8 4 ((a : Int) * 16) (b : Int) (by omega) (by omega) (by omega) (by omega) (by omega) (by omega)

theorem small_any (n : Nat) (w : World) (hn : n ≤ 255) :
    Calls Tryd.prog 81 #[.int .u8 n] w fun e w' => (∃ x : Int, e = .returned (.tuple #[.int .u8 x, .bool (hexB n)])) ∧ w = w' := by
  cases h : hexB n
  · exact small_no n w hn h
  · exact (small_yes n w hn h).mono fun _ _ ⟨a, b⟩ => ⟨⟨_, a⟩, b⟩

set_option maxHeartbeats 4000000 in
set_option maxRecDepth 100000 in
theorem display_core (s : ByteArray) (R : Option (Bs × Bs)) (w : World) (hs : s.size ≤ 2147483647) (h1 : 1 < s.size) (ha : (((s[0]).toNat : Int) != 37) = false) (hb : (((s[1]).toNat : Int) != 34) = false) (HR : Hid (dspA [] (dspT ((bl s).drop 2)) = R)) :
    Calls Tryd.prog 60 #[.string s] w fun e w' => DispPost s R e ∧ Gr w w' := by
  obtain ⟨i0, hi, hz0, hz1, hz2⟩ := info_parts info8
  go_enter Tryd.func60, Tryd.ntmps60
  go_wp2
  clear ha hb
  go_loopw [2, 5] (fun i v wr => ∃ (k : Nat) (xs : Bs), k ≤ s.size ∧ i = .int .i64 k ∧ xs.length ≤ k ∧ Own8 wr w.heap.size v xs ∧ Hid (dspA xs (dspT ((bl s).drop k)) = R) ∧ Gr w wr) (fun i _ _ => s.size - (intOf i).toNat)
  case atStart => exact ⟨2, [], by omega, rfl, Nat.zero_le _, Own8.nil _ _, HR, Gr.refl _⟩
  case round =>
    obtain ⟨k, xs, hk, rfl, hxs, hown, hr, hg⟩ := hrel
    by_cases hlt : k < s.size
    · have b3 : xs.length + 1 ≤ maxLen := by unfold maxLen; omega
      have b4 : (xs.length + 1) * 1 ≤ 140737488355328 := by omega
      have b5 := hg.size
      have hown0 := hown.row
      rcases dsp_step s k xs R hlt hr.out with ⟨hv, hx⟩ | ⟨hv, hc, hx⟩ | ⟨hv, hc, h2, hx⟩ | ⟨hv, hc, h2, hh, hx⟩ | ⟨hv, hc, h2, hh1, hh2, hx⟩ | ⟨hv, hc, hp, hx⟩
      · have v1 : (s[k]).toNat < 32 ∨ 32 ≤ (s[k]).toNat ∧ 126 < (s[k]).toNat := by simp [visB] at hv; omega
        have HX := hid hx
        clear hv hx
        rcases v1 with v1 | ⟨v1, v2⟩
        all_goals
          go_wp2
          go_ret3
          exact ⟨by rw [HX.out]; rfl, hg⟩
      all_goals
        have v1 : 32 ≤ (s[k]).toNat ∧ (s[k]).toNat ≤ 126 := by simpa [visB] using hv
        obtain ⟨v1, v2⟩ := v1
        have HX := hid hx
        clear hv hx
      · have c1 : (((s[k]).toNat : Int) == 37) = false := eqF (n := 37) (by omega)
        have c2 : (((s[k]).toNat : Int) == 34) = true := eqT hc
        clear hc
        have hst := fun n => own8_string (hown.gr ((Gr.refl wr).drewN n))
        have hsz : ({ data := xs.toArray } : ByteArray).size ≤ 2147483647 := by rw [← bl_length, bl_mk]; omega
        go_wp2
        go_quiet ((go_at_call 82; exact Calls.quiet_of_same ((Valid_any _ _ hsz).mono fun _ _ ⟨a, b⟩ => ⟨a, b.symm⟩)))
        go_wp2
        go_ret3
        exact ⟨by rw [HX.out]; exact dispPost_at s (k + 1) xs _ (by omega) rfl _ (by omega), hg.drewN _⟩
      · have c1 : (((s[k]).toNat : Int) == 37) = true := eqT hc
        clear hc
        have q : (s.size : Int) ≤ (k : Int) + 2 := by omega
        go_wp2
        go_ret3
        exact ⟨by rw [HX.out]; rfl, hg⟩
      · have c1 : (((s[k]).toNat : Int) == 37) = true := eqT hc
        clear hc
        have q : (k : Int) + 2 < (s.size : Int) := by omega
        have u1 : (s[k + 1]).toNat ≤ 255 := by have := (s[k + 1]).toNat_lt; omega
        have u2 : (s[k + 2]).toNat ≤ 255 := by have := (s[k + 2]).toNat_lt; omega
        cases hh1 : hexB (s[k + 1]).toNat <;> cases hh2 : hexB (s[k + 2]).toNat
        · clear hh
          go_wp2_with fail
          refine (small_any _ _ u1).mono ?_
          rintro e w' ⟨⟨x1, rfl⟩, rfl⟩
          rw [hh1]
          go_wp2_with fail
          refine (small_any _ _ u2).mono ?_
          rintro e w' ⟨⟨x2, rfl⟩, rfl⟩
          rw [hh2]
          go_wp2_with fail
          go_ret3
          exact ⟨by rw [HX.out]; rfl, hg⟩
        · clear hh
          go_wp2_with fail
          refine (small_any _ _ u1).mono ?_
          rintro e w' ⟨⟨x1, rfl⟩, rfl⟩
          rw [hh1]
          go_wp2_with fail
          refine (small_any _ _ u2).mono ?_
          rintro e w' ⟨⟨x2, rfl⟩, rfl⟩
          rw [hh2]
          go_wp2_with fail
          go_ret3
          exact ⟨by rw [HX.out]; rfl, hg⟩
        · clear hh
          go_wp2_with fail
          refine (small_any _ _ u1).mono ?_
          rintro e w' ⟨⟨x1, rfl⟩, rfl⟩
          rw [hh1]
          go_wp2_with fail
          refine (small_any _ _ u2).mono ?_
          rintro e w' ⟨⟨x2, rfl⟩, rfl⟩
          rw [hh2]
          go_wp2_with fail
          go_ret3
          exact ⟨by rw [HX.out]; rfl, hg⟩
        · rw [hh1, hh2] at hh
          cases hh
      · have c1 : (((s[k]).toNat : Int) == 37) = true := eqT hc
        clear hc
        have q : (k : Int) + 2 < (s.size : Int) := by omega
        have u1 : (s[k + 1]).toNat ≤ 255 := by have := (s[k + 1]).toNat_lt; omega
        have u2 : (s[k + 2]).toNat ≤ 255 := by have := (s[k + 2]).toNat_lt; omega
        have l1 := hexV_le _ hh1
        have l2 := hexV_le _ hh2
        have o1 := or16 (hexV (s[k + 1]).toNat) (hexV (s[k + 2]).toNat) l1 l2
        have hpush : ((hexV (s[k + 1]).toNat : Int) * 16 + (hexV (s[k + 2]).toNat : Int)) = ((UInt8.ofNat (hexV (s[k + 1]).toNat * 16 + hexV (s[k + 2]).toNat)).toNat : Int) := by
          rw [UInt8.toNat_ofNat', Nat.mod_eq_of_lt (by omega)]; omega
        have HP := hid hpush
        clear hpush
        have b1 : ∀ u ∈ [Value.int .u8 ((hexV (s[k + 1]).toNat : Int) * 16 + (hexV (s[k + 2]).toNat : Int))], u.oneCell' = true := by intro u hu; simp at hu; subst hu; rfl
        go_wp2_with fail
        refine (small_yes _ _ u1 hh1).mono ?_
        rintro e w' ⟨rfl, rfl⟩
        go_wp2_with fail
        refine (small_yes _ _ u2 hh2).mono ?_
        rintro e w' ⟨rfl, rfl⟩
        go_wp2_with (at_builtin; (refine wpList_append_own _ rfl _ _ 80 rfl w.heap.size 5 i0 (.int .u8 0) 1 1 Tryd.underlying80 hi hz0 hz1 hz2 rfl (by decide) _ _ _ rfl (hown0.alloc _) ⟨wr.heap.size, 0, none⟩ 1 1 [.int .u8 ((hexV (s[k + 1]).toNat : Int) * 16 + (hexV (s[k + 2]).toNat : Int))] rfl rfl (cell_one_new _ _ _) b1 b3 b4 (by simp; omega) ?_); intro v' w1 hown' hgrow _)
        go_roundw
        case rel => exact ⟨k + 3, xs ++ [_], by omega, by go_num, by simp; omega, Own8.of_row HP.out hown', HX, (hg.alloc _).grown (hown0.alloc _) hgrow⟩
        case measure => simp [intOf]; omega
      · have c1 : (((s[k]).toNat : Int) == 37) = false := eqF hp
        have c2 : (((s[k]).toNat : Int) == 34) = false := eqF hc
        clear hc hp
        have b1 : ∀ u ∈ [Value.int .u8 ((s[k]).toNat : Int)], u.oneCell' = true := by intro u hu; simp at hu; subst hu; rfl
        go_wp2_with (at_builtin; (refine wpList_append_own _ rfl _ _ 80 rfl w.heap.size 5 i0 (.int .u8 0) 1 1 Tryd.underlying80 hi hz0 hz1 hz2 rfl (by decide) _ _ _ rfl (hown0.alloc _) ⟨wr.heap.size, 0, none⟩ 1 1 [.int .u8 (s[k]).toNat] rfl rfl (cell_one_new _ _ _) b1 b3 b4 (by simp; omega) ?_); intro v' w1 hown' hgrow _)
        go_roundw
        case rel => exact ⟨k + 1, xs ++ [s[k]], by omega, by go_num, by simp; omega, Own8.of_row rfl hown', HX, (hg.alloc _).grown (hown0.alloc _) hgrow⟩
        case measure => simp [intOf]; omega
    · have hx : R = none := by rw [← hr.out, bl_end s k hlt]; rfl
      have HX := hid hx
      clear hx
      go_wp2
      go_ret3
      exact ⟨by rw [HX.out]; rfl, hg⟩

theorem dspA_nil (x : Option (Bs × Bs)) : dspA [] x = x := by cases x <;> simp [dspA]

theorem display_any (s : ByteArray) (w : World) (hs : s.size ≤ 2147483647) :
    Calls Tryd.prog 60 #[.string s] w fun e w' => DispPost s (dspS (bl s)) e ∧ Gr w w' := by
  by_cases h1 : 1 < s.size
  · have hb := bl_two s h1
    have hd : (bl s).drop 2 = (bl s).drop 2 := rfl
    cases ha : (((s[0]).toNat : Int) != 37)
    · have ha' : s[0] = 37 := (u8_eq (n := 37) (by decide)).2 (by have := bne_eq_false_iff_eq.1 ha; omega)
      cases hb' : (((s[1]).toNat : Int) != 34)
      · have hb'' : s[1] = 34 := (u8_eq (n := 34) (by decide)).2 (by have := bne_eq_false_iff_eq.1 hb'; omega)
        refine display_core s _ w hs h1 ha hb' (hid ?_)
        rw [dspA_nil]
        conv => rhs; rw [hb, dspS, if_pos ⟨ha', hb''⟩]
      · have HX := hid (show dspS (bl s) = none by rw [hb, dspS, if_neg (fun h => by have := bne_iff_ne.1 hb'; have := (u8_eq (n := 34) (by decide)).1 h.2; omega)])
        clear ha' hb hd
        go_enter Tryd.func60, Tryd.ntmps60
        go_wp2
        go_ret3
        exact ⟨by rw [HX.out]; rfl, Gr.refl _⟩
    · have HX := hid (show dspS (bl s) = none by rw [hb, dspS, if_neg (fun h => by have := bne_iff_ne.1 ha; have := (u8_eq (n := 37) (by decide)).1 h.1; omega)])
      clear hb hd
      go_enter Tryd.func60, Tryd.ntmps60
      go_wp2
      go_ret3
      exact ⟨by rw [HX.out]; rfl, Gr.refl _⟩
  · have hx : dspS (bl s) = none := by
      have hl := bl_length s
      match hb : bl s with
      | [] => rfl
      | [_] => rfl
      | _ :: _ :: _ => rw [hb] at hl; simp at hl; omega
    have HX := hid hx
    clear hx
    go_enter Tryd.func60, Tryd.ntmps60
    go_wp2
    go_ret3
    exact ⟨by rw [HX.out]; rfl, Gr.refl _⟩

end Go.Proofs.YtohjnegllfdemaaDoor
