/-
  The walks of spec.size (joined), spec.Valid, spec.has.
-/
import Derived.Test.YtohjnegllfdemaaDoorUtf
set_option maxRecDepth 100000
namespace Go.Proofs.YtohjnegllfdemaaDoor
open Go.RowKit

theorem size_any (s : ByteArray) (w : World) (hs : s.size ≤ 2147483647) (h0 : 0 < s.size) :
    Calls Tryd.prog 100 #[.string s] w fun e w' => e = .returned (.int .i64 (u8n (bl s) : Nat)) ∧ w = w' := by
  have e1 := bl_one s h0
  by_cases a1 : (s[0]).toNat < 128
  · exact size_one s w hs h0 a1 (hid (by rw [e1]; simp [u8n, a1]))
  by_cases a2 : (s[0]).toNat < 194
  · exact size_lone s w hs h0 (by omega) a2 (hid (by rw [e1]; simp only [u8n]; rw [if_neg a1, if_neg (by omega), if_neg (by omega), if_neg (by omega)]))
  by_cases a3 : (s[0]).toNat < 224
  · have hu : u8n (bl s) = if u8two ((bl s).drop 1) then 2 else 0 := by
      conv => lhs; rw [e1]
      simp only [u8n]; rw [if_neg a1, if_pos (by omega)]
    by_cases h1 : 1 < s.size
    · have d1 : (bl s).drop 1 = s[1] :: (bl s).drop 2 := bl_get s 1 h1
      rw [d1] at hu
      cases c1 : contB (s[1]).toNat
      · exact size_bad21 s w hs h0 (by omega) a3 h1 c1 (hid (by rw [hu, u8two, c1]; rfl))
      · exact size_two s w hs h0 (by omega) a3 h1 c1 (hid (by rw [hu, u8two, c1]; rfl))
    · rw [bl_end s 1 h1] at hu
      exact size_short2 s w hs h0 (by omega) a3 h1 (hid hu)
  by_cases a4 : (s[0]).toNat < 240
  · have hu : u8n (bl s) = if u8three (s[0]).toNat ((bl s).drop 1) then 3 else 0 := by
      conv => lhs; rw [e1]
      simp only [u8n]; rw [if_neg a1, if_neg (by omega), if_pos (by omega)]
    by_cases h1 : 2 < s.size
    · have d1 : (bl s).drop 1 = s[1] :: s[2] :: (bl s).drop 3 := by rw [bl_get s 1 (by omega), bl_get s 2 h1]
      rw [d1] at hu
      cases c1 : contB (s[1]).toNat
      · exact size_bad31 s w hs h0 (by omega) a4 h1 c1 (hid (by rw [hu, u8three, c1]; rfl))
      cases c2 : contB (s[2]).toNat
      · exact size_bad32 s w hs h0 (by omega) a4 h1 c1 c2 (hid (by rw [hu, u8three, c1, c2]; rfl))
      rw [u8three, c1, c2] at hu
      by_cases b1 : (s[0]).toNat = 224
      · by_cases b2 : (s[1]).toNat < 160
        · exact size_three_low s w hs h0 (by omega) a4 h1 c1 c2 (by omega) b2 (hid (by rw [hu]; simp [b1, b2]))
        · exact size_three_a s w hs h0 (by omega) a4 h1 c1 c2 (by omega) (by omega) (hid (by rw [hu]; simp [b1, b2]))
      · by_cases b2 : (s[0]).toNat = 237
        · by_cases b3 : 160 ≤ (s[1]).toNat
          · exact size_three_sur s w hs h0 (by omega) a4 h1 c1 c2 (by omega) (by omega) b3 (hid (by rw [hu]; simp [b2, b3]))
          · exact size_three_c s w hs h0 (by omega) a4 h1 c1 c2 (by omega) (by omega) (by omega) (hid (by rw [hu]; simp [b2, b3]))
        · by_cases b3 : (s[0]).toNat ≤ 236
          · exact size_three_b s w hs h0 (by omega) a4 h1 c1 c2 (by omega) b3 (hid (by rw [hu]; simp [b1, b2]))
          · exact size_three_d s w hs h0 (by omega) a4 h1 c1 c2 (by omega) (hid (by rw [hu]; simp [b1, b2]))
    · have hz : u8three (s[0]).toNat ((bl s).drop 1) = false := by
        by_cases h2 : 1 < s.size
        · rw [bl_get s 1 h2, bl_end s 2 h1]; rfl
        · rw [bl_end s 1 h2]; rfl
      rw [hz] at hu
      exact size_short3 s w hs h0 (by omega) a4 h1 (hid hu)
  by_cases a5 : (s[0]).toNat < 245
  · have hu : u8n (bl s) = if u8four (s[0]).toNat ((bl s).drop 1) then 4 else 0 := by
      conv => lhs; rw [e1]
      simp only [u8n]; rw [if_neg a1, if_neg (by omega), if_neg (by omega), if_pos (by omega)]
    by_cases h1 : 3 < s.size
    · have d1 : (bl s).drop 1 = s[1] :: s[2] :: s[3] :: (bl s).drop 4 := by rw [bl_get s 1 (by omega), bl_get s 2 (by omega), bl_get s 3 h1]
      rw [d1] at hu
      cases c1 : contB (s[1]).toNat
      · exact size_bad41 s w hs h0 (by omega) a5 h1 c1 (hid (by rw [hu, u8four, c1]; rfl))
      cases c2 : contB (s[2]).toNat
      · exact size_bad42 s w hs h0 (by omega) a5 h1 c1 c2 (hid (by rw [hu, u8four, c1, c2]; rfl))
      cases c3 : contB (s[3]).toNat
      · exact size_bad43 s w hs h0 (by omega) a5 h1 c1 c2 c3 (hid (by rw [hu, u8four, c1, c2, c3]; rfl))
      rw [u8four, c1, c2, c3] at hu
      by_cases b1 : (s[0]).toNat = 240
      · by_cases b2 : (s[1]).toNat < 144
        · exact size_four_low s w hs h0 (by omega) a5 h1 c1 c2 c3 (by omega) b2 (hid (by rw [hu]; simp [b1, b2]))
        · exact size_four_a s w hs h0 (by omega) a5 h1 c1 c2 c3 (by omega) (by omega) (hid (by rw [hu]; simp [b1, b2]))
      · by_cases b2 : (s[0]).toNat = 244
        · by_cases b3 : 144 ≤ (s[1]).toNat
          · exact size_four_top s w hs h0 (by omega) a5 h1 c1 c2 c3 (by omega) b3 (hid (by rw [hu]; simp [b2, b3]))
          · exact size_four_c s w hs h0 (by omega) a5 h1 c1 c2 c3 (by omega) (by omega) (hid (by rw [hu]; simp [b2, b3]))
        · exact size_four_b s w hs h0 (by omega) a5 h1 c1 c2 c3 (by omega) (by omega) (hid (by rw [hu]; simp [b1, b2]))
    · have hz : u8four (s[0]).toNat ((bl s).drop 1) = false := by
        by_cases h2 : 1 < s.size
        · rw [bl_get s 1 h2]
          by_cases h3 : 2 < s.size
          · rw [bl_get s 2 h3, bl_end s 3 h1]; rfl
          · rw [bl_end s 2 h3]; rfl
        · rw [bl_end s 1 h2]; rfl
      rw [hz] at hu
      exact size_short4 s w hs h0 (by omega) a5 h1 (hid hu)
  · exact size_high s w hs h0 (by omega) (hid (by rw [e1]; simp only [u8n]; rw [if_neg a1, if_neg (by omega), if_neg (by omega), if_neg (by omega)]))

theorem u8n_le (l : Bs) : u8n l ≤ l.length := by
  cases l with
  | nil => exact Nat.le_refl _
  | cons a r =>
    have h2 : u8two r = true → 1 ≤ r.length := by
      cases r with
      | nil => intro h; cases h
      | cons b r => intro _; simp
    have h3 : u8three a.toNat r = true → 2 ≤ r.length := by
      match r with
      | [] => intro h; cases h
      | [_] => intro h; cases h
      | _ :: _ :: _ => intro _; simp
    have h4 : u8four a.toNat r = true → 3 ≤ r.length := by
      match r with
      | [] => intro h; cases h
      | [_] => intro h; cases h
      | [_, _] => intro h; cases h
      | _ :: _ :: _ :: _ => intro _; simp
    simp only [u8n, List.length_cons]
    split
    · omega
    · split
      · split
        · have := h2 (by assumption); omega
        · omega
      · split
        · split
          · have := h3 (by assumption); omega
          · omega
        · split
          · split
            · have := h4 (by assumption); omega
            · omega
          · omega

/-- A text is UTF-8 (in at most so many characters). -/
def validF : Nat → Bs → Bool
  | _, [] => true
  | 0, _ :: _ => false
  | f + 1, a :: r => u8n (a :: r) != 0 && validF f ((a :: r).drop (u8n (a :: r)))
def validU (l : Bs) : Bool := validF l.length l

theorem valid_step (s : ByteArray) (k f : Nat) (R : Bool) (h : k < s.size) (hf : s.size ≤ k + f) (hr : validF f ((bl s).drop k) = R) :
    (u8n ((bl s).drop k) = 0 ∧ R = false) ∨ (u8n ((bl s).drop k) ≠ 0 ∧ k + u8n ((bl s).drop k) ≤ s.size ∧ s.size ≤ k + u8n ((bl s).drop k) + (f - 1) ∧ validF (f - 1) ((bl s).drop (k + u8n ((bl s).drop k))) = R) := by
  obtain ⟨g, rfl⟩ : ∃ g, f = g + 1 := ⟨f - 1, by omega⟩
  have hle := u8n_le ((bl s).drop k)
  rw [List.length_drop, bl_length] at hle
  have hd := bl_get s k h
  generalize hn : u8n ((bl s).drop k) = n at *
  rw [hd] at hn hr
  simp only [validF] at hr
  rw [hn] at hr
  by_cases h0 : n = 0
  · subst h0
    exact .inl ⟨rfl, by simpa using hr.symm⟩
  · refine .inr ⟨h0, by omega, by omega, ?_⟩
    have : (n != 0) = true := by simpa using h0
    rw [this, Bool.true_and, ← hd, List.drop_drop] at hr
    exact hr

theorem Valid_any (s : ByteArray) (w : World) (hs : s.size ≤ 2147483647) :
    Calls Tryd.prog 82 #[.string s] w fun e w' => e = .returned (.bool (validU (bl s))) ∧ w = w' := by
  obtain ⟨R, hR⟩ : ∃ R, validU (bl s) = R := ⟨_, rfl⟩
  rw [hR]
  have HR : Hid (validF s.size ((bl s).drop 0) = R) := hid (by rw [← hR, validU, bl_length]; rfl)
  clear hR
  go_enter Tryd.func82, Tryd.ntmps82
  go_wp2
  go_loop [3] (fun i => ∃ k f : Nat, k ≤ s.size ∧ s.size ≤ k + f ∧ i = .int .i64 k ∧ Hid (validF f ((bl s).drop k) = R)) (fun i => s.size - (intOf i).toNat)
  case atStart => exact ⟨0, s.size, Nat.zero_le _, by omega, rfl, HR⟩
  case round =>
    obtain ⟨k, f, hk, hf, rfl, hr⟩ := hrel
    by_cases hlt : k < s.size
    · go_wp2_with fail
      have hbl : bl (s.extract k s.size) = (bl s).drop k := bl_from s k
      have hsz : (s.extract k s.size).size = s.size - k := by rw [← bl_length, hbl, List.length_drop, bl_length]
      refine (size_any _ _ (by rw [hsz]; omega) (by rw [hsz]; omega)).mono ?_
      rintro e w' ⟨rfl, rfl⟩
      rw [hbl]
      rcases valid_step s k f R hlt hf hr.out with ⟨hn, hx⟩ | ⟨hn, h1, h2, hx⟩
      · have HX := hid hx
        have Hn := hid hn
        have q1 : ((u8n ((bl s).drop k) : Nat) : Int) = 0 := by omega
        clear hx hn hbl hsz
        go_wp2_with fail
        go_ret
        exact ⟨by rw [HX.out]; rfl, rfl⟩
      · have HX := hid hx
        generalize hu : u8n ((bl s).drop k) = n at *
        have q1 : ((n : Nat) : Int) ≠ 0 := by omega
        clear hx hbl hsz hu
        go_wp2_with fail
        go_round
        case rel => exact ⟨k + n, f - 1, by omega, by omega, by go_num, HX⟩
        case measure => simp [intOf]; omega
    · have hx : R = true := by rw [← hr.out, bl_end s k hlt]; cases f <;> rfl
      have HX := hid hx
      clear hx
      go_wp2_with fail
      go_ret
      exact ⟨by rw [HX.out]; rfl, rfl⟩

/-- A text has another one in it. -/
def hasB (p : Bs) : Bs → Bool
  | [] => p.isEmpty
  | c :: r => p.isPrefixOf (c :: r) || hasB p r

theorem hasB_short (p l : Bs) (h : l.length < p.length) : hasB p l = false := by
  induction l with
  | nil =>
    cases p with
    | nil => simp at h
    | cons _ _ => rfl
  | cons c r ih =>
    simp only [hasB, Bool.or_eq_false_iff]
    refine ⟨?_, ih (by simp at h; omega)⟩
    rw [Bool.eq_false_iff]
    intro hp
    have := (List.isPrefixOf_iff_prefix.1 hp).length_le
    omega

theorem has_any (s t : ByteArray) (w : World) (hs : s.size ≤ 2147483647) (ht : t.size ≤ 2147483647) (ht0 : 0 < t.size) :
    Calls Tryd.prog 61 #[.string s, .string t] w fun e w' => e = .returned (.bool (hasB (bl t) (bl s))) ∧ w = w' := by
  obtain ⟨R, hR⟩ : ∃ R, hasB (bl t) (bl s) = R := ⟨_, rfl⟩
  rw [hR]
  have HR : Hid (hasB (bl t) ((bl s).drop 0) = R) := hid hR
  clear hR
  go_enter Tryd.func61, Tryd.ntmps61
  go_wp2
  go_loop [5] (fun i => ∃ k : Nat, k ≤ s.size ∧ i = .int .i64 k ∧ Hid (hasB (bl t) ((bl s).drop k) = R)) (fun i => s.size - (intOf i).toNat)
  case atStart => exact ⟨0, Nat.zero_le _, rfl, HR⟩
  case round =>
    obtain ⟨k, hk, rfl, hr⟩ := hrel
    by_cases hlt : k + t.size ≤ s.size
    · have hkl : k < s.size := by omega
      have hx : bl (s.extract k (k + t.size)) = ((bl s).drop k).take (bl t).length := by rw [bl_extract, bl_length]; congr 1; omega
      have hr' := hr.out
      have hd := bl_get s k hkl
      cases hp : (bl t).isPrefixOf ((bl s).drop k)
      · have hN : hasB (bl t) ((bl s).drop (k + 1)) = R := by
          rw [hd] at hp hr'
          simpa only [hasB, hp, Bool.false_or] using hr'
        have q : ((s.extract k (k + t.size)).toList == t.toList) = false := by
          rw [bl_toList, bl_toList, hx, beq_eq_false_iff_ne]
          intro e
          rw [Bool.eq_false_iff] at hp
          exact hp (List.isPrefixOf_iff_prefix.2 ⟨_, by rw [← e]; exact List.take_append_drop _ _⟩)
        have HN := hid hN
        clear hN hx hr' hd hp
        go_wp2_with fail
        go_round
        case rel => exact ⟨k + 1, by omega, by go_num, HN⟩
        case measure => simp [intOf]; omega
      · have hX : R = true := by
          rw [hd] at hp hr'
          rw [← hr']
          simp only [hasB, hp, Bool.true_or]
        have q : ((s.extract k (k + t.size)).toList == t.toList) = true := by
          rw [bl_toList, bl_toList, hx, beq_iff_eq]
          obtain ⟨u, hu⟩ := List.isPrefixOf_iff_prefix.1 hp
          rw [← hu]
          simp
        have HX := hid hX
        clear hX hx hr' hd hp
        go_wp2_with fail
        go_ret
        exact ⟨by rw [HX.out]; rfl, rfl⟩
    · have hX : R = false := by
        rw [← hr.out]
        exact hasB_short _ _ (by rw [List.length_drop, bl_length, bl_length]; omega)
      have HX := hid hX
      clear hX
      go_wp2_with fail
      go_ret
      exact ⟨by rw [HX.out]; rfl, rfl⟩

end Go.Proofs.YtohjnegllfdemaaDoor
