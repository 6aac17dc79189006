/-
  The walks of the reference's Whole, of ParseInteger, ParseDate and of impl's Integer, Date.
-/
import Derived.Test.YtohjnegllfdemaaDoorIntv
set_option maxRecDepth 100000
namespace Go.Proofs.YtohjnegllfdemaaDoor
open Go.RowKit

/-- The loop's head: digits. -/
def WhoInv (s : ByteArray) (o : Nat) (neg : Bool) (V : Nat) (n m i : Value) : Prop :=
  ∃ (k a : Nat) (q : Bool), k ≤ s.size ∧ n = .int .i64 a ∧ m = .bool q ∧ i = .int .i64 k ∧ ((k < o ∧ a = 0 ∧ q = false) ∨ (o ≤ k ∧ q = neg ∧ valD a ((bl s).drop k) = V ∧ digs ((bl s).drop k)))

theorem who_next {s : ByteArray} {k a V : Nat} (hlt : k < s.size) (h : valD a ((bl s).drop k) = V) (hd : digs ((bl s).drop k)) : digB (s[k]).toNat = true ∧ valD ((s[k]).toNat - 48 + a * 10) ((bl s).drop (k + 1)) = V ∧ digs ((bl s).drop (k + 1)) ∧ (s[k]).toNat - 48 + a * 10 ≤ V := by
  rw [bl_get s k hlt] at h hd
  rw [valD_cons] at h
  exact ⟨digs_head hd, h, digs_tail hd, by rw [← h]; exact valD_ge _ _⟩

set_option maxHeartbeats 1000000 in
theorem whole_pos (s : ByteArray) (w : World) (hs : s.size ≤ 2147483647) (hd : digs (bl s)) (hV : valD 0 (bl s) ≤ 1000000000000000) :
    Calls Tryd.prog 28 #[.string s] w fun e w' => e = .returned (.int .i64 (valD 0 (bl s) : Nat)) ∧ w = w' := by
  generalize hVV : valD 0 (bl s) = V at *
  have HI : WhoInv s 0 false V (.int .i64 0) (.bool false) (.int .i64 0) := ⟨0, 0, false, Nat.zero_le _, rfl, rfl, rfl, .inr ⟨Nat.le_refl _, rfl, hVV, hd⟩⟩
  clear hd hVV
  go_enter Tryd.func28, Tryd.ntmps28
  go_wp2
  go_loop [3, 4, 8] (fun n m i => WhoInv s 0 false V n m i) (fun _ _ i => s.size - (intOf i).toNat)
  case atStart => exact HI
  case round =>
    clear HI
    obtain ⟨k, a, q, hk, rfl, rfl, rfl, ⟨h0, _⟩ | ⟨_, rfl, hv, hd⟩⟩ := hrel
    · omega
    by_cases hlt : k < s.size
    · obtain ⟨hb, h1, h2, h3⟩ := who_next hlt hv hd
      obtain ⟨b1, b2⟩ := dig_two hb
      have c1 : (((s[k]).toNat : Int) == 45) = false := eqF (n := 45) (by omega)
      have HN := hid (show WhoInv s 0 false V (.int .i64 (((s[k]).toNat - 48 + a * 10 : Nat) : Int)) (.bool false) (.int .i64 ((k + 1 : Nat) : Int)) from ⟨k + 1, _, false, hlt, rfl, rfl, rfl, .inr ⟨Nat.zero_le _, rfl, h1, h2⟩⟩)
      have e1 : (((s[k]).toNat - 48 + a * 10 : Nat) : Int) = (a : Int) * 10 + (((s[k]).toNat : Int) - 48) := by omega
      rw [e1] at HN
      clear hb h1 h2 hv hd e1
      go_wp2
      go_round
      case rel => simpa using HN.out
      case measure => simp [intOf]; omega
    · have hx := bl_end s k hlt
      rw [hx] at hv
      have HX := hid (show a = V from hv)
      clear hv hd hx
      go_wp2
      go_ret
      exact ⟨by rw [HX.out]; rfl, rfl⟩

set_option maxHeartbeats 1000000 in
theorem whole_neg (s : ByteArray) (t : Bs) (w : World) (hs : s.size ≤ 2147483647) (ht : bl s = 45 :: t) (hd : digs t) (hV : valD 0 t ≤ 1000000000000000) :
    Calls Tryd.prog 28 #[.string s] w fun e w' => e = .returned (.int .i64 (-(valD 0 t : Nat))) ∧ w = w' := by
  generalize hVV : valD 0 t = V at *
  have hs0 : 0 < s.size := by rw [← bl_length, ht]; simp
  have hb0 := bl_get s 0 hs0
  rw [List.drop_zero, Nat.zero_add, ht] at hb0
  obtain ⟨hb1, hb2⟩ := List.cons.inj hb0
  have q45 : (((s[0]).toNat : Int) == 45) = true := eqT (n := 45) (by rw [← hb1]; rfl)
  have HT := hid (show valD 0 ((bl s).drop 1) = V ∧ digs ((bl s).drop 1) from by rw [ht]; exact ⟨hVV, hd⟩)
  have HI : WhoInv s 1 true V (.int .i64 0) (.bool false) (.int .i64 0) := ⟨0, 0, false, Nat.zero_le _, rfl, rfl, rfl, .inl ⟨by omega, rfl, rfl⟩⟩
  clear hd hVV hb0 hb1 hb2 ht
  go_enter Tryd.func28, Tryd.ntmps28
  go_wp2
  go_loop [3, 4, 8] (fun n m i => WhoInv s 1 true V n m i) (fun _ _ i => s.size - (intOf i).toNat)
  case atStart => exact HI
  case round =>
    clear HI
    obtain ⟨k, a, q, hk, rfl, rfl, rfl, ⟨h0, rfl, rfl⟩ | ⟨hk1, rfl, hv, hd⟩⟩ := hrel
    · obtain rfl : k = 0 := by omega
      have HN := hid (show WhoInv s 1 true V (.int .i64 0) (.bool true) (.int .i64 1) from ⟨1, 0, true, hs0, rfl, rfl, rfl, .inr ⟨Nat.le_refl _, rfl, HT.out.1, HT.out.2⟩⟩)
      go_wp2
      go_round
      case rel => simpa using HN.out
      case measure => simp [intOf]; omega
    by_cases hlt : k < s.size
    · obtain ⟨hb, h1, h2, h3⟩ := who_next hlt hv hd
      obtain ⟨b1, b2⟩ := dig_two hb
      have c1 : (((s[k]).toNat : Int) == 45) = false := eqF (n := 45) (by omega)
      have HN := hid (show WhoInv s 1 true V (.int .i64 (((s[k]).toNat - 48 + a * 10 : Nat) : Int)) (.bool true) (.int .i64 ((k + 1 : Nat) : Int)) from ⟨k + 1, _, true, hlt, rfl, rfl, rfl, .inr ⟨by omega, rfl, h1, h2⟩⟩)
      have e1 : (((s[k]).toNat - 48 + a * 10 : Nat) : Int) = (a : Int) * 10 + (((s[k]).toNat : Int) - 48) := by omega
      rw [e1] at HN
      clear hb h1 h2 hv hd e1 q45
      go_wp2
      go_round
      case rel => simpa using HN.out
      case measure => simp [intOf]; omega
    · have hx := bl_end s k hlt
      rw [hx] at hv
      have hx2 : a = V := hv
      have HX := hid hx2
      have ha : (a : Int) ≤ 1000000000000000 := by omega
      clear hv hd hx hx2
      go_wp2
      go_ret
      exact ⟨by rw [HX.out]; rfl, rfl⟩

theorem whole_any (s : ByteArray) (w : World) (hs : s.size ≤ 2147483647) (h : num (bl s) = some (false, [])) :
    Calls Tryd.prog 28 #[.string s] w fun e w' => e = .returned (.int .i64 (intV (bl s))) ∧ w = w' := by
  obtain ⟨c, t, he, ⟨rfl, h1, h2, h3⟩ | ⟨hc, h1, h3⟩⟩ := int_parts h
  · have hv := valD_lt t 0 0 h1 (by decide)
    have h4 : 10 ^ (0 + t.length) ≤ 1000000000000000 := pow10_le (by omega)
    have hi : intV (bl s) = -(valD 0 t : Nat) := by rw [he]; simp [intV]
    rw [hi]
    exact whole_neg s t w hs he h1 (by omega)
  · have hv := valD_lt (c :: t) 0 0 h1 (by decide)
    have h4 : 10 ^ (0 + (c :: t).length) ≤ 1000000000000000 := pow10_le (by simp only [List.length_cons]; omega)
    have hi : intV (bl s) = (valD 0 (bl s) : Nat) := by rw [he]; simp [intV, hc]
    rw [hi]
    rw [← he] at h1 hv h4
    exact whole_pos s w hs h1 (by omega)

/-- What ParseInteger gives. -/
def PIntPost (s : ByteArray) (e : Ending) : Prop :=
  (num (bl s) = some (false, []) ∧ e = .returned (.tuple #[.int .i64 (intV (bl s)), .bool true])) ∨ (num (bl s) ≠ some (false, []) ∧ e = .returned (.tuple #[.int .i64 0, .bool false]))
theorem bytesWorld_gr (w : World) (T : TypeId) (t : ByteArray) : Gr w (Lib.bytesWorld w T t) := Lib.bytesWorld_below _ _ _

set_option maxHeartbeats 1000000 in
theorem parseInteger_yes (s : ByteArray) (w : World) (hs : s.size ≤ 2147483647) (h : num (bl s) = some (false, [])) :
    Calls Tryd.prog 52 #[.string s] w fun e w' => e = .returned (.tuple #[.int .i64 (intV (bl s)), .bool true]) ∧ Gr w w' := by
  have H := hid h
  clear h
  go_enter Tryd.func52, Tryd.ntmps52
  go_wp2_with fail
  refine (consumeIntegerOrDecimal_any _ _ (by unfold maxLen; omega)).mono ?_
  rintro e w1 ⟨hp, hg⟩
  rw [H.out] at hp
  obtain ⟨c, t, rfl, _, ht⟩ := hp
  obtain rfl := bl_empty ht
  have HG := hid hg
  clear hg ht
  go_wp2_with fail
  refine (YtohjnegllfdemaaDoor.parseInt_ok s (by omega) (intV (bl s)) (parseIntB_ok H.out) _).mono ?_
  rintro e w2 ⟨rfl, hw⟩
  have HG2 := hid (show Gr w w2 by
    rcases hw with rfl | ⟨t, rfl⟩
    · exact HG.out
    · exact HG.out.trans (bytesWorld_gr _ _ _))
  clear hw
  go_wp2_with fail
  go_ret2
  exact ⟨rfl, HG2.out⟩

set_option maxHeartbeats 1000000 in
theorem parseInteger_any (s : ByteArray) (w : World) (hs : s.size ≤ 2147483647) (tp : TypeId) (p : Value) (hE : w.cell? ⟨2, 0, none⟩ = some (.iface tp p)) :
    Calls Tryd.prog 52 #[.string s] w fun e w' => PIntPost s e ∧ Gr w w' := by
  cases hn : num (bl s) with
  | none =>
    have H := hid hn
    clear hn
    go_enter Tryd.func52, Tryd.ntmps52
    go_wp2_with fail
    refine (consumeIntegerOrDecimal_any _ _ (by unfold maxLen; omega)).mono ?_
    rintro e w1 ⟨hp, hg⟩
    rw [H.out] at hp
    obtain ⟨c, t, rfl⟩ := hp
    go_wp2_with fail
    go_ret2
    exact ⟨.inr ⟨by rw [H.out]; simp, rfl⟩, hg⟩
  | some x =>
    obtain ⟨d, r⟩ := x
    by_cases hr : r = []
    · subst hr
      cases d
      · exact (parseInteger_yes s w hs hn).mono fun _ _ ⟨h1, h2⟩ => ⟨.inl ⟨hn, h1⟩, h2⟩
      · have H := hid hn
        have HE := hid hE
        clear hn hE
        go_enter Tryd.func52, Tryd.ntmps52
        go_wp2_with fail
        refine (consumeIntegerOrDecimal_any _ _ (by unfold maxLen; omega)).mono ?_
        rintro e w1 ⟨hp, hg⟩
        rw [H.out] at hp
        obtain ⟨c, t, rfl, _, ht⟩ := hp
        obtain rfl := bl_empty ht
        have HG := hid hg
        clear hg ht
        go_wp2_with fail
        refine (YtohjnegllfdemaaDoor.parseInt_bad s (by omega) (parseIntB_bad H.out) tp p _ (HG.out.cell HE.out)).mono ?_
        rintro e w2 ⟨N, rfl, _, _, hb⟩
        have HG2 := hid (HG.out.trans hb)
        clear hb
        go_wp2_with fail
        go_ret2
        exact ⟨.inr ⟨by rw [H.out]; simp, rfl⟩, HG2.out⟩
    · have H := hid hn
      have HR := hid hr
      clear hn hr
      go_enter Tryd.func52, Tryd.ntmps52
      go_wp2_with fail
      refine (consumeIntegerOrDecimal_any _ _ (by unfold maxLen; omega)).mono ?_
      rintro e w1 ⟨hp, hg⟩
      rw [H.out] at hp
      obtain ⟨c, t, rfl, _, ht⟩ := hp
      have hne : t ≠ ⟨#[]⟩ := by
        rintro rfl
        exact HR.out ht.symm
      have hne2 : t.toList.isEmpty = false := by
        rw [List.isEmpty_eq_false_iff, bl_toList]
        intro e
        exact hne (bl_empty e)
      have hne3 : ¬ t.toList = [] := by intro e; rw [e] at hne2; cases hne2
      clear ht
      go_wp2_with fail
      go_ret2
      exact ⟨.inr ⟨by rw [H.out]; simp [HR.out], rfl⟩, hg⟩

theorem implInteger_any (s : ByteArray) (w : World) (hs : s.size ≤ 2147483647) (tp : TypeId) (p : Value) (hE : w.cell? ⟨2, 0, none⟩ = some (.iface tp p)) :
    Calls Tryd.prog 27 #[.string s] w fun e w' => PIntPost s e ∧ Gr w w' := by
  have HE := hid hE
  clear hE
  go_enter Tryd.func27, Tryd.ntmps27
  go_wp2_with fail
  refine (parseInteger_any s _ hs tp p HE.out).mono ?_
  rintro e w1 ⟨⟨h1, rfl⟩ | ⟨h1, rfl⟩, hg⟩
  all_goals
    have H1 := hid h1
    clear h1
    go_wp2_with fail
    go_ret2
  · exact ⟨.inl ⟨H1.out, rfl⟩, hg⟩
  · exact ⟨.inr ⟨H1.out, rfl⟩, hg⟩

/-- What the text of a date is worth. -/
def datV (l : Bs) : Int := intV (l.drop 1)
/-- What ParseDate gives. -/
def PDatPost (s : ByteArray) (e : Ending) : Prop :=
  (dat (bl s) = some [] ∧ e = .returned (.tuple #[.int .i64 (datV (bl s)), .bool true])) ∨ (dat (bl s) ≠ some [] ∧ e = .returned (.tuple #[.int .i64 0, .bool false]))

set_option maxHeartbeats 1000000 in
theorem parseDate_any (s : ByteArray) (w : World) (hs : s.size ≤ 2147483647) :
    Calls Tryd.prog 53 #[.string s] w fun e w' => PDatPost s e ∧ Gr w w' := by
  cases hn : dat (bl s) with
  | none =>
    have H := hid hn
    clear hn
    go_enter Tryd.func53, Tryd.ntmps53
    go_wp2_with fail
    refine (consumeDate_any _ _ (by unfold maxLen; omega)).mono ?_
    rintro e w1 ⟨hp, hg⟩
    rw [H.out] at hp
    obtain ⟨c, t, rfl⟩ := hp
    go_wp2_with fail
    go_ret2
    exact ⟨.inr ⟨by rw [H.out]; simp, rfl⟩, hg⟩
  | some r =>
    by_cases hr : r = []
    · subst hr
      obtain ⟨t0, hl, hnum⟩ := dat_num hn
      have h0 : 1 ≤ s.size := by rw [← bl_length, hl]; simp
      have hnum' : num (bl (s.extract 1 s.size)) = some (false, []) := by rw [bl_from, hl]; exact hnum
      have hsz : (s.extract 1 s.size).size ≤ 2147483647 := by rw [ByteArray.size_extract]; omega
      have HV := hid (show intV (bl (s.extract 1 s.size)) = datV (bl s) by rw [bl_from]; rfl)
      have H := hid hn
      have HNUM := hid hnum'
      clear hn hl hnum hnum'
      go_enter Tryd.func53, Tryd.ntmps53
      go_wp2_with fail
      refine (consumeDate_any _ _ (by unfold maxLen; omega)).mono ?_
      rintro e w1 ⟨hp, hg⟩
      rw [H.out] at hp
      obtain ⟨c, t, rfl, _, ht⟩ := hp
      obtain rfl := bl_empty ht
      have HG := hid hg
      clear hg ht
      go_wp2_with fail
      refine (parseInteger_yes _ _ hsz HNUM.out).mono ?_
      rintro e w2 ⟨rfl, hg2⟩
      go_wp2_with fail
      go_ret2
      exact ⟨.inl ⟨H.out, by rw [HV.out]; rfl⟩, HG.out.trans hg2⟩
    · have H := hid hn
      have HR := hid hr
      clear hn hr
      go_enter Tryd.func53, Tryd.ntmps53
      go_wp2_with fail
      refine (consumeDate_any _ _ (by unfold maxLen; omega)).mono ?_
      rintro e w1 ⟨hp, hg⟩
      rw [H.out] at hp
      obtain ⟨c, t, rfl, _, ht⟩ := hp
      have hne : t ≠ ⟨#[]⟩ := by
        rintro rfl
        exact HR.out ht.symm
      have hne2 : t.toList.isEmpty = false := by
        rw [List.isEmpty_eq_false_iff, bl_toList]
        intro e
        exact hne (bl_empty e)
      have hne3 : ¬ t.toList = [] := by intro e; rw [e] at hne2; cases hne2
      clear ht
      go_wp2_with fail
      go_ret2
      exact ⟨.inr ⟨by rw [H.out]; simp [HR.out], rfl⟩, hg⟩

theorem implDate_any (s : ByteArray) (w : World) (hs : s.size ≤ 2147483647) :
    Calls Tryd.prog 29 #[.string s] w fun e w' => PDatPost s e ∧ Gr w w' := by
  go_enter Tryd.func29, Tryd.ntmps29
  go_wp2_with fail
  refine (parseDate_any s _ hs).mono ?_
  rintro e w1 ⟨⟨h1, rfl⟩ | ⟨h1, rfl⟩, hg⟩
  all_goals
    have H1 := hid h1
    clear h1
    go_wp2_with fail
    go_ret2
  · exact ⟨.inl ⟨H1.out, rfl⟩, hg⟩
  · exact ⟨.inr ⟨H1.out, rfl⟩, hg⟩

end Go.Proofs.YtohjnegllfdemaaDoor
