/-
  The walks of the reference's member, comma and List.
-/
import Derived.Test.YtohjnegllfdemaaDoorSInn2
import Derived.Test.YtohjnegllfdemaaDoorCLis
import Derived.Test.YtohjnegllfdemaaDoorLawI
set_option maxRecDepth 100000
namespace Go.Proofs.YtohjnegllfdemaaDoor
open Go.RowKit

theorem mem_hd {l : Bs} (h : hdN l ≠ 40) : mem l = bare l := by
  cases l with
  | nil => rfl
  | cons c t => exact mem_bare rfl h
theorem mem_hd40 {l : Bs} (h : hdN l = 40) : mem l = (inn l).map (·.2) := by
  obtain ⟨c, t, rfl, hc⟩ := hd_cons h (by decide)
  exact mem_inn rfl hc

theorem ahead_no40 {l r : Bs} (h : hdN l ≠ 40) (hb : bare l = some r) (e : ahead l r = [40]) : False := by
  cases l with
  | nil => cases hb
  | cons c t =>
    unfold ahead at e
    cases hn : (c :: t).length - r.length with
    | zero => rw [hn] at e; cases e
    | succ m =>
      rw [hn, List.take_succ_cons] at e
      exact h (by rw [(List.cons.inj e).1]; rfl)

/-- Behind a member. -/
def MemPost (b : Nat) (s : ByteArray) (k : Nat) (odd : Bool) (w : World) (e : Ending) (w' : World) : Prop :=
  Fr b w w' ∧ ∃ (t : ByteArray) (j : Nat) (bad' odd' : Bool), e = .returned (.string t) ∧ k ≤ j ∧ j ≤ s.size ∧ PS w' b s j bad' odd' ∧
    (odd' = false → odd = false ∧ ((bad' = true ∧ mem ((bl s).drop k) = none) ∨ (bad' = false ∧ ∃ r, mem ((bl s).drop k) = some r ∧ (bl s).drop j = r ∧ bl t = ahead ((bl s).drop k) r ∧ bl t ≠ [40])))

set_option maxHeartbeats 2000000 in
theorem member_any (b k : Nat) (s : ByteArray) (odd : Bool) (w : World) (hs : s.size ≤ 2147483647) (hk : k ≤ s.size) (h : PS w b s k false odd) :
    Calls Tryd.prog 46 #[.pointer (some ⟨b, 0, none⟩)] w fun e w' => MemPost b s k odd w e w' := by
  have HP := hid h
  clear h
  go_enter Tryd.func46, Tryd.ntmps46
  go_wp2_with fail
  refine (next_any b k s false odd _ hs hk HP.out).mono ?_
  rintro e w1 ⟨rfl, hp1, hg1⟩
  have HP1 := hid hp1
  have HF1 := hid (Fr.of_gr (b := b) hg1)
  clear hp1 hg1
  by_cases hc : hdN ((bl s).drop k) = 40
  · have q : ((hdN ((bl s).drop k) : Int) == 40) = true := eqT hc
    have HC := hid hc
    clear hc
    go_wp2_with fail
    refine (inner_any b k s odd _ hs HC.out HP1.out).mono ?_
    rintro e w2 ⟨hf2, t, v, ps, j, bad', odd', rfl, hkj, hj, hp2, _, _, hrel⟩
    have HP2 := hid hp2
    have HF2 := hid (HF1.out.trans hf2)
    have HREL := hid hrel
    clear hp2 hf2 hrel
    go_wp2_with fail
    go_ret
    refine ⟨HF2.out, t, j, bad', odd', rfl, by omega, hj, HP2.out, fun h0 => ?_⟩
    obtain ⟨h1, ⟨h2, h3⟩ | ⟨h2, ys, r, h3, h4, h5, _, h6⟩⟩ := HREL.out h0
    · exact ⟨h1, .inl ⟨h2, by rw [mem_hd40 HC.out, h3]; rfl⟩⟩
    · exact ⟨h1, .inr ⟨h2, r, by rw [mem_hd40 HC.out, h3]; rfl, h4, h5, h6⟩⟩
  · have q : ((hdN ((bl s).drop k) : Int) == 40) = false := eqF hc
    have HC := hid hc
    clear hc
    go_wp2_with fail
    refine (item_any b k s odd _ hs hk HP1.out).mono ?_
    rintro e w2 ⟨hf2, ⟨hb, rfl, hp2⟩ | ⟨t, j, odd', rfl, hkj, hj, hp2, hit⟩⟩
    · have HP2 := hid hp2
      have HF2 := hid (HF1.out.trans hf2)
      have HB := hid hb
      clear hp2 hf2 hb
      go_wp2_with fail
      go_ret
      exact ⟨HF2.out, _, k, true, odd, rfl, Nat.le_refl _, hk, HP2.out, fun h0 => ⟨h0, .inl ⟨rfl, by rw [mem_hd HC.out, HB.out]⟩⟩⟩
    · have HP2 := hid hp2
      have HF2 := hid (HF1.out.trans hf2)
      have HIT := hid hit
      clear hp2 hf2 hit
      go_wp2_with fail
      go_ret
      refine ⟨HF2.out, t, j, false, odd', rfl, hkj, hj, HP2.out, fun h0 => ?_⟩
      obtain ⟨h1, r, h2, h3, h4⟩ := HIT.out h0
      exact ⟨h1, .inr ⟨rfl, r, by rw [mem_hd HC.out, h2], h3, h4, fun e => ahead_no40 HC.out h2 (h4.symm.trans e)⟩⟩

/-- Behind a comma: what was there. -/
def ComPost (b : Nat) (s : ByteArray) (k : Nat) (bad odd needed : Bool) (w : World) (e : Ending) (w' : World) : Prop :=
  Fr b w w' ∧ ∃ (j : Nat) (bad' odd' q : Bool), e = .returned (.bool q) ∧ k ≤ j ∧ j ≤ s.size ∧ PS w' b s j bad' odd' ∧ (q = true → k < j ∧ bad' = false) ∧
    ((q = false ∧ bad' = bad ∧ odd' = odd ∧ (bl s).drop j = skip wsB ((bl s).drop k) ∧ (bad = true ∨ (bl s).drop j = [])) ∨
     (bad = false ∧ q = false ∧ bad' = true ∧ odd' = (odd || !needed) ∧ ∃ d r3, skip wsB ((bl s).drop k) = d :: r3 ∧ d.toNat ≠ 44) ∨
     (bad = false ∧ q = false ∧ bad' = true ∧ odd' = odd ∧ ∃ d r3, skip wsB ((bl s).drop k) = d :: r3 ∧ d.toNat = 44 ∧ skip wsB r3 = []) ∨
     (bad = false ∧ q = true ∧ bad' = false ∧ odd' = odd ∧ ∃ d r3 e4 r4, skip wsB ((bl s).drop k) = d :: r3 ∧ d.toNat = 44 ∧ skip wsB r3 = e4 :: r4 ∧ (bl s).drop j = e4 :: r4))

set_option maxHeartbeats 8000000 in
theorem comma_any (b k : Nat) (s : ByteArray) (bad odd needed : Bool) (w : World) (hs : s.size ≤ 2147483647) (hk : k ≤ s.size) (h : PS w b s k bad odd) :
    Calls Tryd.prog 45 #[.pointer (some ⟨b, 0, none⟩), .bool needed] w fun e w' => ComPost b s k bad odd needed w e w' := by
  have HP := hid h
  clear h
  go_enter Tryd.func45, Tryd.ntmps45
  go_wp2_with fail
  refine (blanks_yes b k s bad odd _ hs hk HP.out).mono ?_
  rintro e w1 ⟨rfl, k1, hk1, hk1s, hd1, hp1, hf1⟩
  have hp1' : PS w1 b s k1 bad odd := by simpa using hp1
  have d0 := hp1'.c0
  have d1 := hp1'.c1
  have d2 := hp1'.c2
  have f2 := hp1'.fz 2
  have HP1 := hid hp1'
  have HF1 := hid hf1
  have HD1 := hid hd1
  clear hp1 hp1' hf1 hd1
  by_cases hlt : k1 < s.size
  case neg =>
    have q1 : ((k1 : Int) == (s.size : Int)) = true := by rw [beq_iff_eq]; omega
    go_wp2_with fail
    go_quiet (fail)
    go_wp2_with fail
    go_ret
    exact ⟨HF1.out.trans (Fr.of_gr ((Gr.refl _).drewN _)), k1, bad, odd, false, rfl, hk1, hk1s, HP1.out.gr ((Gr.refl _).drewN _), (fun h => by cases h), .inl ⟨rfl, rfl, rfl, HD1.out, .inr (drop_nil hlt)⟩⟩
  have q1 : ((k1 : Int) == (s.size : Int)) = false := by rw [beq_eq_false_iff_ne]; omega
  cases bad
  case true =>
    go_wp2_with fail
    go_quiet (fail)
    go_wp2_with fail
    go_ret
    exact ⟨HF1.out.trans (Fr.of_gr ((Gr.refl _).drewN _)), k1, true, odd, false, rfl, hk1, hk1s, HP1.out.gr ((Gr.refl _).drewN _), (fun h => by cases h), .inl ⟨rfl, rfl, rfl, HD1.out, .inl rfl⟩⟩
  obtain ⟨d, hdc, hdh⟩ := drop_cons hlt
  have HDC := hid hdc
  have HDH := hid hdh
  clear hdc hdh
  go_wp2_with fail
  go_quiet (fail)
  go_wp2_with fail
  refine (next_any b k1 s false odd _ hs hk1s (HP1.out.gr ((Gr.refl _).drewN _))).mono ?_
  rintro e w2 ⟨rfl, hp2, hg2⟩
  have HF2 := hid ((HF1.out.trans (Fr.of_gr ((Gr.refl _).drewN _))).trans (Fr.of_gr hg2))
  have HP2 := hid hp2
  have c1 := hp2.c1
  have c2 := hp2.c2
  have c3 := hp2.c3
  have g1 := hp2.fz 1
  have g2 := hp2.fz 2
  have g3 := hp2.fz 3
  clear hp2 hg2 d0 d1 d2 f2
  by_cases h44 : hdN ((bl s).drop k1) = 44
  · have q44 : ((hdN ((bl s).drop k1) : Int) != 44) = false := neF h44
    have H44 := hid (HDH.out.trans h44)
    clear h44
    cases odd
    all_goals
      go_wp2_with fail
      refine (blanks_yes b (k1 + 1) s false _ _ hs hlt (((HP2.out.worse false).odder _).at (k1 + 1) _ (by omega))).mono ?_
      rintro e w3 ⟨rfl, k2, hk2, hk2s, hd2, hp3, hf3⟩
      have HF3 := hid ((((HF2.out.set 2 _).set 3 _).set 1 _).trans hf3)
      have HD2 := hid hd2
      clear hd2 hf3
      simp only [Bool.not_true, Bool.false_and, Bool.or_false] at hp3
      have d0 := hp3.c0
      have d1 := hp3.c1
      have d2 := hp3.c2
      have f2 := hp3.fz 2
      have HP3 := hid hp3
      clear hp3 c1 c2 c3 g1 g2 g3
      by_cases hlt2 : k2 < s.size
      · have q2 : ((k2 : Int) == (s.size : Int)) = false := by rw [beq_eq_false_iff_ne]; omega
        obtain ⟨d4, hdc4, _⟩ := drop_cons hlt2
        have HDC4 := hid hdc4
        clear hdc4
        go_wp2_with fail
        go_region
        all_goals
          go_wp2_with fail
          go_ret
          exact ⟨Fr.trans (HF3.out.set 2 _) (Fr.of_gr (Gr.refl _).drew), k2, false, _, true, rfl, by omega, hk2s, (HP3.out.worse false).gr (Gr.refl _).drew, fun _ => ⟨by omega, rfl⟩, .inr (.inr (.inr ⟨rfl, rfl, rfl, rfl, d, _, d4, _, by rw [← HD1.out, HDC.out], H44.out, by rw [← HD2.out, HDC4.out], HDC4.out⟩))⟩
      · have q2 : ((k2 : Int) == (s.size : Int)) = true := by rw [beq_iff_eq]; omega
        have HN := hid (drop_nil hlt2)
        go_wp2_with fail
        go_region
        all_goals
          go_wp2_with fail
          go_ret
          exact ⟨Fr.trans (HF3.out.set 2 _) (Fr.of_gr (Gr.refl _).drew), k2, true, _, false, rfl, by omega, hk2s, (HP3.out.worse true).gr (Gr.refl _).drew, (fun h => by cases h), .inr (.inr (.inl ⟨rfl, rfl, rfl, rfl, d, _, by rw [← HD1.out, HDC.out], H44.out, by rw [← HD2.out, HN.out]⟩))⟩
  · have q44 : ((hdN ((bl s).drop k1) : Int) != 44) = true := neT h44
    have H44 := hid (show d.toNat ≠ 44 by rw [HDH.out]; exact h44)
    clear h44
    cases odd
    all_goals cases needed
    all_goals
      go_wp2_with fail
      refine (blanks_yes b (k1 + 1) s true _ _ hs hlt (((HP2.out.worse true).odder _).at (k1 + 1) _ (by omega))).mono ?_
      rintro e w3 ⟨rfl, k2, hk2, hk2s, hd2, hp3, hf3⟩
      have HF3 := hid ((((HF2.out.set 2 _).set 3 _).set 1 _).trans hf3)
      clear hd2 hf3
      simp only [Bool.not_true, Bool.false_and, Bool.or_false] at hp3
      have d0 := hp3.c0
      have d1 := hp3.c1
      have d2 := hp3.c2
      have f2 := hp3.fz 2
      have HP3 := hid hp3
      clear hp3 c1 c2 c3 g1 g2 g3
      go_wp2_with fail
      go_region
      all_goals
        go_wp2_with fail
        go_ret
        exact ⟨Fr.trans (HF3.out.set 2 _) (Fr.of_gr (Gr.refl _).drew), k2, true, _, false, rfl, by omega, hk2s, (HP3.out.worse true).gr (Gr.refl _).drew, (fun h => by cases h), .inr (.inl ⟨rfl, rfl, rfl, rfl, d, _, by rw [← HD1.out, HDC.out], H44.out⟩)⟩

end Go.Proofs.YtohjnegllfdemaaDoor
