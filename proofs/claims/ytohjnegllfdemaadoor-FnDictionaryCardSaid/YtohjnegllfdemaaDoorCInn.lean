/-
  The walks of consumeBareInnerList: without a function; with impl.InnerList's closure.
-/
import Derived.Test.YtohjnegllfdemaaDoorCPar
import Derived.Test.YtohjnegllfdemaaDoorGram4
set_option maxRecDepth 100000
namespace Go.Proofs.YtohjnegllfdemaaDoor
open Go.RowKit

/-- With the closure: what was handed out. -/
def CInnPost (B C : Nat) (s : ByteArray) (w : World) (e : Ending) (w' : World) : Prop :=
  Below B w w' ∧ ((inn (bl s) = none ∧ Nope e ∧ ∃ ps, Cap w' C B ps) ∨ ∃ ys r ps, inn (bl s) = some (ys, r) ∧ Took s r e ∧ psL ps = ys ∧ Cap w' C B ps)
theorem cinn_some (B C : Nat) (s : ByteArray) (w w' : World) (e : Ending) (ys : List (Bs × Bs)) (r : Bs) (ps : Ps) {R : Option (List (Bs × Bs) × Bs)} (h0 : inn (bl s) = R) (h : R = some (ys, r)) (hp : psL ps = ys) (hc : Cap w' C B ps) (hb : Below B w w') (ht : Took s r e) : CInnPost B C s w e w' :=
  ⟨hb, .inr ⟨ys, r, ps, h0.trans h, ht, hp, hc⟩⟩
theorem cinn_none (B C : Nat) (s : ByteArray) (w w' : World) (e : Ending) {R : Option (List (Bs × Bs) × Bs)} {ps : Ps} (h0 : inn (bl s) = R) (h : R = none) (hb : Below B w w') (hc : Cap w' C B ps) (hn : Nope e) : CInnPost B C s w e w' :=
  ⟨hb, .inl ⟨h0.trans h, hn, ps, hc⟩⟩
theorem close_ne {u : ByteArray} {l : Bs} (hl : bl u = l) (h : noClose l) : u.size = 0 ∨ ∃ h0 : 0 < u.size, (((u[0]).toNat : Int) == 41) = false := by
  rcases h with rfl | ⟨d, r, rfl, hd⟩
  · exact .inl (size_of _ _ hl)
  · obtain ⟨h0, h1⟩ := bl_cons hl
    exact .inr ⟨h0, by rw [h1]; exact eqF hd⟩
theorem spB_eq {n : Nat} (h : n ≠ 32) : spB n = false := by simpa [spB] using h

set_option maxHeartbeats 4000000 in
theorem consumeInner_nil (s : ByteArray) (w : World) (hs : s.size ≤ 4294967296) (hT : Lib.Utf8Tabs 0 1 w) :
    Calls Tryd.prog 70 #[.string s, .nilFunc] w fun e w' => OptPost s ((inn (bl s)).map (·.2)) e ∧ Gr w w' := by
  obtain ⟨R, hR⟩ : ∃ R, inn (bl s) = R := ⟨_, rfl⟩
  have HR0 := hid hR
  have HT := hid hT
  clear hT
  rw [HR0.out]
  have hnf : ∀ W : World, (binOp .neq 68 .nilFunc .nilFunc).run Tryd.prog W = .ok (.bool false) W := fun W => by kernel_rfl
  by_cases h0 : 0 < s.size
  case neg =>
    obtain rfl := bl_empty (a := s) (List.eq_nil_of_length_eq_zero (by rw [bl_length]; omega))
    have HX := hid (show R = none from hR.symm)
    clear h0 hs hR
    go_enter Tryd.func70, Tryd.ntmps70
    go_wp2_with fail
    go_ret3
    exact ⟨by rw [HX.out]; exact ⟨_, _, rfl⟩, (Gr.refl _)⟩
  have hb0 := bl_get s 0 h0
  rw [List.drop_zero, Nat.zero_add] at hb0
  have hne0 := lenF h0
  by_cases hc : (s[0]).toNat = 40
  case neg =>
    have c1 : (((s[0]).toNat : Int) != 40) = true := neT hc
    have HX := hid (show R = none by
      rw [← hR, hb0, inn, if_neg (by simpa using hc)])
    clear hR hb0 hc
    go_enter Tryd.func70, Tryd.ntmps70
    go_wp2_with fail
    go_ret3
    exact ⟨by rw [HX.out]; exact ⟨_, _, rfl⟩, (Gr.refl _)⟩
  have c1 : (((s[0]).toNat : Int) != 40) = false := neF hc
  have HR := hid (show pre [] (innT ((bl s).drop 1)) = R by
    have h40 : ((s[0]).toNat == 40) = true := by simpa using hc
    have : inn (s[0] :: (bl s).drop 1) = innT ((bl s).drop 1) := by rw [inn, if_pos h40]; rfl
    rw [pre_nil, ← hR, ← this, ← hb0])
  clear hR hb0 hc
  have hs1 : (s.extract 1 s.size).size ≤ s.size := by rw [ByteArray.size_extract]; omega
  have HS1' := hid hs1
  clear hs1
  go_enter Tryd.func70, Tryd.ntmps70
  go_wp2_with fail
  clear c1 hne0
  go_loopw [5] (fun v wr => ∃ (t : ByteArray) (ys : List (Bs × Bs)), v = .string t ∧ t.size ≤ s.size ∧ Hid (pre ys (innT (bl t)) = R) ∧ Hid (Gr w wr) ∧ Hid (ys.length ≤ ys.length)) (fun v _ => (strOf v).size)
  case atStart => exact ⟨_, [], rfl, HS1'.out, by rw [bl_from]; exact HR, hid (Gr.refl _), hid (Nat.le_refl _)⟩
  case round =>
    clear HR HS1'
    obtain ⟨t, ys, rfl, hts, hr, hg, _⟩ := hrel
    have HTr := hid (tabs_below HT.out hg.out (tabs_two HT.out))
    by_cases h0t : 0 < t.size
    case neg =>
      obtain rfl := bl_empty (a := t) (List.eq_nil_of_length_eq_zero (by rw [bl_length]; omega))
      rcases inn_round (bl ⟨#[]⟩) ys R hr.out with ⟨_, hx⟩ | ⟨h, _⟩ | ⟨h, _⟩ | ⟨h, _⟩ | ⟨h, _⟩ | ⟨h, _⟩
      · have HX := hid (show R = some (ys, bl ⟨#[]⟩) from hx)
        clear hx h0t
        go_wp2_with fail
        go_ret3
        exact ⟨by rw [HX.out]; exact ⟨_, _, rfl, whole_ahead s, rfl⟩, hg.out⟩
      all_goals exact absurd h (by decide)
    have hne : ((t.size : Int) != 0) = true := neT (n := 0) (by omega)
    obtain ⟨L, hL⟩ : ∃ L, bl t = L := ⟨_, rfl⟩
    have hrr := hr.out
    rw [hL] at hrr
    have HL := hid hL
    clear hL
    go_wp2_with fail
    refine (countLeftWhitespace_any _ _ (le31 (by omega))).mono ?_
    rintro e w1 ⟨⟨k, hk1, rfl, hk2⟩, hg1⟩
    rw [HL.out] at hk2
    have HL2 := hid (show bl (t.extract k t.size) = skip wsB L by rw [bl_from, HL.out, hk2])
    have HG1 := hid (hg.out.trans hg1)
    have HTr1 := hid (Utf8Tabs_below HTr.out hg1)
    skip
    obtain ⟨u, hu⟩ : ∃ u, t.extract k t.size = u := ⟨_, rfl⟩
    rw [hu] at HL2
    have hus : u.size ≤ t.size := by rw [size_of _ _ HL2.out, size_of _ _ HL.out]; exact skip_le wsB L
    clear hk2 hg1
    have hL0 : 0 < L.length := by rw [← size_of _ _ HL.out]; exact h0t
    have hus' : u.size ≤ 4294967296 := by omega
    have hcl : (∃ d r1, skip wsB L = d :: r1 ∧ d.toNat = 41) ∨ noClose (skip wsB L) := by
      cases hs : skip wsB L with
      | nil => exact .inr (.inl rfl)
      | cons d r1 =>
        by_cases hd : d.toNat = 41
        · exact .inl ⟨d, r1, rfl, hd⟩
        · exact .inr (.inr ⟨d, r1, rfl, hd⟩)
    rcases hcl with ⟨d, r1, hsk, hd⟩ | hnc
    · have HX := hid (show R = some (ys, r1) by rw [← hrr, innT_close hL0 hsk hd]; simp [pre])
      rw [hsk] at HL2
      obtain ⟨hu0, hu1⟩ := bl_cons HL2.out
      have q41 : (((u[0]).toNat : Int) == 41) = true := by rw [hu1]; exact eqT hd
      have hun : ((u.size : Int) != 0) = true := neT (n := 0) (by omega)
      have HL3 := hid (from_one u d r1 HL2.out)
      clear hsk hd hu1 hrr
      go_wp2_with fail
      go_ret3
      have hcut := cut_at s (u.extract 1 u.size)
      have hsz : (u.extract 1 u.size).size = u.size - 1 := by rw [ByteArray.size_extract]; omega
      rw [HL3.out, hsz] at hcut
      exact ⟨by rw [HX.out]; exact ⟨_, _, rfl, hcut, HL3.out⟩, HG1.out⟩
    have HNC := hid hnc
    have HRR := hid hrr
    rcases close_ne HL2.out hnc with hu0 | ⟨hu0, q41⟩
    all_goals
      clear hnc hrr
      try have hun : ((u.size : Int) != 0) = true := neT (n := 0) (by omega)
      try have hun : ((u.size : Int) != 0) = false := neF (n := 0) (by omega)
      go_wp2_with fail
      clear hu
      refine (consumeBareItem_any _ _ hus' HTr1.out).mono ?_
      rintro e w2 ⟨hp, hg2⟩
      rw [HL2.out] at hp
      have HG2 := hid (HG1.out.trans hg2)
      have HTr2 := hid (Utf8Tabs_below HTr1.out hg2)
      skip
      clear hg2
      rcases opt_some hp with ⟨hb, a, b, rfl⟩ | ⟨r2, hb, a, b, rfl, ha, hbb⟩
      · have HX := hid (show R = none by rw [← HRR.out, innT_nobare hL0 HNC.out hb]; rfl)
        clear hp hb
        go_wp2_with fail
        go_ret3
        exact ⟨by rw [HX.out]; exact ⟨_, _, rfl⟩, HG2.out⟩
      rw [HL2.out] at ha
      have HBN := hid hb
      have HA := hid ha
      have HBB := hid hbb
      have hbs : b.size < t.size := by have := bare_lt hb; have h1 := size_of _ _ hbb; have h2 := size_of _ _ HL2.out; omega
      clear hp hb ha hbb
      go_wp2_with fail
      refine (consumeParameter_nil _ _ (by omega) HTr2.out).mono ?_
      rintro e w3 ⟨hp, hg3⟩
      rw [HBB.out] at hp
      have HG3 := hid (HG2.out.trans hg3)
      have HTr3 := hid (Utf8Tabs_below HTr2.out hg3)
      skip
      clear hg3
      cases hpr : par r2 with
      | none =>
        rw [hpr] at hp
        obtain ⟨c', d', rfl⟩ := hp
        have HX := hid (show R = none by rw [← HRR.out, innT_nopar hL0 HNC.out HBN.out hpr]; rfl)
        clear hpr
        go_wp2_with fail
        go_ret3
        exact ⟨by rw [HX.out]; exact ⟨_, _, rfl⟩, HG3.out⟩
      | some z =>
        obtain ⟨zs, r3⟩ := z
        rw [hpr] at hp
        obtain ⟨c', d', rfl, hc', hd'⟩ := hp
        rw [HBB.out] at hc'
        have HC' := hid hc'
        have HD' := hid hd'
        have HPR := hid hpr
        have HLT := hid (show d'.size < t.size by have := innT_next_lt HBN.out hpr; have h1 := size_of _ _ hd'; have h2 := size_of _ _ HL.out; simp only at h1; omega)
        clear hc' hpr
        have hgo : (noGo r3 ∧ (d'.size = 0 ∨ ∃ h : 0 < d'.size, (((d'[0]).toNat : Int) != 41) = true ∧ spB (d'[0]).toNat = false)) ∨ (∃ e r4, r3 = e :: r4 ∧ (e.toNat = 41 ∨ e.toNat = 32) ∧ ∃ h : 0 < d'.size, ((((d'[0]).toNat : Int) != 41) = false ∨ ((((d'[0]).toNat : Int) != 41) = true ∧ spB (d'[0]).toNat = true))) := by
          cases r3 with
          | nil => exact .inl ⟨.inl rfl, .inl (size_of _ _ hd')⟩
          | cons e r4 =>
            obtain ⟨h, h'⟩ := bl_cons hd'
            by_cases e1 : e.toNat = 41
            · exact .inr ⟨e, r4, rfl, .inl e1, h, .inl (by rw [h']; exact neF e1)⟩
            · by_cases e2 : e.toNat = 32
              · exact .inr ⟨e, r4, rfl, .inr e2, h, .inr ⟨by rw [h']; exact neT e1, by rw [h', e2]; rfl⟩⟩
              · exact .inl ⟨.inr ⟨e, r4, rfl, e1, e2⟩, .inr ⟨h, by rw [h']; exact neT e1, by rw [h']; exact spB_eq e2⟩⟩
        clear hd'
        rcases hgo with ⟨hng, hgo⟩ | ⟨e4, r4, hr3, he4, h0d, hgo⟩
        · have HX := hid (show R = none by rw [← HRR.out, innT_nogo hL0 HNC.out HBN.out HPR.out hng]; rfl)
          clear hng
          rcases hgo with hgo | ⟨hgo, g1, g2⟩
          all_goals
            try have hdn : ((d'.size : Int) == 0) = true := lenT hgo
            try have hdn : ((d'.size : Int) == 0) = false := lenF hgo
            go_wp2_with (go_at_call 88; refine (isSP_any _ _).mono ?_; rintro e w' ⟨rfl, rfl⟩)
            go_ret3
            exact ⟨by rw [HX.out]; exact ⟨_, _, rfl⟩, HG3.out⟩
        · subst hr3
          have HN := hid (show pre (ys ++ [(ahead (skip wsB L) r2, ahead r2 (e4 :: r4))]) (innT (e4 :: r4)) = R by rw [← HRR.out, innT_next hL0 HNC.out HBN.out HPR.out he4, pre_cons])
          have hdn : ((d'.size : Int) == 0) = false := lenF h0d
          clear he4
          rcases hgo with g1 | ⟨g1, g2⟩
          all_goals
            go_wp2_with (go_at_call 88; refine (isSP_any _ _).mono ?_; rintro e w' ⟨rfl, rfl⟩)
            go_roundw
            case rel => exact ⟨d', _, rfl, by have := HLT.out; omega, by rw [HD'.out]; exact HN, HG3, hid (Nat.le_refl _)⟩
            case measure => simp [strOf]; have := HLT.out; omega

set_option maxHeartbeats 4000000 in
theorem consumeInner_clo (B C : Nat) (s : ByteArray) (w : World) (hs : s.size ≤ 4294967296) (hT : Lib.Utf8Tabs 0 1 w) (hB2 : 2 ≤ B) (hBC : B ≤ C) (hBw : B ≤ w.heap.size) (hcap : Cap w C B []) :
    Calls Tryd.prog 70 #[.string s, .func (.func 44) #[] #[.pointer (some ⟨C, 0, none⟩)]] w fun e w' => CInnPost B C s w e w' := by
  obtain ⟨R, hR⟩ : ∃ R, inn (bl s) = R := ⟨_, rfl⟩
  have HR0 := hid hR
  have HT := hid hT
  clear hT
  have hnf : ∀ W : World, (binOp .neq 68 (.func (.func 44) #[] #[.pointer (some ⟨C, 0, none⟩)]) .nilFunc).run Tryd.prog W = .ok (.bool true) W := fun W => by kernel_rfl
  by_cases h0 : 0 < s.size
  case neg =>
    obtain rfl := bl_empty (a := s) (List.eq_nil_of_length_eq_zero (by rw [bl_length]; omega))
    have HX := hid (show R = none from hR.symm)
    clear h0 hs hR
    go_enter Tryd.func70, Tryd.ntmps70
    go_wp2_with fail
    go_ret3
    exact cinn_none B C _ w _ _ HR0.out HX.out (Below.refl _ _) hcap ⟨_, _, rfl⟩
  have hb0 := bl_get s 0 h0
  rw [List.drop_zero, Nat.zero_add] at hb0
  have hne0 := lenF h0
  by_cases hc : (s[0]).toNat = 40
  case neg =>
    have c1 : (((s[0]).toNat : Int) != 40) = true := neT hc
    have HX := hid (show R = none by
      rw [← hR, hb0, inn, if_neg (by simpa using hc)])
    clear hR hb0 hc
    go_enter Tryd.func70, Tryd.ntmps70
    go_wp2_with fail
    go_ret3
    exact cinn_none B C _ w _ _ HR0.out HX.out (Below.refl _ _) hcap ⟨_, _, rfl⟩
  have c1 : (((s[0]).toNat : Int) != 40) = false := neF hc
  have HR := hid (show pre [] (innT ((bl s).drop 1)) = R by
    have h40 : ((s[0]).toNat == 40) = true := by simpa using hc
    have : inn (s[0] :: (bl s).drop 1) = innT ((bl s).drop 1) := by rw [inn, if_pos h40]; rfl
    rw [pre_nil, ← hR, ← this, ← hb0])
  clear hR hb0 hc
  have hs1 : (s.extract 1 s.size).size ≤ s.size := by rw [ByteArray.size_extract]; omega
  have HS1' := hid hs1
  clear hs1
  go_enter Tryd.func70, Tryd.ntmps70
  go_wp2_with fail
  clear c1 hne0
  go_loopw [5] (fun v wr => ∃ (t : ByteArray) (ys : List (Bs × Bs)), v = .string t ∧ t.size ≤ s.size ∧ Hid (pre ys (innT (bl t)) = R) ∧ Hid (Below B w wr) ∧ (∃ ps : Ps, Hid (psL ps = ys) ∧ Hid (ps.length + t.size ≤ s.size) ∧ Cap wr C B ps)) (fun v _ => (strOf v).size)
  case atStart => exact ⟨_, [], rfl, HS1'.out, by rw [bl_from]; exact HR, hid (Below.refl _ _), [], hid rfl, hid (by simp), hcap⟩
  case round =>
    clear HR HS1' hcap
    obtain ⟨t, ys, rfl, hts, hr, hg, ps, hps, hpl, hcap⟩ := hrel
    have HCP := hid hcap
    clear hcap
    have HTr := hid (tabs_below HT.out hg.out hB2)
    by_cases h0t : 0 < t.size
    case neg =>
      obtain rfl := bl_empty (a := t) (List.eq_nil_of_length_eq_zero (by rw [bl_length]; omega))
      rcases inn_round (bl ⟨#[]⟩) ys R hr.out with ⟨_, hx⟩ | ⟨h, _⟩ | ⟨h, _⟩ | ⟨h, _⟩ | ⟨h, _⟩ | ⟨h, _⟩
      · have HX := hid (show R = some (ys, bl ⟨#[]⟩) from hx)
        clear hx h0t
        go_wp2_with fail
        go_ret3
        exact cinn_some B C s w _ _ ys (bl ⟨#[]⟩) ps HR0.out HX.out hps.out HCP.out hg.out ⟨_, _, rfl, whole_ahead s, rfl⟩
      all_goals exact absurd h (by decide)
    have hne : ((t.size : Int) != 0) = true := neT (n := 0) (by omega)
    obtain ⟨L, hL⟩ : ∃ L, bl t = L := ⟨_, rfl⟩
    have hrr := hr.out
    rw [hL] at hrr
    have HL := hid hL
    clear hL
    go_wp2_with fail
    refine (countLeftWhitespace_any _ _ (le31 (by omega))).mono ?_
    rintro e w1 ⟨⟨k, hk1, rfl, hk2⟩, hg1⟩
    rw [HL.out] at hk2
    have HL2 := hid (show bl (t.extract k t.size) = skip wsB L by rw [bl_from, HL.out, hk2])
    have HG1 := hid (hg.out.trans (Below.mono hg1 (by have := hg.out.size; omega)))
    have HTr1 := hid (Utf8Tabs_below HTr.out hg1)
    have HCP1 := hid (HCP.out.gr hg1)
    obtain ⟨u, hu⟩ : ∃ u, t.extract k t.size = u := ⟨_, rfl⟩
    rw [hu] at HL2
    have hus : u.size ≤ t.size := by rw [size_of _ _ HL2.out, size_of _ _ HL.out]; exact skip_le wsB L
    clear hk2 hg1
    have hL0 : 0 < L.length := by rw [← size_of _ _ HL.out]; exact h0t
    have hus' : u.size ≤ 4294967296 := by omega
    have hcl : (∃ d r1, skip wsB L = d :: r1 ∧ d.toNat = 41) ∨ noClose (skip wsB L) := by
      cases hs : skip wsB L with
      | nil => exact .inr (.inl rfl)
      | cons d r1 =>
        by_cases hd : d.toNat = 41
        · exact .inl ⟨d, r1, rfl, hd⟩
        · exact .inr (.inr ⟨d, r1, rfl, hd⟩)
    rcases hcl with ⟨d, r1, hsk, hd⟩ | hnc
    · have HX := hid (show R = some (ys, r1) by rw [← hrr, innT_close hL0 hsk hd]; simp [pre])
      rw [hsk] at HL2
      obtain ⟨hu0, hu1⟩ := bl_cons HL2.out
      have q41 : (((u[0]).toNat : Int) == 41) = true := by rw [hu1]; exact eqT hd
      have hun : ((u.size : Int) != 0) = true := neT (n := 0) (by omega)
      have HL3 := hid (from_one u d r1 HL2.out)
      clear hsk hd hu1 hrr
      go_wp2_with fail
      go_ret3
      have hcut := cut_at s (u.extract 1 u.size)
      have hsz : (u.extract 1 u.size).size = u.size - 1 := by rw [ByteArray.size_extract]; omega
      rw [HL3.out, hsz] at hcut
      exact cinn_some B C s w _ _ ys r1 ps HR0.out HX.out hps.out HCP1.out HG1.out ⟨_, _, rfl, hcut, HL3.out⟩
    have HNC := hid hnc
    have HRR := hid hrr
    rcases close_ne HL2.out hnc with hu0 | ⟨hu0, q41⟩
    all_goals
      clear hnc hrr
      try have hun : ((u.size : Int) != 0) = true := neT (n := 0) (by omega)
      try have hun : ((u.size : Int) != 0) = false := neF (n := 0) (by omega)
      go_wp2_with fail
      clear hu
      refine (consumeBareItem_any _ _ hus' HTr1.out).mono ?_
      rintro e w2 ⟨hp, hg2⟩
      rw [HL2.out] at hp
      have HG2 := hid (HG1.out.trans (Below.mono hg2 (by have := HG1.out.size; omega)))
      have HTr2 := hid (Utf8Tabs_below HTr1.out hg2)
      have HCP2 := hid (HCP1.out.gr hg2)
      clear hg2
      rcases opt_some hp with ⟨hb, a, b, rfl⟩ | ⟨r2, hb, a, b, rfl, ha, hbb⟩
      · have HX := hid (show R = none by rw [← HRR.out, innT_nobare hL0 HNC.out hb]; rfl)
        clear hp hb
        go_wp2_with fail
        go_ret3
        exact cinn_none B C _ w _ _ HR0.out HX.out HG2.out HCP2.out ⟨_, _, rfl⟩
      rw [HL2.out] at ha
      have HBN := hid hb
      have HA := hid ha
      have HBB := hid hbb
      have hbs : b.size < t.size := by have := bare_lt hb; have h1 := size_of _ _ hbb; have h2 := size_of _ _ HL2.out; omega
      clear hp hb ha hbb
      go_wp2_with fail
      refine (consumeParameter_nil _ _ (by omega) HTr2.out).mono ?_
      rintro e w3 ⟨hp, hg3⟩
      rw [HBB.out] at hp
      have HG3 := hid (HG2.out.trans (Below.mono hg3 (by have := HG2.out.size; omega)))
      have HTr3 := hid (Utf8Tabs_below HTr2.out hg3)
      have HCP3 := hid (HCP2.out.gr hg3)
      clear hg3
      cases hpr : par r2 with
      | none =>
        rw [hpr] at hp
        obtain ⟨c', d', rfl⟩ := hp
        have HX := hid (show R = none by rw [← HRR.out, innT_nopar hL0 HNC.out HBN.out hpr]; rfl)
        clear hpr
        go_wp2_with fail
        go_ret3
        exact cinn_none B C _ w _ _ HR0.out HX.out HG3.out HCP3.out ⟨_, _, rfl⟩
      | some z =>
        obtain ⟨zs, r3⟩ := z
        rw [hpr] at hp
        obtain ⟨c', d', rfl, hc', hd'⟩ := hp
        rw [HBB.out] at hc'
        have HC' := hid hc'
        have HD' := hid hd'
        have HPR := hid hpr
        have HLT := hid (show d'.size < t.size by have := innT_next_lt HBN.out hpr; have h1 := size_of _ _ hd'; have h2 := size_of _ _ HL.out; simp only at h1; omega)
        clear hc' hpr
        have hgo : (noGo r3 ∧ (d'.size = 0 ∨ ∃ h : 0 < d'.size, (((d'[0]).toNat : Int) != 41) = true ∧ spB (d'[0]).toNat = false)) ∨ (∃ e r4, r3 = e :: r4 ∧ (e.toNat = 41 ∨ e.toNat = 32) ∧ ∃ h : 0 < d'.size, ((((d'[0]).toNat : Int) != 41) = false ∨ ((((d'[0]).toNat : Int) != 41) = true ∧ spB (d'[0]).toNat = true))) := by
          cases r3 with
          | nil => exact .inl ⟨.inl rfl, .inl (size_of _ _ hd')⟩
          | cons e r4 =>
            obtain ⟨h, h'⟩ := bl_cons hd'
            by_cases e1 : e.toNat = 41
            · exact .inr ⟨e, r4, rfl, .inl e1, h, .inl (by rw [h']; exact neF e1)⟩
            · by_cases e2 : e.toNat = 32
              · exact .inr ⟨e, r4, rfl, .inr e2, h, .inr ⟨by rw [h']; exact neT e1, by rw [h', e2]; rfl⟩⟩
              · exact .inl ⟨.inr ⟨e, r4, rfl, e1, e2⟩, .inr ⟨h, by rw [h']; exact neT e1, by rw [h']; exact spB_eq e2⟩⟩
        clear hd'
        rcases hgo with ⟨hng, hgo⟩ | ⟨e4, r4, hr3, he4, h0d, hgo⟩
        · have HX := hid (show R = none by rw [← HRR.out, innT_nogo hL0 HNC.out HBN.out HPR.out hng]; rfl)
          clear hng
          rcases hgo with hgo | ⟨hgo, g1, g2⟩
          all_goals
            try have hdn : ((d'.size : Int) == 0) = true := lenT hgo
            try have hdn : ((d'.size : Int) == 0) = false := lenF hgo
            go_wp2_with (go_at_call 88; refine (isSP_any _ _).mono ?_; rintro e w' ⟨rfl, rfl⟩)
            go_ret3
            exact cinn_none B C _ w _ _ HR0.out HX.out HG3.out HCP3.out ⟨_, _, rfl⟩
        · subst hr3
          have HN := hid (show pre (ys ++ [(ahead (skip wsB L) r2, ahead r2 (e4 :: r4))]) (innT (e4 :: r4)) = R by rw [← HRR.out, innT_next hL0 HNC.out HBN.out HPR.out he4, pre_cons])
          have hdn : ((d'.size : Int) == 0) = false := lenF h0d
          clear he4
          rcases hgo with g1 | ⟨g1, g2⟩
          all_goals
            go_wp2_with (go_at_call 88; refine (isSP_any _ _).mono ?_; rintro e w' ⟨rfl, rfl⟩)
            refine (cloInner B C B _ _ ps _ (Nat.le_refl _) hBC (by have := HG3.out.size; omega) HCP3.out (by have := hpl.out; omega)).mono ?_
            rintro e w4 ⟨rfl, hc4, hg4⟩
            have HCP4 := hid hc4
            have HG4 := hid (HG3.out.trans hg4)
            clear hc4 hg4
            go_wp2_with fail
            go_roundw
            case rel => exact ⟨d', _, rfl, by have := HLT.out; omega, by rw [HD'.out]; exact HN, HG4, _, hid (by rw [psL_push, hps.out, HA.out, HC'.out]), hid (by have := hpl.out; have := HLT.out; simp; omega), HCP4.out⟩
            case measure => simp [strOf]; have := HLT.out; omega

end Go.Proofs.YtohjnegllfdemaaDoor
