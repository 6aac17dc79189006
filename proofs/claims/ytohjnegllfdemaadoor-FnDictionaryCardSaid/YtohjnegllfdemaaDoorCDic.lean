/-
  The walks of ParseDictionary and of impl's Dictionary.
-/
import Derived.Test.YtohjnegllfdemaaDoorCLis
set_option maxRecDepth 100000
namespace Go.Proofs.YtohjnegllfdemaaDoor
open Go.RowKit

def tsL (ps : Ts) : List (Bs × Bs × Bs) := ps.map fun x => (bl x.1, bl x.2.1, bl x.2.2)
theorem tsL_push (ps : Ts) (a b c : ByteArray) : tsL (ps ++ [(a, b, c)]) = tsL ps ++ [(bl a, bl b, bl c)] := by simp [tsL]
theorem tsL_length (ps : Ts) : (tsL ps).length = ps.length := by simp [tsL]
/-- What a key hands out: a key without a value has the value ?1. -/
def dOf (x : Dm) : Bs × Bs × Bs := (x.1, valOf x.2.1, x.2.2)

/-- A parse with the closure. -/
def PDPost (B C : Nat) (R : Option (List Dm)) (w : World) (e : Ending) (w' : World) : Prop :=
  Below B w w' ∧ ((R = none ∧ e = .returned (.bool false) ∧ ∃ ps, Cap3 w' C B ps) ∨ ∃ ys ps, R = some ys ∧ tsL ps = ys.map dOf ∧ e = .returned (.bool true) ∧ Cap3 w' C B ps)
theorem pdpost_no {B C : Nat} {R : Option (List Dm)} {w w' : World} {ps : Ts} (h : R = none) (hb : Below B w w') (hc : Cap3 w' C B ps) : PDPost B C R w (.returned (.bool false)) w' := ⟨hb, .inl ⟨h, rfl, ps, hc⟩⟩
theorem pdpost_yes {B C : Nat} {R : Option (List Dm)} {w w' : World} {ps : Ts} {ys : List Dm} (h : R = some ys) (hp : tsL ps = ys.map dOf) (hb : Below B w w') (hc : Cap3 w' C B ps) : PDPost B C R w (.returned (.bool true)) w' := ⟨hb, .inr ⟨ys, ps, h, hp, rfl, hc⟩⟩
/-- What impl's Dictionary gives. -/
def ImpDPost (R : Option (List Dm)) (w : World) (e : Ending) (w' : World) : Prop :=
  Gr w w' ∧ ((R = none ∧ ∃ v, e = .returned (.tuple #[v, .bool false])) ∨ ∃ v ys ps, R = some ys ∧ tsL ps = ys.map dOf ∧ e = .returned (.tuple #[v, .bool true]) ∧ w'.ownsRow w.heap.size 52 3 v ps.length (flat3 ps))
theorem ws_cut (x : ByteArray) (k : Nat) (r : Bs) (h : (bl x).drop k = r) : ∃ y, x.extract k x.size = y ∧ bl y = r ∧ y.size ≤ x.size := ⟨_, rfl, by rw [bl_from, h], by rw [ByteArray.size_extract]; omega⟩
theorem dic_cons {l : Bs} (h : 0 < l.length) : dic l = dicT l := dic_open (by intro e; subst e; simp at h)

set_option maxHeartbeats 16000000 in
theorem parseDict_clo (B C : Nat) (s : ByteArray) (w : World) (hs : s.size ≤ 4294967296) (hT : Lib.Utf8Tabs 0 1 w) (hB2 : 2 ≤ B) (hBC : B ≤ C) (hBw : B ≤ w.heap.size) (hcap : Cap3 w C B []) :
    Calls Tryd.prog 50 #[.string s, .func (.func 51) #[] #[.pointer (some ⟨C, 0, none⟩)]] w fun e w' => PDPost B C (dic (bl s)) w e w' := by
  obtain ⟨R, hR⟩ : ∃ R, dic (bl s) = R := ⟨_, rfl⟩
  rw [hR]
  have HR := hid (show pre1 [] (dic (bl s)) = R by rw [← hR]; exact pre1_nil _)
  have HT := hid hT
  clear hT hR
  have hnf : ∀ W : World, (binOp .neq 73 (.func (.func 51) #[] #[.pointer (some ⟨C, 0, none⟩)]) .nilFunc).run Tryd.prog W = .ok (.bool true) W := fun W => by kernel_rfl
  go_enter Tryd.func50, Tryd.ntmps50
  go_wp2_with fail
  go_loopw [0] (fun v wr => ∃ (t : ByteArray) (ys : List Dm) (ps : Ts), v = .string t ∧ t.size ≤ s.size ∧ Hid (pre1 ys (dic (bl t)) = R) ∧ Hid (tsL ps = ys.map dOf) ∧ Hid (Below B w wr) ∧ Hid (ps.length + t.size ≤ s.size) ∧ Hid (Cap3 wr C B ps)) (fun v _ => (strOf v).size)
  case atStart => exact ⟨s, [], [], rfl, Nat.le_refl _, HR, hid rfl, hid (Below.refl _ _), hid (by simp), hid hcap⟩
  case round =>
    clear HR hcap
    obtain ⟨t, ys, ps, rfl, hts, hr, hps, hg, hpl, HCP⟩ := hrel
    have HTr := hid (tabs_below HT.out hg.out hB2)
    by_cases h0t : 0 < t.size
    case neg =>
      obtain rfl := bl_empty (a := t) (List.eq_nil_of_length_eq_zero (by rw [bl_length]; omega))
      have HX := hid (show R = some ys by rw [← hr.out]; show pre1 ys (some []) = _; simp [pre1])
      clear h0t
      go_wp2_with fail
      go_ret
      exact pdpost_yes HX.out hps.out hg.out HCP.out
    have hne : ((t.size : Int) != 0) = true := neT (n := 0) (by omega)
    obtain ⟨L, hL⟩ : ∃ L, bl t = L := ⟨_, rfl⟩
    have hrr := hr.out
    rw [hL] at hrr
    have hL0 : 0 < L.length := by rw [← size_of _ _ hL]; exact h0t
    rw [dic_cons hL0] at hrr
    have HL := hid hL
    have HRR := hid hrr
    clear hL hr hrr hL0
    go_wp2_with fail
    refine (key_opt _ _ (le31 (by omega))).mono ?_
    rintro e w1 ⟨hp, hg1⟩
    rw [HL.out] at hp
    have HG1 := hid (hg.out.trans (Below.mono hg1 (by have := hg.out.size; omega)))
    have HTr1 := hid (Utf8Tabs_below HTr.out hg1)
    have HCP1 := hid (HCP.out.gr hg1)
    clear hg1
    cases hk : key L with
    | none =>
      rw [hk] at hp
      obtain ⟨a, b, rfl⟩ := hp
      have HX := hid (show R = none by rw [← HRR.out, dicT_nokey hk]; rfl)
      clear hk
      go_wp2_with fail
      go_ret
      exact pdpost_no HX.out HG1.out HCP1.out
    | some r1 =>
      rw [hk] at hp
      obtain ⟨a, b, rfl, ha, hb⟩ := hp
      rw [HL.out] at ha
      have HK := hid hk
      have HA := hid ha
      have HB := hid hb
      have hbs : b.size < t.size := by have := key_lt hk; have h1 := size_of _ _ hb; have h2 := size_of _ _ HL.out; omega
      have hv : (dicV r1 = some (none, r1) ∧ (b.size = 0 ∨ ∃ h : 0 < b.size, (((b[0]).toNat : Int) == 61) = false)) ∨ ∃ d rr, r1 = d :: rr ∧ d.toNat = 61 := by
        cases r1 with
        | nil => exact .inl ⟨rfl, .inl (size_of _ _ hb)⟩
        | cons d rr =>
          by_cases hd : d.toNat = 61
          · exact .inr ⟨d, rr, rfl, hd⟩
          · obtain ⟨h, h'⟩ := bl_cons hb
            exact .inl ⟨dicV_no hd, .inr ⟨h, by rw [h']; exact eqF hd⟩⟩
      clear hk ha hb
      rcases hv with ⟨hv, hw⟩ | ⟨d, rr, hr1, hd⟩
      · have HDV := hid hv
        clear hv
        rcases hw with hw | ⟨hw, q61⟩
        all_goals
          try have hwn : ((b.size : Int) != 0) = true := neT (n := 0) (by omega)
          try have hwn : ((b.size : Int) != 0) = false := neF (n := 0) (by omega)
          go_wp2_with fail
          have HVT := hid (show bl ⟨#[63, 49]⟩ = valOf none from rfl)
          refine (consumeParameter_nil _ _ (by omega) HTr1.out).mono ?_
          rintro e w3 ⟨hp, hg3⟩
          rw [HB.out] at hp
          have HG3 := hid (HG1.out.trans (Below.mono hg3 (by have := HG1.out.size; omega)))
          have HCP3 := hid (HCP1.out.gr hg3)
          clear hg3
          cases hpr : par r1 with
          | none =>
            rw [hpr] at hp
            obtain ⟨c', d', rfl⟩ := hp
            have HX := hid (show R = none by rw [← HRR.out, dicT_nopar HK.out HDV.out hpr]; rfl)
            clear hpr
            go_wp2_with fail
            go_ret
            exact pdpost_no HX.out HG3.out HCP3.out
          | some z =>
            obtain ⟨zs, r3⟩ := z
            rw [hpr] at hp
            obtain ⟨c', d', rfl, hc', hd'⟩ := hp
            rw [HB.out] at hc'
            have HC' := hid hc'
            have HD' := hid hd'
            have HPR := hid hpr
            have hds : d'.size ≤ b.size := by have := par_len hpr; have h1 := size_of _ _ hd'; have h2 := size_of _ _ HB.out; simp only at h1; omega
            clear hc' hpr hd'
            go_wp2_with fail
            refine (cloDict B C B _ _ _ ps _ (Nat.le_refl _) hBC (by have := HG3.out.size; omega) HCP3.out (by have := hpl.out; omega)).mono ?_
            rintro e w4 ⟨rfl, hc4, hg4⟩
            have HCP4 := hid hc4
            have HG4 := hid (HG3.out.trans hg4)
            have HPS := hid (show tsL (ps ++ [(a, ⟨#[63, 49]⟩, c')]) = (ys ++ [(ahead L r1, none, ahead r1 r3)]).map dOf by rw [tsL_push, List.map_append, hps.out, HA.out, HC'.out, HVT.out]; rfl)
            clear hc4 hg4
            go_wp2_with fail
            refine (countLeftWhitespace_any _ _ (le31 (by omega))).mono ?_
            rintro e w5 ⟨⟨k, hk1, rfl, hk2⟩, hg5⟩
            rw [HD'.out] at hk2
            have HL2 := hid (show bl (d'.extract k d'.size) = skip wsB r3 by rw [bl_from, HD'.out, hk2])
            have HG5 := hid (HG4.out.trans (Below.mono hg5 (by have := HG4.out.size; omega)))
            have HCP5 := hid (HCP4.out.gr hg5)
            obtain ⟨u, hu⟩ : ∃ u, d'.extract k d'.size = u := ⟨_, rfl⟩
            rw [hu] at HL2
            have hus : u.size ≤ d'.size := by rw [size_of _ _ HL2.out, size_of _ _ HD'.out]; exact skip_le wsB r3
            clear hk2 hg5
            cases hsk : skip wsB r3 with
            | nil =>
              have HX := hid (show R = some (ys ++ [(ahead L r1, none, ahead r1 r3)]) by rw [← HRR.out, dicT_end HK.out HDV.out HPR.out hsk]; rfl)
              rw [hsk] at HL2
              have hu0 : ((u.size : Int) == 0) = true := lenT (size_of _ _ HL2.out)
              clear hsk
              go_wp2_with fail
              go_ret
              exact pdpost_yes HX.out HPS.out HG5.out HCP5.out
            | cons d5 r4 =>
              rw [hsk] at HL2
              obtain ⟨hu0, hu1⟩ := bl_cons HL2.out
              have hun : ((u.size : Int) == 0) = false := lenF hu0
              have hy : ∃ x2 : ByteArray, ∃ q : Bool, (((u[0]).toNat : Int) == 44) = q ∧ x2.size ≤ u.size ∧ dicC (d5 :: r4) = skip wsB (bl x2) ∧ (q = true → u.extract 1 u.size = x2) ∧ (q = false → u = x2) := by
                by_cases hd : d5.toNat = 44
                · exact ⟨u.extract 1 u.size, true, by rw [hu1]; exact eqT hd, by rw [ByteArray.size_extract]; omega, by rw [dicC_yes hd, from_one u d5 r4 HL2.out], fun _ => rfl, (fun h => by cases h)⟩
                · exact ⟨u, false, by rw [hu1]; exact eqF hd, Nat.le_refl _, by rw [dicC_no hd, HL2.out], (fun h => by cases h), fun _ => rfl⟩
              obtain ⟨x2, q, q44, hx2s, hdc, hq1, hq2⟩ := hy
              have HSK := hid hsk
              have HDC := hid hdc
              clear hsk hdc hu1
              cases q
              case' false =>
                have hx2 := hq2 rfl
                subst hx2
              case' true =>
                have hx2 := hq1 rfl
              all_goals
                clear hq1 hq2
                go_wp2_with fail
                refine (countLeftWhitespace_any _ _ (le31 (by omega))).mono ?_
                rintro e w6 ⟨⟨k2, hk3, rfl, hk4⟩, hg6⟩
                rw [← HDC.out] at hk4
                obtain ⟨y, hy, hl4, hys⟩ := ws_cut _ k2 _ hk4
                have HL4 := hid hl4
                have HG6 := hid (HG5.out.trans (Below.mono hg6 (by have := HG5.out.size; omega)))
                have HCP6 := hid (HCP5.out.gr hg6)
                clear hk4 hg6 hl4
                cases hsk2 : dicC (d5 :: r4) with
                | nil =>
                  have HX := hid (show R = none by rw [← HRR.out, dicT_tail HK.out HDV.out HPR.out HSK.out hsk2]; rfl)
                  rw [hsk2] at HL4
                  have hy0 : ((y.size : Int) == 0) = true := lenT (size_of _ _ HL4.out)
                  clear hsk2
                  go_wp2_with fail
                  go_ret
                  exact pdpost_no HX.out HG6.out HCP6.out
                | cons e4 r5 =>
                  have HN := hid (show pre1 (ys ++ [(ahead L r1, none, ahead r1 r3)]) (dic (bl y)) = R by
                    rw [HL4.out, hsk2, dic_cons (by simp), ← pre1_cons, ← dicT_next HK.out HDV.out HPR.out HSK.out hsk2, HRR.out])
                  rw [hsk2] at HL4
                  obtain ⟨hy0, _⟩ := bl_cons HL4.out
                  have hyn : ((y.size : Int) == 0) = false := lenF hy0
                  clear hsk2
                  go_wp2_with fail
                  go_roundw
                  case rel => exact ⟨y, _, _, rfl, by omega, HN, HPS, HG6, hid (by have := hpl.out; simp; omega), HCP6⟩
                  case measure => simp [strOf]; omega
      · subst hr1
        obtain ⟨hb0, hb1⟩ := bl_cons HB.out
        have q61 : (((b[0]).toNat : Int) == 61) = true := by rw [hb1]; exact eqT hd
        have hwn : ((b.size : Int) != 0) = true := neT (n := 0) (by omega)
        have hx3 := from_one b d rr HB.out
        have hxs : (b.extract 1 b.size).size < b.size := by rw [ByteArray.size_extract]; omega
        obtain ⟨x, hx⟩ : ∃ x, b.extract 1 b.size = x := ⟨_, rfl⟩
        rw [hx] at hxs hx3
        have HD := hid hd
        have HX3 := hid hx3
        clear hd hb1 hx3
        have hm : (x.size = 0 ∧ mem rr = bare rr) ∨ (∃ h : 0 < x.size, (((x[0]).toNat : Int) == 40) = true ∧ mem rr = (inn rr).map (·.2)) ∨ (∃ h : 0 < x.size, (((x[0]).toNat : Int) == 40) = false ∧ mem rr = bare rr) := by
          cases hrr : rr with
          | nil => exact .inl ⟨size_of _ _ (HX3.out.trans hrr), rfl⟩
          | cons c2 t2 =>
            obtain ⟨h, h'⟩ := bl_cons (HX3.out.trans hrr)
            by_cases hc : c2.toNat = 40
            · exact .inr (.inl ⟨h, by rw [h']; exact eqT hc, mem_inn rfl hc⟩)
            · exact .inr (.inr ⟨h, by rw [h']; exact eqF hc, mem_bare rfl hc⟩)
        rcases hm with ⟨hx0, hm⟩ | ⟨hx0, q40, hm⟩ | ⟨hx0, q40, hm⟩
        all_goals
          have HM := hid hm
          clear hm
          try have hxn : ((x.size : Int) != 0) = true := neT (n := 0) (by omega)
          try have hxn : ((x.size : Int) != 0) = false := neF (n := 0) (by omega)
          go_wp2_with fail
          first
            | (refine (consumeInner_nil x _ (by omega) HTr1.out).mono ?_; skip)
            | (refine (consumeBareItem_any x _ (by omega) HTr1.out).mono ?_; skip)
          rintro e w2 ⟨hp, hg2⟩
          rw [HX3.out, ← HM.out] at hp
          have HG2 := hid (HG1.out.trans (Below.mono hg2 (by have := HG1.out.size; omega)))
          have HTr2 := hid (Utf8Tabs_below HTr1.out hg2)
          have HCP2 := hid (HCP1.out.gr hg2)
          clear hg2 hx
          rcases opt_some hp with ⟨hb, a2, b2, rfl⟩ | ⟨r2, hb, a2, b2, rfl, ha2, hbb⟩
          · have HX := hid (show R = none by rw [← HRR.out, dicT_noval HK.out (by rw [dicV_yes HD.out, hb]; rfl)]; rfl)
            clear hp hb
            go_wp2_with fail
            go_ret
            exact pdpost_no HX.out HG2.out HCP2.out
          rw [HX3.out] at ha2
          have HDV := hid (show dicV (d :: rr) = some (some (ahead rr r2), r2) by rw [dicV_yes HD.out, hb]; rfl)
          have HVT := hid (show bl a2 = valOf (some (ahead rr r2)) from ha2)
          have HBB := hid hbb
          have hbs2 : b2.size < t.size := by have := mem_lt hb; have h1 := size_of _ _ hbb; have h2 := size_of _ _ HX3.out; omega
          clear hp hb ha2 hbb
          go_wp2_with fail
          refine (consumeParameter_nil _ _ (by omega) HTr2.out).mono ?_
          rintro e w3 ⟨hp, hg3⟩
          rw [HBB.out] at hp
          have HG3 := hid (HG2.out.trans (Below.mono hg3 (by have := HG2.out.size; omega)))
          have HCP3 := hid (HCP2.out.gr hg3)
          clear hg3
          cases hpr : par r2 with
          | none =>
            rw [hpr] at hp
            obtain ⟨c', d', rfl⟩ := hp
            have HX := hid (show R = none by rw [← HRR.out, dicT_nopar HK.out HDV.out hpr]; rfl)
            clear hpr
            go_wp2_with fail
            go_ret
            exact pdpost_no HX.out HG3.out HCP3.out
          | some z =>
            obtain ⟨zs, r3⟩ := z
            rw [hpr] at hp
            obtain ⟨c', d', rfl, hc', hd'⟩ := hp
            rw [HBB.out] at hc'
            have HC' := hid hc'
            have HD' := hid hd'
            have HPR := hid hpr
            have hds : d'.size ≤ b2.size := by have := par_len hpr; have h1 := size_of _ _ hd'; have h2 := size_of _ _ HBB.out; simp only at h1; omega
            clear hc' hpr hd'
            go_wp2_with fail
            refine (cloDict B C B _ _ _ ps _ (Nat.le_refl _) hBC (by have := HG3.out.size; omega) HCP3.out (by have := hpl.out; omega)).mono ?_
            rintro e w4 ⟨rfl, hc4, hg4⟩
            have HCP4 := hid hc4
            have HG4 := hid (HG3.out.trans hg4)
            have HPS := hid (show tsL (ps ++ [(a, a2, c')]) = (ys ++ [(ahead L (d :: rr), (some (ahead rr r2)), ahead r2 r3)]).map dOf by rw [tsL_push, List.map_append, hps.out, HA.out, HC'.out, HVT.out]; rfl)
            clear hc4 hg4
            go_wp2_with fail
            refine (countLeftWhitespace_any _ _ (le31 (by omega))).mono ?_
            rintro e w5 ⟨⟨k, hk1, rfl, hk2⟩, hg5⟩
            rw [HD'.out] at hk2
            have HL2 := hid (show bl (d'.extract k d'.size) = skip wsB r3 by rw [bl_from, HD'.out, hk2])
            have HG5 := hid (HG4.out.trans (Below.mono hg5 (by have := HG4.out.size; omega)))
            have HCP5 := hid (HCP4.out.gr hg5)
            obtain ⟨u, hu⟩ : ∃ u, d'.extract k d'.size = u := ⟨_, rfl⟩
            rw [hu] at HL2
            have hus : u.size ≤ d'.size := by rw [size_of _ _ HL2.out, size_of _ _ HD'.out]; exact skip_le wsB r3
            clear hk2 hg5
            cases hsk : skip wsB r3 with
            | nil =>
              have HX := hid (show R = some (ys ++ [(ahead L (d :: rr), (some (ahead rr r2)), ahead r2 r3)]) by rw [← HRR.out, dicT_end HK.out HDV.out HPR.out hsk]; rfl)
              rw [hsk] at HL2
              have hu0 : ((u.size : Int) == 0) = true := lenT (size_of _ _ HL2.out)
              clear hsk
              go_wp2_with fail
              go_ret
              exact pdpost_yes HX.out HPS.out HG5.out HCP5.out
            | cons d5 r4 =>
              rw [hsk] at HL2
              obtain ⟨hu0, hu1⟩ := bl_cons HL2.out
              have hun : ((u.size : Int) == 0) = false := lenF hu0
              have hy : ∃ x2 : ByteArray, ∃ q : Bool, (((u[0]).toNat : Int) == 44) = q ∧ x2.size ≤ u.size ∧ dicC (d5 :: r4) = skip wsB (bl x2) ∧ (q = true → u.extract 1 u.size = x2) ∧ (q = false → u = x2) := by
                by_cases hd : d5.toNat = 44
                · exact ⟨u.extract 1 u.size, true, by rw [hu1]; exact eqT hd, by rw [ByteArray.size_extract]; omega, by rw [dicC_yes hd, from_one u d5 r4 HL2.out], fun _ => rfl, (fun h => by cases h)⟩
                · exact ⟨u, false, by rw [hu1]; exact eqF hd, Nat.le_refl _, by rw [dicC_no hd, HL2.out], (fun h => by cases h), fun _ => rfl⟩
              obtain ⟨x2, q, q44, hx2s, hdc, hq1, hq2⟩ := hy
              have HSK := hid hsk
              have HDC := hid hdc
              clear hsk hdc hu1
              cases q
              case' false =>
                have hx2 := hq2 rfl
                subst hx2
              case' true =>
                have hx2 := hq1 rfl
              all_goals
                clear hq1 hq2
                go_wp2_with fail
                refine (countLeftWhitespace_any _ _ (le31 (by omega))).mono ?_
                rintro e w6 ⟨⟨k2, hk3, rfl, hk4⟩, hg6⟩
                rw [← HDC.out] at hk4
                obtain ⟨y, hy, hl4, hys⟩ := ws_cut _ k2 _ hk4
                have HL4 := hid hl4
                have HG6 := hid (HG5.out.trans (Below.mono hg6 (by have := HG5.out.size; omega)))
                have HCP6 := hid (HCP5.out.gr hg6)
                clear hk4 hg6 hl4
                cases hsk2 : dicC (d5 :: r4) with
                | nil =>
                  have HX := hid (show R = none by rw [← HRR.out, dicT_tail HK.out HDV.out HPR.out HSK.out hsk2]; rfl)
                  rw [hsk2] at HL4
                  have hy0 : ((y.size : Int) == 0) = true := lenT (size_of _ _ HL4.out)
                  clear hsk2
                  go_wp2_with fail
                  go_ret
                  exact pdpost_no HX.out HG6.out HCP6.out
                | cons e4 r5 =>
                  have HN := hid (show pre1 (ys ++ [(ahead L (d :: rr), (some (ahead rr r2)), ahead r2 r3)]) (dic (bl y)) = R by
                    rw [HL4.out, hsk2, dic_cons (by simp), ← pre1_cons, ← dicT_next HK.out HDV.out HPR.out HSK.out hsk2, HRR.out])
                  rw [hsk2] at HL4
                  obtain ⟨hy0, _⟩ := bl_cons HL4.out
                  have hyn : ((y.size : Int) == 0) = false := lenF hy0
                  clear hsk2
                  go_wp2_with fail
                  go_roundw
                  case rel => exact ⟨y, _, _, rfl, by omega, HN, HPS, HG6, hid (by have := hpl.out; simp; omega), HCP6⟩
                  case measure => simp [strOf]; omega

set_option maxHeartbeats 1000000 in
theorem implDict_any (s : ByteArray) (w : World) (hs : s.size ≤ 4294967296) (hT : Lib.Utf8Tabs 0 1 w) :
    Calls Tryd.prog 26 #[.string s] w fun e w' => ImpDPost (dic (bl s)) w e w' := by
  have hw := tabs_two hT
  have hmf : ∀ (fn : Fn) (first cap : Array Value) (w : World), (Instr.makeFunc fn first cap).run Tryd.prog w = .ok (.func fn first cap) w := fun _ _ _ _ => rfl
  have HT := hid (Utf8Tabs_below hT ((Gr.refl w).alloc (.cells #[.slice none 0 0] 46)))
  have HCP := hid (Cap3.start w)
  clear hT
  go_enter Tryd.func26, Tryd.ntmps26
  go_wp2_with fail
  refine (parseDict_clo w.heap.size w.heap.size s _ hs HT.out hw (Nat.le_refl _) (by simp) HCP.out).mono ?_
  rintro e w1 ⟨hg1, ⟨hn, rfl, ps, v, hc, ho⟩ | ⟨ys, ps, hn, hps, rfl, v, hc, ho⟩⟩
  all_goals
    have HG1 := hid (show Gr w w1 from Below.trans ((Gr.refl w).alloc _) hg1)
    have HN := hid hn
    have HO := hid ho
    have HC := hid hc
    have c1 := cell_of_one hc
    have f1 := free_of_one hc
    clear hg1 hn hc
    rcases ho.2 with ⟨rfl, _⟩ | ⟨g, cap, cur, rfl, _⟩
  all_goals
    clear ho
    go_wp2_with fail
  · exact bodyPost_ret (v := .tuple #[.slice none 0 0, .bool false]) (by simp [results, Tryd.results26, go_sem, c1]) rfl ⟨HG1.out.setCell (Nat.le_refl _) _, .inl ⟨HN.out, _, rfl⟩⟩
  · exact bodyPost_ret (v := .tuple #[.slice (some ⟨g, 0, none⟩) ps.length cap, .bool false]) (by simp [results, Tryd.results26, go_sem, c1]) rfl ⟨HG1.out.setCell (Nat.le_refl _) _, .inl ⟨HN.out, _, rfl⟩⟩
  · exact bodyPost_ret (v := .tuple #[.slice none 0 0, .bool true]) (by simp [results, Tryd.results26, go_sem, c1]) rfl ⟨HG1.out.setCell (Nat.le_refl _) _, .inr ⟨_, ys, ps, HN.out, hps, rfl, ownsRow_setCell_other HO.out (ownB_ne HO.out HC.out (by decide)) _⟩⟩
  · exact bodyPost_ret (v := .tuple #[.slice (some ⟨g, 0, none⟩) ps.length cap, .bool true]) (by simp [results, Tryd.results26, go_sem, c1]) rfl ⟨HG1.out.setCell (Nat.le_refl _) _, .inr ⟨_, ys, ps, HN.out, hps, rfl, ownsRow_setCell_other HO.out (ownB_ne HO.out HC.out (by decide)) _⟩⟩

end Go.Proofs.YtohjnegllfdemaaDoor
