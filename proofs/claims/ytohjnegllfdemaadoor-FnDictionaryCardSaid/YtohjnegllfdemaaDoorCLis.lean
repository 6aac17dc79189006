/-
  The walks of ParseList and of impl's List.
-/
import Derived.Test.YtohjnegllfdemaaDoorImp
import Derived.Test.YtohjnegllfdemaaDoorGram5
set_option maxRecDepth 100000
namespace Go.Proofs.YtohjnegllfdemaaDoor
open Go.RowKit

theorem ppost_no {B C : Nat} {R : Option (List (Bs × Bs))} {w w' : World} {ps : Ps} (h : R = none) (hb : Below B w w') (hc : Cap w' C B ps) : PPost B C R w (.returned (.bool false)) w' := ⟨hb, .inl ⟨h, rfl, ps, hc⟩⟩
theorem ppost_yes {B C : Nat} {R : Option (List (Bs × Bs))} {w w' : World} {ps : Ps} (h : R = some (psL ps)) (hb : Below B w w') (hc : Cap w' C B ps) : PPost B C R w (.returned (.bool true)) w' := ⟨hb, .inr ⟨ps, h, rfl, hc⟩⟩
theorem mem_inn {l : Bs} {c : UInt8} {t : Bs} (h : l = c :: t) (hc : c.toNat = 40) : mem l = (inn l).map (·.2) := by
  subst h
  have hc' : (c.toNat == 40) = true := by simpa using hc
  simp only [mem, hc', if_true]
theorem mem_bare {l : Bs} {c : UInt8} {t : Bs} (h : l = c :: t) (hc : c.toNat ≠ 40) : mem l = bare l := by
  subst h
  have hc' : (c.toNat == 40) = false := by simpa using hc
  simp only [mem, hc', Bool.false_eq_true, if_false]
theorem lis_cons {l : Bs} (h : 0 < l.length) : lis l = lisT l := lis_open (by intro e; subst e; simp at h)

set_option maxHeartbeats 8000000 in
theorem parseList_clo (B C : Nat) (s : ByteArray) (w : World) (hs : s.size ≤ 4294967296) (hT : Lib.Utf8Tabs 0 1 w) (hB2 : 2 ≤ B) (hBC : B ≤ C) (hBw : B ≤ w.heap.size) (hcap : Cap w C B []) :
    Calls Tryd.prog 47 #[.string s, .func (.func 48) #[] #[.pointer (some ⟨C, 0, none⟩)]] w fun e w' => PPost B C (lis (bl s)) w e w' := by
  obtain ⟨R, hR⟩ : ∃ R, lis (bl s) = R := ⟨_, rfl⟩
  rw [hR]
  have HR := hid (show pre1 (psL []) (lis (bl s)) = R by rw [← hR]; exact pre1_nil _)
  have HT := hid hT
  clear hT hR
  have hnf : ∀ W : World, (binOp .neq 68 (.func (.func 48) #[] #[.pointer (some ⟨C, 0, none⟩)]) .nilFunc).run Tryd.prog W = .ok (.bool true) W := fun W => by kernel_rfl
  go_enter Tryd.func47, Tryd.ntmps47
  go_wp2_with fail
  go_loopw [0] (fun v wr => ∃ (t : ByteArray) (ps : Ps), v = .string t ∧ t.size ≤ s.size ∧ Hid (pre1 (psL ps) (lis (bl t)) = R) ∧ Hid (Below B w wr) ∧ Hid (ps.length + t.size ≤ s.size) ∧ Hid (Cap wr C B ps)) (fun v _ => (strOf v).size)
  case atStart => exact ⟨s, [], rfl, Nat.le_refl _, HR, hid (Below.refl _ _), hid (by simp), hid hcap⟩
  case round =>
    clear HR hcap
    obtain ⟨t, ps, rfl, hts, hr, hg, hpl, HCP⟩ := hrel
    have HTr := hid (tabs_below HT.out hg.out hB2)
    by_cases h0t : 0 < t.size
    case neg =>
      obtain rfl := bl_empty (a := t) (List.eq_nil_of_length_eq_zero (by rw [bl_length]; omega))
      have HX := hid (show R = some (psL ps) by rw [← hr.out]; show pre1 (psL ps) (some []) = _; simp [pre1])
      clear h0t
      go_wp2_with fail
      go_ret
      exact ppost_yes HX.out hg.out HCP.out
    have hne : ((t.size : Int) != 0) = true := neT (n := 0) (by omega)
    obtain ⟨L, hL⟩ : ∃ L, bl t = L := ⟨_, rfl⟩
    have hrr := hr.out
    rw [hL] at hrr
    have hL0 : 0 < L.length := by rw [← size_of _ _ hL]; exact h0t
    rw [lis_cons hL0] at hrr
    have hb0 := bl_get t 0 h0t
    rw [List.drop_zero, Nat.zero_add, hL] at hb0
    have HL := hid hL
    have HRR := hid hrr
    have HL0 := hid hL0
    clear hL hr hrr hL0
    have hm : ((((t[0]).toNat : Int) == 40) = true ∧ mem L = (inn L).map (·.2)) ∨ ((((t[0]).toNat : Int) == 40) = false ∧ mem L = bare L) := by
      by_cases hc : (t[0]).toNat = 40
      · exact .inl ⟨eqT hc, mem_inn hb0 hc⟩
      · exact .inr ⟨eqF hc, mem_bare hb0 hc⟩
    clear hb0
    rcases hm with ⟨q40, hm⟩ | ⟨q40, hm⟩
    all_goals
      have HM := hid hm
      clear hm
      go_wp2_with fail
      first
        | (refine (consumeInner_nil _ _ (by omega) HTr.out).mono ?_; skip)
        | (refine (consumeBareItem_any _ _ (by omega) HTr.out).mono ?_; skip)
      rintro e w2 ⟨hp, hg2⟩
      rw [HL.out, ← HM.out] at hp
      have HG2 := hid (hg.out.trans (Below.mono hg2 (by have := hg.out.size; omega)))
      have HTr2 := hid (Utf8Tabs_below HTr.out hg2)
      have HCP2 := hid (HCP.out.gr hg2)
      clear hg2
      rcases opt_some hp with ⟨hb, a, b, rfl⟩ | ⟨r1, hb, a, b, rfl, ha, hbb⟩
      · have HX := hid (show R = none by rw [← HRR.out, lisT_nomem hb]; rfl)
        clear hp hb
        go_wp2_with fail
        go_ret
        exact ppost_no HX.out HG2.out HCP2.out
      rw [HL.out] at ha
      have HBN := hid hb
      have HA := hid ha
      have HBB := hid hbb
      have hbs : b.size < t.size := by have := mem_lt hb; have h1 := size_of _ _ hbb; have h2 := size_of _ _ HL.out; omega
      clear hp hb ha hbb
      go_wp2_with fail
      refine (consumeParameter_nil _ _ (by omega) HTr2.out).mono ?_
      rintro e w3 ⟨hp, hg3⟩
      rw [HBB.out] at hp
      have HG3 := hid (HG2.out.trans (Below.mono hg3 (by have := HG2.out.size; omega)))
      have HTr3 := hid (Utf8Tabs_below HTr2.out hg3)
      have HCP3 := hid (HCP2.out.gr hg3)
      clear hg3
      cases hpr : par r1 with
      | none =>
        rw [hpr] at hp
        obtain ⟨c', d', rfl⟩ := hp
        have HX := hid (show R = none by rw [← HRR.out, lisT_nopar HBN.out hpr]; rfl)
        clear hpr
        go_wp2_with fail
        go_ret
        exact ppost_no HX.out HG3.out HCP3.out
      | some z =>
        obtain ⟨zs, r2⟩ := z
        rw [hpr] at hp
        obtain ⟨c', d', rfl, hc', hd'⟩ := hp
        rw [HBB.out] at hc'
        have HC' := hid hc'
        have HD' := hid hd'
        have HPR := hid hpr
        have hds : d'.size ≤ b.size := by have := par_len hpr; have h1 := size_of _ _ hd'; have h2 := size_of _ _ HBB.out; simp only at h1; omega
        clear hc' hpr hd'
        go_wp2_with fail
        refine (cloList B C B _ _ ps _ (Nat.le_refl _) hBC (by have := HG3.out.size; omega) HCP3.out (by have := hpl.out; omega)).mono ?_
        rintro e w4 ⟨rfl, hc4, hg4⟩
        have HCP4 := hid hc4
        have HG4 := hid (HG3.out.trans hg4)
        have HPS := hid (show psL (ps ++ [(a, c')]) = psL ps ++ [(ahead L r1, ahead r1 r2)] by rw [psL_push, HA.out, HC'.out])
        clear hc4 hg4
        go_wp2_with fail
        refine (countLeftWhitespace_any _ _ (le31 (by omega))).mono ?_
        rintro e w5 ⟨⟨k, hk1, rfl, hk2⟩, hg5⟩
        rw [HD'.out] at hk2
        have HL2 := hid (show bl (d'.extract k d'.size) = skip wsB r2 by rw [bl_from, HD'.out, hk2])
        have HG5 := hid (HG4.out.trans (Below.mono hg5 (by have := HG4.out.size; omega)))
        have HCP5 := hid (HCP4.out.gr hg5)
        obtain ⟨u, hu⟩ : ∃ u, d'.extract k d'.size = u := ⟨_, rfl⟩
        rw [hu] at HL2
        have hus : u.size ≤ d'.size := by rw [size_of _ _ HL2.out, size_of _ _ HD'.out]; exact skip_le wsB r2
        clear hk2 hg5
        cases hsk : skip wsB r2 with
        | nil =>
          have HX := hid (show R = some (psL (ps ++ [(a, c')])) by rw [← HRR.out, lisT_end HBN.out HPR.out hsk, HPS.out]; rfl)
          rw [hsk] at HL2
          have hu0 : ((u.size : Int) == 0) = true := lenT (size_of _ _ HL2.out)
          clear hsk
          go_wp2_with fail
          go_ret
          exact ppost_yes HX.out HG5.out HCP5.out
        | cons d r3 =>
          rw [hsk] at HL2
          obtain ⟨hu0, hu1⟩ := bl_cons HL2.out
          have hun : ((u.size : Int) == 0) = false := lenF hu0
          by_cases hd : d.toNat = 44
          case neg =>
            have HX := hid (show R = none by rw [← HRR.out, lisT_nocomma HBN.out HPR.out hsk hd]; rfl)
            have q44 : (((u[0]).toNat : Int) != 44) = true := by rw [hu1]; exact neT hd
            clear hsk hd hu1
            go_wp2_with fail
            go_ret
            exact ppost_no HX.out HG5.out HCP5.out
          have q44 : (((u[0]).toNat : Int) != 44) = false := by rw [hu1]; exact neF hd
          have HD := hid hd
          have HSK := hid hsk
          have HL3 := hid (from_one u d r3 HL2.out)
          have hsz : (u.extract 1 u.size).size < u.size := by rw [ByteArray.size_extract]; omega
          obtain ⟨x, hx⟩ : ∃ x, u.extract 1 u.size = x := ⟨_, rfl⟩
          rw [hx] at hsz HL3
          clear hsk hd hu1
          go_wp2_with fail
          refine (countLeftWhitespace_any x _ (le31 (by omega))).mono ?_
          rintro e w6 ⟨⟨k2, hk3, rfl, hk4⟩, hg6⟩
          rw [HL3.out] at hk4
          have HL4 := hid (show bl (x.extract k2 x.size) = skip wsB r3 by rw [bl_from, HL3.out, hk4])
          have HG6 := hid (HG5.out.trans (Below.mono hg6 (by have := HG5.out.size; omega)))
          have HCP6 := hid (HCP5.out.gr hg6)
          obtain ⟨y, hy⟩ : ∃ y, x.extract k2 x.size = y := ⟨_, rfl⟩
          rw [hy] at HL4
          have hys : y.size ≤ x.size := by rw [← hy, ByteArray.size_extract]; omega
          clear hk4 hg6
          cases hsk2 : skip wsB r3 with
          | nil =>
            have HX := hid (show R = none by rw [← HRR.out, lisT_tail HBN.out HPR.out HSK.out HD.out hsk2]; rfl)
            rw [hsk2] at HL4
            have hy0 : ((y.size : Int) == 0) = true := lenT (size_of _ _ HL4.out)
            clear hsk2
            go_wp2_with fail
            go_ret
            exact ppost_no HX.out HG6.out HCP6.out
          | cons e4 r4 =>
            have HN := hid (show pre1 (psL (ps ++ [(a, c')])) (lis (bl y)) = R by
              rw [HL4.out, hsk2, lis_cons (by simp), HPS.out, ← pre1_cons, ← lisT_next HBN.out HPR.out HSK.out HD.out hsk2, HRR.out])
            rw [hsk2] at HL4
            obtain ⟨hy0, _⟩ := bl_cons HL4.out
            have hyn : ((y.size : Int) == 0) = false := lenF hy0
            clear hsk2
            go_wp2_with fail
            go_roundw
            case rel => exact ⟨y, _, rfl, by omega, HN, HG6, hid (by have := hpl.out; simp; omega), HCP6⟩
            case measure => simp [strOf]; omega

set_option maxHeartbeats 1000000 in
theorem implList_any (s : ByteArray) (w : World) (hs : s.size ≤ 4294967296) (hT : Lib.Utf8Tabs 0 1 w) :
    Calls Tryd.prog 24 #[.string s] w fun e w' => ImpPost (lis (bl s)) w e w' := by
  have hw := tabs_two hT
  have hmf : ∀ (fn : Fn) (first cap : Array Value) (w : World), (Instr.makeFunc fn first cap).run Tryd.prog w = .ok (.func fn first cap) w := fun _ _ _ _ => rfl
  have HT := hid (Utf8Tabs_below hT ((Gr.refl w).alloc (.cells #[.slice none 0 0] 33)))
  have HCP := hid (Cap.start w)
  clear hT
  go_enter Tryd.func24, Tryd.ntmps24
  go_wp2_with fail
  refine (parseList_clo w.heap.size w.heap.size s _ hs HT.out hw (Nat.le_refl _) (by simp) HCP.out).mono ?_
  rintro e w1 ⟨hg1, ⟨hn, rfl, ps, v, hc, ho⟩ | ⟨ps, hn, rfl, v, hc, ho⟩⟩
  all_goals
    have HG1 := hid (show Gr w w1 from Below.trans ((Gr.refl w).alloc _) hg1)
    have HN := hid hn
    have HO := hid ho
    have HC := hid hc
    have c1 := cell_of_one hc
    have f1 := free_of_one hc
    clear hg1 hn hc
    rcases ho.row.2 with ⟨rfl, _⟩ | ⟨g, cap, cur, rfl, _⟩
  all_goals
    clear ho
    go_wp2_with fail
  · exact bodyPost_ret (v := .tuple #[.slice none 0 0, .bool false]) (by simp [results, Tryd.results24, go_sem, c1]) rfl ⟨HG1.out.setCell (Nat.le_refl _) _, .inl ⟨HN.out, _, rfl⟩⟩
  · exact bodyPost_ret (v := .tuple #[.slice (some ⟨g, 0, none⟩) ps.length cap, .bool false]) (by simp [results, Tryd.results24, go_sem, c1]) rfl ⟨HG1.out.setCell (Nat.le_refl _) _, .inl ⟨HN.out, _, rfl⟩⟩
  · exact bodyPost_ret (v := .tuple #[.slice none 0 0, .bool true]) (by simp [results, Tryd.results24, go_sem, c1]) rfl ⟨HG1.out.setCell (Nat.le_refl _) _, .inr ⟨_, ps, HN.out, rfl, ownsRow_setCell_other HO.out (ownB_ne HO.out.row HC.out (by decide)) _⟩⟩
  · exact bodyPost_ret (v := .tuple #[.slice (some ⟨g, 0, none⟩) ps.length cap, .bool true]) (by simp [results, Tryd.results24, go_sem, c1]) rfl ⟨HG1.out.setCell (Nat.le_refl _) _, .inr ⟨_, ps, HN.out, rfl, ownsRow_setCell_other HO.out (ownB_ne HO.out.row HC.out (by decide)) _⟩⟩

end Go.Proofs.YtohjnegllfdemaaDoor
