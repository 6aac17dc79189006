/-
  The walk of the reference's inner lists: inner.
-/
import Derived.Test.YtohjnegllfdemaaDoorSInn
set_option maxRecDepth 100000
namespace Go.Proofs.YtohjnegllfdemaaDoor
open Go.RowKit

set_option maxHeartbeats 16000000 in
theorem inner_any (b k : Nat) (s : ByteArray) (odd : Bool) (w : World) (hs : s.size ≤ 2147483647) (hd : hdN ((bl s).drop k) = 40) (h : PS w b s k false odd) :
    Calls Tryd.prog 42 #[.pointer (some ⟨b, 0, none⟩)] w fun e w' => InnPost b s k odd w e w' := by
  obtain ⟨R, hR⟩ : ∃ R, inn ((bl s).drop k) = R := ⟨_, rfl⟩
  obtain ⟨i0, hi, hz0, hz1, hz2⟩ := info_parts infoSPair
  have hklt : k < s.size := drop_lt (by omega)
  have HR := hid hR
  have HRT := hid (show innT ((bl s).drop (k + 1)) = R by rw [← hR, inn_open hd, List.drop_drop])
  have HP := hid h
  have c1 := h.c1
  have f1 := h.fz 1
  have hbw := lt_of_block h
  have x0 : (0 : Int) ≤ (k : Int) := by omega
  have x1 : (k : Int) + 1 ≤ 4294967294 := by omega
  have hP1 := h.at (k + 1) ((k : Int) + 1) (by omega)
  have hF1 := (Fr.refl b w).set 1 (.int .i64 ((k : Int) + 1))
  clear hR h
  go_enter Tryd.func42, Tryd.ntmps42
  go_wp2_with fail
  generalize w.setCell ⟨b, 1, none⟩ (.int .i64 ((k : Int) + 1)) = W at *
  have e0 := hP1.c0
  have e1 := hP1.c1
  have e3 := hP1.c3
  have g3 := hP1.fz 3
  have HP1 := hid hP1
  have HF1 := hid hF1
  clear hP1 hF1 c1 f1
  rw [show (((k + 1 : Nat)) : Int) = (k : Int) + 1 from by omega] at e1
  have hstart : ∀ (W' : World) (o : Bool), PS W' b s (k + 1) false o → Fr b w W' → (o = false → odd = false ∧ k + 1 < s.size) → InnInv b s k odd R w (2 * s.size + 2) (.slice none 0 0) W' := fun W' o h1 h2 h3 =>
    ⟨_, rfl, k + 1, false, o, [], [], by omega, hklt, mInn_le _ _, h1, OwnP.nil _ _ _, by have := mInn_le s (k + 1); simpa using this, h2, fun h0 => ⟨(h3 h0).1, .inr ⟨rfl, (h3 h0).2, by rw [pre_nil, HRT.out], rfl⟩⟩⟩
  have HST := hid hstart
  clear hstart
  obtain ⟨q, hq⟩ : ∃ q, (((k : Int) + 1) == (s.size : Int)) = q := ⟨_, rfl⟩
  have HQ := hid (show q = false → k + 1 < s.size from fun h => by
    rw [h, beq_eq_false_iff_ne] at hq
    omega)
  rcases (show odd = false ∨ odd = true by cases odd <;> simp) with hodd | hodd
  case' inl => have HOO := hid (fun (W' : World) (h1 : PS W' b s (k + 1) false q) (h2 : Fr b w W') => HST.out W' q h1 h2 (fun h => ⟨hodd, HQ.out h⟩))
  case' inr => have HOO := hid (fun (W' : World) (h1 : PS W' b s (k + 1) false true) (h2 : Fr b w W') => HST.out W' true h1 h2 (fun h => by cases h))
  all_goals
    rw [hodd] at e3
    go_region
  all_goals
    have HI := hid (HOO.out _ ((HP1.out.odder _).gr (Gr.refl _).drew) (Fr.trans (HF1.out.set 3 _) (Fr.of_gr (Gr.refl _).drew)))
    go_wp2_with fail
    clear e0 e1 e3 g3 hq hodd x0 x1 HOO
    go_loopg [5] (2 * s.size + 2) (fun g v wr => Hid (InnInv b s k odd R w g v wr))
    case atStart => exact HI
    case round =>
      clear HI HST HQ HP1 HF1 HRT
      obtain ⟨v, rfl, j, bad', odd', ys, ps, hkj, hjs, hjg, hp, ho, hlj, hf, hrel⟩ := hrel.out
      have HLJ := hid hlj
      have HO := hid ho
      have HF := hid hf
      have HREL := hid hrel
      have HPJ := hid hp
      clear hlj hp ho hf hrel
      have z2 := HPJ.out.c2
      cases bad'
      case true =>
        go_wp2_with fail
        go_ret2
        exact inn_bad hkj hjs HPJ.out HF.out (by rw [HR.out]; exact HREL.out)
      case false =>
      go_wp2_with fail
      refine (blanks_no b j s false odd' _ hs hjs HPJ.out).mono ?_
      rintro e w2 ⟨rfl, j1, hj1, hj1s, hj1d, hp2, hf2⟩
      obtain ⟨odd1, hodd1⟩ : ∃ o, (odd' || (!false && hdN ((bl s).drop j1) == 9)) = o := ⟨_, rfl⟩
      rw [hodd1] at hp2
      have HWS := hid (show odd1 = false → odd = false ∧ j < s.size ∧ pre ys (innT ((bl s).drop j)) = R ∧ psL ps = ys ∧ skip wsB ((bl s).drop j) = (bl s).drop j1 from fun h0 => by
        obtain ⟨h1, h2⟩ := bl_ws hj1d hodd1 h0
        obtain ⟨h3, ⟨h4, _⟩ | ⟨_, h4, h5, h6⟩⟩ := HREL.out h1
        · cases h4
        · exact ⟨h3, h4, h5, h6, h2⟩)
      have HJ1 := hid hj1d
      have HF2 := hid (HF.out.trans hf2)
      have HO2 := hid (OwnP.fr HO.out hf2 (own_ne HO.out (.inl hbw)))
      have HP2 := hid hp2
      clear hodd1 hj1d hp2 hf2 z2
      go_wp2_with fail
      refine (next_any b j1 s false odd1 _ hs hj1s HP2.out).mono ?_
      rintro e w3 ⟨rfl, hp3, hg3⟩
      have z1 := hp3.c1
      have y1 := hp3.fz 1
      have HP3 := hid hp3
      have HF3 := hid (HF2.out.trans (Fr.of_gr hg3))
      have HO3 := hid (HO2.out.gr hg3)
      clear hp3 hg3
      by_cases hc : hdN ((bl s).drop j1) = 41
      case pos =>
        have q41 : ((hdN ((bl s).drop j1) : Int) == 41) = true := eqT hc
        have hlt : j1 < s.size := drop_lt (by omega)
        have HX := hid (show odd1 = false → odd = false ∧ inn ((bl s).drop k) = some (ys, (bl s).drop (j1 + 1)) ∧ psL ps = ys from fun h0 => by
          obtain ⟨h3, h4, h5, h6, h2⟩ := HWS.out h0
          exact ⟨h3, by rw [HR.out]; exact inn_shut h4 h2 hc hlt h5, h6⟩)
        have hP4 := HP3.out.at (j1 + 1) ((j1 : Int) + 1) (by omega)
        have hF4 := HF3.out.set 1 (.int .i64 ((j1 : Int) + 1))
        have hO4 := OwnP.fr HO3.out ((Fr.refl b w3).set 1 (.int .i64 ((j1 : Int) + 1))) (own_ne HO3.out (.inl hbw))
        have hv1 : (0 : Int) ≤ (j1 : Int) := by omega
        have hv2 : (j1 : Int) + 1 ≤ 4294967294 := by omega
        clear hc
        go_wp2_with fail
        generalize w3.setCell ⟨b, 1, none⟩ (.int .i64 ((j1 : Int) + 1)) = W4 at *
        have HP4 := hid hP4
        have HF4 := hid hF4
        have HO4 := hid hO4
        have u0 := hP4.c0
        have u1 := hP4.c1
        clear hP4 hF4 hO4 z1 y1 q41
        have i1 : (k : Int) ≤ ((j1 + 1 : Nat) : Int) := by omega
        have i2 : ((j1 + 1 : Nat) : Int) ≤ (s.size : Int) := by omega
        have i3 : (0 : Int) ≤ (k : Int) := by omega
        generalize hjj : j1 + 1 = jj at *
        go_quiet (fail)
        go_wp2_with fail
        go_ret2
        exact inn_good (by omega) (by omega) (HP4.out.gr ((Gr.refl _).drewN _)) (HO4.out.gr ((Gr.refl _).drewN _)) (by have := HLJ.out; omega) (HF4.out.trans (Fr.of_gr ((Gr.refl _).drewN _))) HX.out
      case neg =>
      have q41 : ((hdN ((bl s).drop j1) : Int) == 41) = false := eqF hc
      have HC := hid hc
      clear hc
      go_wp2_with fail
      refine (item_any b j1 s odd1 _ hs hj1s HP3.out).mono ?_
      rintro e w4 ⟨hf4, hit⟩
      have HO4 := hid (OwnP.fr HO3.out hf4 (own_ne HO3.out (.inl hbw)))
      have HF4 := hid (HF3.out.trans hf4)
      have hw4 : w.heap.size ≤ w4.heap.size := HF4.out.size
      clear hf4 z1 y1 q41
      rcases hit with ⟨hb, rfl, hp4⟩ | ⟨t, j2, odd2, rfl, hj2, hj2s, hp4, hit⟩
      · have HB := hid (show odd1 = false → odd = false ∧ R = none from fun h0 => by
          obtain ⟨h3, h4, h5, h6, h2⟩ := HWS.out h0
          exact ⟨h3, inn_no1 h4 h2 HC.out hb h5⟩)
        have HP4 := hid (hp4.gr ((Gr.refl w4).alloc (.cells #[.string ⟨#[]⟩, .string ⟨#[]⟩] 38)))
        have HX4 := hid (heap_alloc_new w4 (.cells #[.string ⟨#[]⟩, .string ⟨#[]⟩] 38))
        clear hb hp4
        go_wp2_with fail
        refine (parameters_bad b j1 s odd1 _ hs hj1s HP4.out).mono ?_
        rintro e w5 ⟨c, rfl, hp5, hg5⟩
        have hX5 := blk_of hg5 HX4.out
        have hw5 : w4.heap.size < w5.heap.size := lt_of_block hX5
        have y0 := Lib.cell_of_heap hX5 0
        have y1 := Lib.cell_of_heap hX5 1
        have yf := Lib.frozen_of_heap hX5 1
        simp at y0 y1
        have HP6 := hid (hp5.other (B := w4.heap.size) (by omega) 1 (.string c))
        have hne6 : v.ownBlock ≠ some w4.heap.size := own_ne HO4.out (.inr (Nat.le_refl _))
        have HO6 := hid (show OwnP (w5.setCell ⟨w4.heap.size, 1, none⟩ (.string c)) w.heap.size 38 v ps from ownsRow_setCell_other ((HO4.out.alloc _).gr hg5) (a := ⟨w4.heap.size, 1, none⟩) hne6 _)
        have HF6 := hid (show Fr b w (w5.setCell ⟨w4.heap.size, 1, none⟩ (.string c)) from (HF4.out.trans (Fr.of_gr (((Gr.refl w4).alloc _).trans hg5))).trans_low ⟨rfl, rfl, rfl, by simp [World.setCell], fun i hi hn => heap_setCell_other _ _ _ _ (by simp; omega)⟩)
        clear hp5 hg5 hX5
        have hown0 := HO6.out.row
        have hlen : ps.length + 1 ≤ 4294967299 := by have := HLJ.out; have := mInn_pos s j; omega
        have hsz : w.heap.size ≤ w5.heap.size := by omega
        have hvb : v.ownBlock ≠ some b := own_ne HO6.out (.inl hbw)
        go_wp2_with (at_builtin; refine wpList_append_own _ rfl _ _ 30 rfl w.heap.size 38 i0 (.agg #[.string ⟨#[]⟩, .string ⟨#[]⟩]) 2 32 Tryd.underlying30 hi hz0 hz1 hz2 rfl (by decide) _ _ _ rfl (hown0.alloc _) ⟨w5.heap.size, 0, none⟩ 1 1 [.string ⟨#[]⟩, .string c] rfl rfl (two_new2 _ _ _ _ (by simp [World.setCell])) (two_one _ _) (by unfold maxLen; omega) (by omega) (by simp; omega) ?_; intro v' w9 hown' hgrow _; have z2 := (HP6.out.grown hgrow hvb).c2; have y2 := (HP6.out.grown hgrow hvb).fz 2)
        have HP7 := hid (HP6.out.grown hgrow hvb)
        have HF7 := hid (HF6.out.grown hgrow (fun i e => (hown0.lt i e).1))
        have HO7 := hid (OwnP.of_row hown')
        clear hown' hgrow hown0 hvb
        go_roundg 0
        case measure => have := mInn_pos s j; omega
        case rel => exact hid ⟨_, rfl, j1, true, odd1, [], _, by omega, hj1s, Nat.le_refl _, HP7.out.worse true, OwnP.fr HO7.out ((Fr.refl b w9).set 2 _) (own_ne HO7.out (.inl hbw)), by have := HLJ.out; have := mInn_pos s j; rw [mInn_bad]; simp; omega, HF7.out.set 2 _, fun h0 => ⟨(HB.out h0).1, .inl ⟨rfl, (HB.out h0).2⟩⟩⟩
      · have HIT := hid (show odd2 = false → odd = false ∧ j < s.size ∧ pre ys (innT ((bl s).drop j)) = R ∧ psL ps = ys ∧ skip wsB ((bl s).drop j) = (bl s).drop j1 ∧ bare ((bl s).drop j1) = some ((bl s).drop j2) ∧ bl t = ahead ((bl s).drop j1) ((bl s).drop j2) from fun h0 => by
          obtain ⟨h1, r, h2, h3, h4⟩ := hit h0
          obtain ⟨g1, g2, g3, g4, g5⟩ := HWS.out h1
          exact ⟨g1, g2, g3, g4, g5, by rw [h2, h3], by rw [h4, h3]⟩)
        have HP4 := hid (hp4.gr ((Gr.refl w4).alloc (.cells #[.string t, .string ⟨#[]⟩] 38)))
        have HX4 := hid (heap_alloc_new w4 (.cells #[.string t, .string ⟨#[]⟩] 38))
        clear hit hp4
        go_wp2_with fail
        refine (parameters_any b j2 s false odd2 _ hs hj2s HP4.out (fun h => by cases h)).mono ?_
        rintro e w5 ⟨hf5, c, v2, ps2, j3, bad3, odd3, rfl, hj3, hj3s, hp5, _, _, hrel5⟩
        have hX5 := hf5.heap HX4.out (by omega)
        have hw5 : w4.heap.size < w5.heap.size := lt_of_block hX5
        have y0 := Lib.cell_of_heap hX5 0
        have y1 := Lib.cell_of_heap hX5 1
        have yf := Lib.frozen_of_heap hX5 1
        simp at y0 y1
        have HP6 := hid (hp5.other (B := w4.heap.size) (by omega) 1 (.string c))
        have hne6 : v.ownBlock ≠ some w4.heap.size := own_ne HO4.out (.inr (Nat.le_refl _))
        have HO6 := hid (show OwnP (w5.setCell ⟨w4.heap.size, 1, none⟩ (.string c)) w.heap.size 38 v ps from ownsRow_setCell_other (OwnP.fr (HO4.out.alloc _) hf5 (own_ne HO4.out (.inl hbw))) (a := ⟨w4.heap.size, 1, none⟩) hne6 _)
        have HF6 := hid (show Fr b w (w5.setCell ⟨w4.heap.size, 1, none⟩ (.string c)) from ((HF4.out.trans (Fr.of_gr ((Gr.refl w4).alloc _))).trans hf5).trans_low ⟨rfl, rfl, rfl, by simp [World.setCell], fun i hi hn => heap_setCell_other _ _ _ _ (by simp; omega)⟩)
        have HR5 := hid hrel5
        clear hp5 hf5 hX5 hrel5
        cases bad3
        case true =>
          have HB := hid (show odd3 = false → odd = false ∧ R = none from fun h0 => by
            obtain ⟨h1, ⟨_, h2⟩ | ⟨h2, _⟩⟩ := HR5.out h0
            · obtain ⟨g1, g2, g3, g4, g5, g6, g7⟩ := HIT.out h1
              exact ⟨g1, inn_no2 g2 g5 HC.out g6 h2 g3⟩
            · cases h2)
          have hown0 := HO6.out.row
          have hlen : ps.length + 1 ≤ 4294967299 := by have := HLJ.out; have := mInn_pos s j; omega
          have hsz : w.heap.size ≤ w5.heap.size := by omega
          have hvb : v.ownBlock ≠ some b := own_ne HO6.out (.inl hbw)
          go_wp2_with (at_builtin; refine wpList_append_own _ rfl _ _ 30 rfl w.heap.size 38 i0 (.agg #[.string ⟨#[]⟩, .string ⟨#[]⟩]) 2 32 Tryd.underlying30 hi hz0 hz1 hz2 rfl (by decide) _ _ _ rfl (hown0.alloc _) ⟨w5.heap.size, 0, none⟩ 1 1 [.string t, .string c] rfl rfl (two_new2 _ _ _ _ (by simp [World.setCell])) (two_one _ _) (by unfold maxLen; omega) (by omega) (by simp; omega) ?_; intro v' w9 hown' hgrow _; have z2 := (HP6.out.grown hgrow hvb).c2; have y2 := (HP6.out.grown hgrow hvb).fz 2)
          have HP7 := hid (HP6.out.grown hgrow hvb)
          have HF7 := hid (HF6.out.grown hgrow (fun i e => (hown0.lt i e).1))
          have HO7 := hid (OwnP.of_row hown')
          clear hown' hgrow hown0 hvb
          go_roundg 0
          case measure => have := mInn_pos s j; omega
          case rel => exact hid ⟨_, rfl, j3, true, odd3, [], _, by omega, hj3s, Nat.le_refl _, HP7.out.worse true, OwnP.fr HO7.out ((Fr.refl b w9).set 2 _) (own_ne HO7.out (.inl hbw)), by have := HLJ.out; have := mInn_pos s j; rw [mInn_bad]; simp; omega, HF7.out.set 2 _, fun h0 => ⟨(HB.out h0).1, .inl ⟨rfl, (HB.out h0).2⟩⟩⟩
        case false =>
        have HGO := hid (show odd3 = false → odd = false ∧ (hdN ((bl s).drop j3) = 32 ∨ hdN ((bl s).drop j3) = 41 → pre (ys ++ [(bl t, bl c)]) (innT ((bl s).drop j3)) = R) ∧ (hdN ((bl s).drop j3) ≠ 32 → hdN ((bl s).drop j3) ≠ 41 → R = none) ∧ psL ps = ys from fun h0 => by
          obtain ⟨h1, ⟨h2, _⟩ | ⟨_, zs, r3, h2, h3, h4, _⟩⟩ := HR5.out h0
          · cases h2
          · obtain ⟨g1, g2, g3, g4, g5, g6, g7⟩ := HIT.out h1
            rw [← h3] at h2 h4
            exact ⟨g1, fun h => inn_go g2 g5 HC.out g6 g7 h2 h4 h g3, fun h h' => inn_no3 g2 g5 HC.out g6 h2 h h' g3, g4⟩)
        have hown0 := HO6.out.row
        have hlen : ps.length + 1 ≤ 4294967299 := by have := HLJ.out; have := mInn_pos s j; omega
        have hsz : w.heap.size ≤ w5.heap.size := by omega
        have hvb : v.ownBlock ≠ some b := own_ne HO6.out (.inl hbw)
        go_wp2_with (at_builtin; refine wpList_append_own _ rfl _ _ 30 rfl w.heap.size 38 i0 (.agg #[.string ⟨#[]⟩, .string ⟨#[]⟩]) 2 32 Tryd.underlying30 hi hz0 hz1 hz2 rfl (by decide) _ _ _ rfl (hown0.alloc _) ⟨w5.heap.size, 0, none⟩ 1 1 [.string t, .string c] rfl rfl (two_new2 _ _ _ _ (by simp [World.setCell])) (two_one _ _) (by unfold maxLen; omega) (by omega) (by simp; omega) ?_; intro v' w9 hown' hgrow _; have z2 := (HP6.out.grown hgrow hvb).c2; have y2 := (HP6.out.grown hgrow hvb).fz 2)
        have HP7 := hid (HP6.out.grown hgrow hvb)
        have HF7 := hid (HF6.out.grown hgrow (fun i e => (hown0.lt i e).1))
        have HO7 := hid (OwnP.of_row hown')
        clear hown' hgrow hown0 hvb
        refine (next_any b j3 s false odd3 _ hs hj3s HP7.out).mono ?_
        rintro e w10 ⟨rfl, hp10, hg10⟩
        have HP10 := hid hp10
        have HF10 := hid (HF7.out.trans (Fr.of_gr hg10))
        have HO10 := hid (HO7.out.gr hg10)
        have y10 := hp10.fz 2
        have x10 := hp10.c2
        clear hp10 hg10 z2 y2
        by_cases h32 : hdN ((bl s).drop j3) = 32
        · have q32 : ((hdN ((bl s).drop j3) : Int) != 32) = false := neF h32
          have hlt3 : j3 < s.size := drop_lt (by omega)
          have HM := hid (mInn_next hjs HJ1.out hj1 hj1s HC.out (by omega) hj3s (.inl h32))
          have HG32 := hid h32
          clear h32
          go_wp2_with fail
          go_roundg (mInn s j3 false)
          case measure => have := HM.out; omega
          case rel => exact hid ⟨_, rfl, j3, false, odd3, ys ++ [(bl t, bl c)], _, by omega, hj3s, Nat.le_refl _, HP10.out.worse false, OwnP.fr HO10.out ((Fr.refl b w10).set 2 _) (own_ne HO10.out (.inl hbw)), by have := HLJ.out; have := HM.out; simp; omega, HF10.out.set 2 _, fun h0 => ⟨(HGO.out h0).1, .inr ⟨rfl, hlt3, (HGO.out h0).2.1 (.inl HG32.out), by rw [psL_push, (HGO.out h0).2.2.2]⟩⟩⟩
        · have q32 : ((hdN ((bl s).drop j3) : Int) != 32) = true := neT h32
          have HG32 := hid h32
          clear h32
          go_wp2_with fail
          refine (next_any b j3 s false odd3 _ hs hj3s HP10.out).mono ?_
          rintro e w11 ⟨rfl, hp11, hg11⟩
          have HP11 := hid hp11
          have HF11 := hid (HF10.out.trans (Fr.of_gr hg11))
          have HO11 := hid (HO10.out.gr hg11)
          have y11 := hp11.fz 2
          have x11 := hp11.c2
          clear hp11 hg11 y10 x10
          by_cases h41 : hdN ((bl s).drop j3) = 41
          · have q41 : ((hdN ((bl s).drop j3) : Int) != 41) = false := neF h41
            have hlt3 : j3 < s.size := drop_lt (by omega)
            have HM := hid (mInn_next hjs HJ1.out hj1 hj1s HC.out (by omega) hj3s (.inr h41))
            have HG41 := hid h41
            clear h41
            go_wp2_with fail
            go_roundg (mInn s j3 false)
            case measure => have := HM.out; omega
            case rel => exact hid ⟨_, rfl, j3, false, odd3, ys ++ [(bl t, bl c)], _, by omega, hj3s, Nat.le_refl _, HP11.out.worse false, OwnP.fr HO11.out ((Fr.refl b w11).set 2 _) (own_ne HO11.out (.inl hbw)), by have := HLJ.out; have := HM.out; simp; omega, HF11.out.set 2 _, fun h0 => ⟨(HGO.out h0).1, .inr ⟨rfl, hlt3, (HGO.out h0).2.1 (.inr HG41.out), by rw [psL_push, (HGO.out h0).2.2.2]⟩⟩⟩
          · have q41 : ((hdN ((bl s).drop j3) : Int) != 41) = true := neT h41
            have HB := hid (show odd3 = false → odd = false ∧ R = none from fun h0 => ⟨(HGO.out h0).1, (HGO.out h0).2.2.1 HG32.out h41⟩)
            clear h41
            go_wp2_with fail
            go_roundg 0
            case measure => have := mInn_pos s j; omega
            case rel => exact hid ⟨_, rfl, j3, true, odd3, [], _, by omega, hj3s, Nat.le_refl _, HP11.out.worse true, OwnP.fr HO11.out ((Fr.refl b w11).set 2 _) (own_ne HO11.out (.inl hbw)), by have := HLJ.out; have := mInn_pos s j; rw [mInn_bad]; simp; omega, HF11.out.set 2 _, fun h0 => ⟨(HB.out h0).1, .inl ⟨rfl, (HB.out h0).2⟩⟩⟩

end Go.Proofs.YtohjnegllfdemaaDoor
