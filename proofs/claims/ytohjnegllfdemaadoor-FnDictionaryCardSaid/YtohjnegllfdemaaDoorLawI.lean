/-
  The walks of the reference's ItemOf and of the law FnItem.
-/
import Derived.Test.YtohjnegllfdemaaDoorLawP
import Derived.Deep.RegionHeld3
set_option maxRecDepth 100000
namespace Go.Proofs.YtohjnegllfdemaaDoor
open Go.RowKit

/-- What the reference's ItemOf gives. -/
def SItemPost (s : ByteArray) (w : World) (e : Ending) (w' : World) : Prop :=
  Gr w w' ∧ ∃ (a c : ByteArray) (q : Int), e = .returned (.tuple #[.agg #[.string a, .string c], .int .i64 q]) ∧
    (q = 2 ∨ (q = 0 ∧ itmR (bl s) = none) ∨ (q = 1 ∧ itmR (bl s) = some [(bl a, bl c)]))

theorem itmR_nobare {l : Bs} (h : bare l = none) : itmR l = none := by unfold itmR itm; rw [h]
theorem itmR_nopar {l r : Bs} (h : bare l = some r) (h2 : par r = none) : itmR l = none := by unfold itmR itm; rw [h]; simp only [h2]
theorem itmR_more {l r r2 : Bs} {ys : List (Bs × Option Bs)} (h : bare l = some r) (h2 : par r = some (ys, r2)) (hr : r2 ≠ []) : itmR l = none := by
  unfold itmR itm
  rw [h]
  simp only [h2]
  cases r2 with
  | nil => exact absurd rfl hr
  | cons _ _ => rfl
theorem itmR_all {l r : Bs} {ys : List (Bs × Option Bs)} (h : bare l = some r) (h2 : par r = some (ys, [])) : itmR l = some [(ahead l r, ahead r [])] := by unfold itmR itm; rw [h]; simp only [h2]

set_option maxHeartbeats 4000000 in
theorem itemOf_any (s : ByteArray) (w : World) (hs : s.size ≤ 2147483647) :
    Calls Tryd.prog 19 #[.string s] w fun e w' => SItemPost s w e w' := by
  have hp0 : PS ((w.alloc (.cells #[.string ⟨#[]⟩, .string ⟨#[]⟩] 38)).alloc (.cells #[.string s, .int .i64 0, .bool false, .bool false] 63)) (w.heap.size + 1) s 0 false false := by
    have h := ps_new (w.alloc (.cells #[.string ⟨#[]⟩, .string ⟨#[]⟩] 38)) s
    rwa [show (w.alloc (.cells #[.string ⟨#[]⟩, .string ⟨#[]⟩] 38)).heap.size = w.heap.size + 1 from by simp] at h
  have hr0 : ((w.alloc (.cells #[.string ⟨#[]⟩, .string ⟨#[]⟩] 38)).alloc (.cells #[.string s, .int .i64 0, .bool false, .bool false] 63)).heap[w.heap.size]? = some (.cells #[.string ⟨#[]⟩, .string ⟨#[]⟩] 38 (0, 0)) := by
    rw [Lib.alloc_old _ _ _ (by simp), heap_alloc_new]
  have hg0 : Gr w ((w.alloc (.cells #[.string ⟨#[]⟩, .string ⟨#[]⟩] 38)).alloc (.cells #[.string s, .int .i64 0, .bool false, .bool false] 63)) := ((Gr.refl w).alloc _).alloc _
  have HP := hid hp0
  have HR := hid hr0
  have HG := hid hg0
  clear hp0 hr0 hg0
  go_enter Tryd.func19, Tryd.ntmps19
  go_wp2_with fail
  refine (item_any (w.heap.size + 1) 0 s false _ hs (Nat.zero_le _) HP.out).mono ?_
  rintro e w1 ⟨hf1, hit⟩
  have hR1 : w1.heap[w.heap.size]? = some (.cells #[.string ⟨#[]⟩, .string ⟨#[]⟩] 38 (0, 0)) := hf1.heap HR.out (by omega)
  have hg1 : Gr w w1 := Below.trans HG.out (hf1.below (by omega) (by simp; omega))
  have HR1 := hid hR1
  have HG1 := hid hg1
  have hw1 : w.heap.size + 1 < w1.heap.size := by
    have := hf1.size
    have := lt_of_block HP.out
    omega
  clear hf1 hR1 hg1
  have hxr1 : w.heap.size ≠ w1.heap.size := by omega
  have hxr2 : w1.heap.size ≠ w.heap.size := by omega
  rcases hit with ⟨hb, rfl, hp1⟩ | ⟨a, j, odd1, rfl, _, hj, hp1, hit⟩
  · have hPW : PS (w1.alloc (.cells #[.string ⟨#[]⟩, .string ⟨#[]⟩] 38)) (w.heap.size + 1) s 0 true false := hp1.gr ((Gr.refl w1).alloc _)
    have hRW : (w1.alloc (.cells #[.string ⟨#[]⟩, .string ⟨#[]⟩] 38)).heap[w.heap.size]? = some (.cells #[.string ⟨#[]⟩, .string ⟨#[]⟩] 38) := by rw [Lib.alloc_old _ _ _ (by omega)]; exact HR1.out
    have hX : (w1.alloc (.cells #[.string ⟨#[]⟩, .string ⟨#[]⟩] 38)).heap[w1.heap.size]? = some (.cells #[.string ⟨#[]⟩, .string ⟨#[]⟩] 38) := heap_alloc_new w1 _
    have hGW : Gr w (w1.alloc (.cells #[.string ⟨#[]⟩, .string ⟨#[]⟩] 38)) := HG1.out.alloc _
    have d2 := hPW.c2
    have HB := hid hb
    clear hb hp1
    go_wp2_with fail
    generalize w1.alloc (.cells #[.string ⟨#[]⟩, .string ⟨#[]⟩] 38) = W at *
    generalize w1.heap.size = X at *
    have HPW := hid hPW
    have HRW := hid hRW
    have HX := hid hX
    have HGW := hid hGW
    clear hPW hRW hX hGW
    go_wp2_with fail
    have x0 : W.cell? ⟨X, 0, none⟩ = some (.string ⟨#[]⟩) := by rw [Lib.cell_of_heap HX.out]; rfl
    have x1 : W.cell? ⟨X, 1, none⟩ = some (.string ⟨#[]⟩) := by rw [Lib.cell_of_heap HX.out]; rfl
    have r0 : W.cell? ⟨w.heap.size, 0, none⟩ = some (.string ⟨#[]⟩) := by rw [Lib.cell_of_heap HRW.out]; rfl
    have r1 : W.cell? ⟨w.heap.size, 1, none⟩ = some (.string ⟨#[]⟩) := by rw [Lib.cell_of_heap HRW.out]; rfl
    have enx := World.new_ne W ⟨X, 0, none⟩ x0
    have enr := World.new_ne W ⟨w.heap.size, 0, none⟩ r0
    go_region_held3 (fun w' => w'.cell? ⟨X, 0, none⟩ = some (.string ⟨#[]⟩) ∧ w'.cell? ⟨X, 1, none⟩ = some (.string ⟨#[]⟩)) (go_keep)
      (first | (go_at_call 35; refine (told_any (w.heap.size + 1) 0 s true false _ hs (by exact HPW.out)).mono ?_; rintro e w9 ⟨⟨q, rfl, hq⟩, hg9⟩; have HQ := hid hq; clear hq; have k0 : w9.cell? ⟨X, 0, none⟩ = some (.string ⟨#[]⟩) := hg9.cell (by simp [*]); have k1 : w9.cell? ⟨X, 1, none⟩ = some (.string ⟨#[]⟩) := hg9.cell (by simp [*]); have k2 : w9.cell? ⟨w.heap.size, 0, none⟩ = some (.string ⟨#[]⟩) := (Lib.cell_of_heap (blk_of hg9 (by exact HRW.out)) 0).trans rfl; have k3 : w9.cell? ⟨w.heap.size, 1, none⟩ = some (.string ⟨#[]⟩) := (Lib.cell_of_heap (blk_of hg9 (by exact HRW.out)) 1).trans rfl; have z0 : w9.frozen? ⟨w.heap.size, 0, none⟩ = false := Lib.frozen_of_heap (blk_of hg9 (by exact HRW.out)) 0; have z1 : w9.frozen? ⟨w.heap.size, 1, none⟩ = false := Lib.frozen_of_heap (blk_of hg9 (by exact HRW.out)) 1))
    all_goals
      have HG9 := hid (show Gr w w9 from Gr.trans HGW.out (Gr.trans (Gr.refl W).drew hg9))
      clear hg9
      go_wp2_with fail
      refine bodyPost_ret (v := .tuple #[.agg #[.string ⟨#[]⟩, .string ⟨#[]⟩], .int .i64 q]) (by simp [results, Tryd.results19, go_sem, k2, k3]) rfl ⟨(HG9.out.setCell (Nat.le_refl _) _).setCell (Nat.le_refl _) _, _, _, q, rfl, ?_⟩
    have hbn := HB.out
    rw [List.drop_zero] at hbn
    rcases HQ.out with h | ⟨h, _⟩ | ⟨_, _, h, _⟩
    · exact .inl h
    · exact .inr (.inl ⟨h, itmR_nobare hbn⟩)
    · cases h
  · have hp2 := hp1.gr ((Gr.refl w1).alloc (.cells #[.string a, .string ⟨#[]⟩] 38))
    have hX1 : (w1.alloc (.cells #[.string a, .string ⟨#[]⟩] 38)).heap[w1.heap.size]? = some (.cells #[.string a, .string ⟨#[]⟩] 38) := heap_alloc_new w1 _
    have hR1' : (w1.alloc (.cells #[.string a, .string ⟨#[]⟩] 38)).heap[w.heap.size]? = some (.cells #[.string ⟨#[]⟩, .string ⟨#[]⟩] 38) := by rw [Lib.alloc_old _ _ _ (by omega)]; exact HR1.out
    have d2 := hp2.c2
    have HP2 := hid hp2
    have HX1 := hid hX1
    have HR2 := hid hR1'
    have HIT := hid hit
    clear hp1 hp2 hX1 hR1' hit
    go_wp2_with fail
    refine (parameters_any (w.heap.size + 1) j s false odd1 _ hs hj HP2.out (fun h => by cases h)).mono ?_
    rintro e w2 ⟨hf2, c, v, ps, j2, bad2, odd2, rfl, _, hj2, hp3, _, _, hrel⟩
    have hX2 := hf2.heap HX1.out (by omega)
    have hR2 := hf2.heap HR2.out (by omega)
    have hg2 : Gr w w2 := Below.trans (HG1.out.alloc _) (hf2.below (by omega) (by simp; omega))
    have y0 := Lib.cell_of_heap hX2 0
    have y1 := Lib.cell_of_heap hX2 1
    have yf := Lib.frozen_of_heap hX2 1
    simp at y0 y1
    have hXW := heap_setCell_same w2 w1.heap.size 1 _ _ (.string c) hX2
    have hRW : (w2.setCell ⟨w1.heap.size, 1, none⟩ (.string c)).heap[w.heap.size]? = some (.cells #[.string ⟨#[]⟩, .string ⟨#[]⟩] 38) := by rw [heap_setCell_other _ _ _ _ (by simp; omega)]; exact hR2
    have hPW : PS (w2.setCell ⟨w1.heap.size, 1, none⟩ (.string c)) (w.heap.size + 1) s j2 bad2 odd2 := hp3.other (by omega) 1 _
    have hGW : Gr w (w2.setCell ⟨w1.heap.size, 1, none⟩ (.string c)) := hg2.setCell (p := ⟨w1.heap.size, 1, none⟩) (by show w.heap.size ≤ w1.heap.size; omega) _
    have hX : (w2.setCell ⟨w1.heap.size, 1, none⟩ (.string c)).heap[w1.heap.size]? = some (.cells #[.string a, .string c] 38 (0, 0)) := hXW
    have HREL := hid hrel
    clear hX2 hR2 hg2 hXW hrel hf2 hp3
    have HPW' := hid hPW
    have HRW' := hid hRW
    have HX' := hid hX
    have HGW' := hid hGW
    clear hPW hRW hX hGW
    go_wp2_with fail
    clear y0 y1 yf
    generalize w2.setCell ⟨w1.heap.size, 1, none⟩ (.string c) = W at *
    generalize w1.heap.size = X at *
    have HPW := HPW'
    have HRW := HRW'
    have HX := HX'
    have HGW := HGW'
    have x0 : W.cell? ⟨X, 0, none⟩ = some (.string a) := by rw [Lib.cell_of_heap HX.out]; rfl
    have x1 : W.cell? ⟨X, 1, none⟩ = some (.string c) := by rw [Lib.cell_of_heap HX.out]; rfl
    have r0 : W.cell? ⟨w.heap.size, 0, none⟩ = some (.string ⟨#[]⟩) := by rw [Lib.cell_of_heap HRW.out]; rfl
    have r1 : W.cell? ⟨w.heap.size, 1, none⟩ = some (.string ⟨#[]⟩) := by rw [Lib.cell_of_heap HRW.out]; rfl
    have enx := World.new_ne W ⟨X, 0, none⟩ x0
    have enr := World.new_ne W ⟨w.heap.size, 0, none⟩ r0
    go_region_held3 (fun w' => w'.cell? ⟨X, 0, none⟩ = some (.string a) ∧ w'.cell? ⟨X, 1, none⟩ = some (.string c)) (go_keep)
      (first | (go_at_call 35; refine (told_any (w.heap.size + 1) j2 s bad2 odd2 _ hs (by exact HPW.out)).mono ?_; rintro e w9 ⟨⟨q, rfl, hq⟩, hg9⟩; have HQ := hid hq; clear hq; have k0 : w9.cell? ⟨X, 0, none⟩ = some (.string a) := hg9.cell (by simp [*]); have k1 : w9.cell? ⟨X, 1, none⟩ = some (.string c) := hg9.cell (by simp [*]); have k2 : w9.cell? ⟨w.heap.size, 0, none⟩ = some (.string ⟨#[]⟩) := (Lib.cell_of_heap (blk_of hg9 (by exact HRW.out)) 0).trans rfl; have k3 : w9.cell? ⟨w.heap.size, 1, none⟩ = some (.string ⟨#[]⟩) := (Lib.cell_of_heap (blk_of hg9 (by exact HRW.out)) 1).trans rfl; have z0 : w9.frozen? ⟨w.heap.size, 0, none⟩ = false := Lib.frozen_of_heap (blk_of hg9 (by exact HRW.out)) 0; have z1 : w9.frozen? ⟨w.heap.size, 1, none⟩ = false := Lib.frozen_of_heap (blk_of hg9 (by exact HRW.out)) 1))
    all_goals
      have HG9 := hid (show Gr w w9 from Gr.trans HGW.out (Gr.trans (Gr.refl W).drew hg9))
      clear hg9
      go_wp2_with fail
      refine bodyPost_ret (v := .tuple #[.agg #[.string a, .string c], .int .i64 q]) (by simp [results, Tryd.results19, go_sem, k2, k3]) rfl ⟨(HG9.out.setCell (Nat.le_refl _) _).setCell (Nat.le_refl _) _, _, _, q, rfl, ?_⟩
    have hrel := HREL.out
    rcases HQ.out with h | ⟨h, h0, h1⟩ | ⟨h, h0, h1, h2⟩
    · exact .inl h
    · refine .inr (.inl ⟨h, ?_⟩)
      obtain ⟨h3, h4⟩ := hrel h0
      obtain ⟨_, r, hb, hd, _⟩ := HIT.out h3
      rw [List.drop_zero] at hb
      rw [hd] at h4
      rcases h4 with ⟨_, h4⟩ | ⟨h4, ys, r2, h5, h6, _⟩
      · exact itmR_nopar hb h4
      · rcases h1 with h1 | h1
        · rw [h4] at h1; cases h1
        · refine itmR_more hb h5 ?_
          rw [← h6]
          intro e
          rw [List.drop_eq_nil_iff, bl_length] at e
          omega
    · refine .inr (.inr ⟨h, ?_⟩)
      obtain ⟨h3, h4⟩ := hrel h0
      obtain ⟨_, r, hb, hd, ha⟩ := HIT.out h3
      rw [List.drop_zero] at hb ha
      rw [hd] at h4
      rcases h4 with ⟨h4, _⟩ | ⟨_, ys, r2, h5, h6, h7, _⟩
      · rw [h4] at h1; cases h1
      · have : r2 = [] := by rw [← h6, List.drop_eq_nil_iff, bl_length]; omega
        subst this
        rw [itmR_all hb h5, ha, h7]

theorem ownP_one (w : World) (a c : ByteArray) (T : TypeId) : OwnP (w.alloc (.cells #[.string a, .string c] T)) w.heap.size T (.slice (some ⟨w.heap.size, 0, none⟩) 1 1) [(a, c)] :=
  ⟨rfl, .inr ⟨w.heap.size, 1, _, rfl, Nat.le_refl _, heap_alloc_new w _, Nat.le_refl _, by decide, rfl, rfl⟩⟩
theorem agree_of {gs ws : Ps} (h : psL gs = psL ws) : Agree false gs ws := by
  have hl : gs.length = ws.length := by rw [← psL_length, h, psL_length]
  refine ⟨hl, fun i h1 h2 => ?_⟩
  have e1 := psL_get gs i h1
  have e2 := psL_get ws i h2
  rw [h, e2, Option.some.injEq, Prod.mk.injEq] at e1
  exact ⟨bl_inj e1.1.symm, .inl (bl_inj e1.2.symm)⟩

set_option maxHeartbeats 2000000 in
theorem lawItem_walk (s : ByteArray) (_hs : s.size ≤ maxLen) (w : World) (hT : Lib.Utf8Tabs 0 1 w) :
    Calls Tryd.prog 5 #[.string s] w fun e w' => e = .returned (.bool true) ∧ Gr w w' := by
  have HT := hid hT
  clear hT
  by_cases hz : s.size ≤ 2147483647
  · go_enter Tryd.func5, Tryd.ntmps5
    go_wp2_with fail
    refine (itemOf_any s _ hz).mono ?_
    rintro e w1 ⟨hg1, a, c, q, rfl, hq⟩
    have HT1 := hid (Utf8Tabs_below HT.out (hg1.alloc (.cells #[.string a, .string c] 38)))
    have HG1 := hid (hg1.alloc (.cells #[.string a, .string c] 38))
    have HX1 := hid (heap_alloc_new w1 (.cells #[.string a, .string c] 38))
    clear hg1
    rcases hq with rfl | ⟨rfl, hn⟩ | ⟨rfl, hn⟩
    · go_wp2_with fail
      refine (works_any _).mono ?_
      rintro e w2 ⟨rfl, hg2⟩
      go_wp2_with fail
      go_ret
      exact ⟨rfl, HG1.out.trans hg2⟩
    · have HN := hid hn
      clear hn
      go_wp2_with fail
      refine (implItem_any s _ (by omega) HT1.out).mono ?_
      rintro e w2 ⟨hg2, ⟨_, v2, rfl⟩ | ⟨v2, ps2, hx, _⟩⟩
      · have HG2 := hid (HG1.out.trans hg2)
        clear hg2
        go_wp2_with fail
        refine (works_any _).mono ?_
        rintro e w3 ⟨rfl, hg3⟩
        go_wp2_with fail
        go_ret
        exact ⟨rfl, HG2.out.trans hg3⟩
      · rw [HN.out] at hx
        cases hx
    · have HN := hid hn
      clear hn
      go_wp2_with fail
      refine (implItem_any s _ (by omega) HT1.out).mono ?_
      rintro e w2 ⟨hg2, ⟨hx, _⟩ | ⟨v2, ps2, hx, rfl, ho2⟩⟩
      · rw [HN.out] at hx
        cases hx
      · have hx2 := Option.some.inj (HN.out.symm.trans hx)
        have HAG := hid (agree_of (gs := ps2) (ws := [(a, c)]) hx2.symm)
        have HX2 := hid (blk_of hg2 HX1.out)
        have HO2 := hid ho2
        have HG2 := hid (HG1.out.trans hg2)
        clear hg2 hx hx2 ho2
        go_wp2_with fail
        refine (works_any _).mono ?_
        rintro e w3 ⟨rfl, hg3⟩
        have hX3 := blk_of hg3 HX2.out
        have x0 := Lib.cell_of_heap hX3 0
        have x1 := Lib.cell_of_heap hX3 1
        simp at x0 x1
        have HG3 := hid (HG2.out.trans hg3)
        have HO3 := hid (HO2.out.gr hg3)
        clear hX3 hg3
        go_wp2_with fail
        refine (same_true _ _ v2 _ false ps2 [(a, c)] _ (by simp) (HO3.out.alloc _) (ownP_one w3 a c _) HAG.out).mono ?_
        rintro e w4 ⟨rfl, hg4⟩
        go_wp2_with fail
        go_ret
        exact ⟨rfl, (HG3.out.alloc _).trans hg4⟩
  · go_enter Tryd.func5, Tryd.ntmps5
    go_wp2_with fail
    go_ret
    exact ⟨rfl, Gr.refl _⟩

end Go.Proofs.YtohjnegllfdemaaDoor
