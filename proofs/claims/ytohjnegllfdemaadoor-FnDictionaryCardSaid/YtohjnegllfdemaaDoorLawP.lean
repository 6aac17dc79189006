/-
  The walks of the reference's Parameters and of the law FnParameters.
-/
import Derived.Test.YtohjnegllfdemaaDoorSame
set_option maxRecDepth 100000
namespace Go.Proofs.YtohjnegllfdemaaDoor
open Go.RowKit

/-- The parser's block as it is made. -/
theorem ps_new (w : World) (s : ByteArray) : PS (w.alloc (.cells #[.string s, .int .i64 0, .bool false, .bool false] 63)) w.heap.size s 0 false false := heap_alloc_new w _
theorem fr_new {w w' : World} {o : Obj} (h : Fr w.heap.size (w.alloc o) w') : Gr w w' :=
  Below.trans ((Gr.refl w).alloc o) (h.below (Nat.le_refl _) (by simp))
theorem parR_none {l : Bs} (h : par l = none) : parR l = none := by unfold parR; rw [h]
theorem parR_more {l r : Bs} {ys : List (Bs × Option Bs)} (h : par l = some (ys, r)) (hr : r ≠ []) : parR l = none := by
  unfold parR
  rw [h]
  cases r with
  | nil => exact absurd rfl hr
  | cons _ _ => rfl
theorem parR_all {l : Bs} {ys : List (Bs × Option Bs)} (h : par l = some (ys, [])) : parR l = some (ys.map fun x => (x.1, valOf x.2)) := by unfold parR; rw [h]

/-- What the reference's Parameters gives. -/
def SParPost (s : ByteArray) (w : World) (e : Ending) (w' : World) : Prop :=
  Gr w w' ∧ ∃ (v : Value) (ps : Ps) (base : Nat) (q : Int), e = .returned (.tuple #[v, .int .i64 q]) ∧ OwnP w' base 38 v ps ∧ ps.length ≤ s.size ∧
    (q = 2 ∨ (q = 0 ∧ parR (bl s) = none) ∨ (q = 1 ∧ ∃ ys, par (bl s) = some (ys, []) ∧ psL ps = ys.map fun x => (x.1, sVal x.2)))

set_option maxHeartbeats 2000000 in
theorem specParameters_any (s : ByteArray) (w : World) (hs : s.size ≤ 2147483647) :
    Calls Tryd.prog 16 #[.string s] w fun e w' => SParPost s w e w' := by
  have HP := hid (ps_new w s)
  go_enter Tryd.func16, Tryd.ntmps16
  go_wp2_with fail
  refine (parameters_any w.heap.size 0 s false false _ hs (Nat.zero_le _) HP.out (fun h => by cases h)).mono ?_
  rintro e w1 ⟨hf, t, v, ps, j, bad, odd, rfl, _, hj, hp, ho, hl, hrel⟩
  have HP1 := hid hp
  have HG1 := hid (fr_new hf)
  have HO1 := hid ho
  have HREL := hid hrel
  clear hp hf ho hrel
  go_wp2_with fail
  refine (told_any w.heap.size j s bad odd _ hs HP1.out).mono ?_
  rintro e w2 ⟨⟨q, rfl, hq⟩, hg2⟩
  have HG2 := hid (HG1.out.trans hg2)
  have HO2 := hid (HO1.out.gr hg2)
  have HQ := hid hq
  clear hg2 hq
  go_wp2_with fail
  go_ret2
  refine ⟨HG2.out, v, ps, _, q, rfl, HO2.out, by omega, ?_⟩
  have hrel := HREL.out
  rw [List.drop_zero] at hrel
  rcases HQ.out with h | ⟨h, h0, h1⟩ | ⟨h, h0, h1, h2⟩
  · exact .inl h
  · refine .inr (.inl ⟨h, ?_⟩)
    obtain ⟨_, h3⟩ := hrel h0
    rcases h3 with ⟨_, h3⟩ | ⟨h3, ys, r, h4, h5, _⟩
    · exact parR_none h3
    · rcases h1 with h1 | h1
      · rw [h3] at h1; cases h1
      · refine parR_more h4 ?_
        rw [← h5]
        intro e
        rw [List.drop_eq_nil_iff, bl_length] at e
        omega
  · refine .inr (.inr ⟨h, ?_⟩)
    obtain ⟨_, h3⟩ := hrel h0
    rcases h3 with ⟨h3, _⟩ | ⟨_, ys, r, h4, h5, _, h6⟩
    · rw [h3] at h1; cases h1
    · have : r = [] := by rw [← h5, List.drop_eq_nil_iff, bl_length]; omega
      subst this
      exact ⟨ys, h4, h6⟩

theorem psL_get (ps : Ps) (i : Nat) (h : i < ps.length) : (psL ps)[i]? = some (bl ps[i].1, bl ps[i].2) := by simp [psL, h]
theorem agree_keys {gs ws : Ps} {ys : List (Bs × Option Bs)} (hg : psL gs = ys.map fun x => (x.1, valOf x.2)) (hw : psL ws = ys.map fun x => (x.1, sVal x.2)) : Agree true gs ws := by
  have hlg : gs.length = ys.length := by rw [← psL_length, hg, List.length_map]
  have hlw : ws.length = ys.length := by rw [← psL_length, hw, List.length_map]
  refine ⟨hlg.trans hlw.symm, fun i h1 h2 => ?_⟩
  have e1 := psL_get gs i h1
  have e2 := psL_get ws i h2
  have hy : i < ys.length := by omega
  rw [hg, List.getElem?_map, List.getElem?_eq_getElem hy, Option.map_some, Option.some.injEq, Prod.mk.injEq] at e1
  rw [hw, List.getElem?_map, List.getElem?_eq_getElem hy, Option.map_some, Option.some.injEq, Prod.mk.injEq] at e2
  refine ⟨bl_inj (e1.1.symm.trans e2.1), ?_⟩
  cases hv : ys[i].2 with
  | none =>
    rw [hv] at e1 e2
    refine .inr ⟨?_, rfl, bl_empty e2.2.symm⟩
    intro e
    have := e1.2.trans ((congrArg bl e).trans e2.2.symm)
    cases this
  | some v =>
    rw [hv] at e1 e2
    exact .inl (bl_inj (e1.2.symm.trans e2.2))

set_option maxHeartbeats 2000000 in
theorem lawParameters_walk (s : ByteArray) (_hs : s.size ≤ maxLen) (w : World) (hT : Lib.Utf8Tabs 0 1 w) :
    Calls Tryd.prog 4 #[.string s] w fun e w' => e = .returned (.bool true) ∧ Gr w w' := by
  have HT := hid hT
  clear hT
  by_cases hz : s.size ≤ 2147483647
  · go_enter Tryd.func4, Tryd.ntmps4
    go_wp2_with fail
    refine (specParameters_any s _ hz).mono ?_
    rintro e w1 ⟨hg1, v, ws, base, q, rfl, ho, hwl, hq⟩
    have HT1 := hid (Utf8Tabs_below HT.out hg1)
    have HG1 := hid hg1
    have HO := hid ho
    clear hg1 ho
    rcases hq with rfl | ⟨rfl, hn⟩ | ⟨rfl, ys, hp, hps⟩
    · go_wp2_with fail
      refine (works_any _).mono ?_
      rintro e w2 ⟨rfl, hg2⟩
      go_wp2_with fail
      go_ret
      exact ⟨rfl, HG1.out.trans hg2⟩
    · have HN := hid hn
      clear hn
      go_wp2_with fail
      refine (implParameters_any s _ (by omega) HT1.out).mono ?_
      rintro e w2 ⟨hg2, ⟨_, v2, rfl⟩ | ⟨v2, ps2, hx, _⟩⟩
      · have HG2 := hid (HG1.out.trans hg2)
        clear hg2
        go_wp2_with fail
        refine (works_any _).mono ?_
        rintro e w3 ⟨rfl, hg3⟩
        go_wp2_with fail
        go_ret
        exact ⟨rfl, HG2.out.trans hg3⟩
      · rw [HN.out] at hx
        cases hx
    · have HN := hid (parR_all hp)
      have HPS := hid hps
      clear hp hps
      go_wp2_with fail
      refine (implParameters_any s _ (by omega) HT1.out).mono ?_
      rintro e w2 ⟨hg2, ⟨hx, _⟩ | ⟨v2, ps2, hx, rfl, ho2⟩⟩
      · rw [HN.out] at hx
        cases hx
      · have hx2 := Option.some.inj (HN.out.symm.trans hx)
        have HAG := hid (agree_keys hx2.symm HPS.out)
        have HO1 := hid (HO.out.gr hg2)
        have HO2 := hid ho2
        have HG2 := hid (HG1.out.trans hg2)
        clear hg2 hx hx2 ho2
        go_wp2_with fail
        refine (works_any _).mono ?_
        rintro e w3 ⟨rfl, hg3⟩
        go_wp2_with fail
        refine (same_true _ _ v2 v true ps2 ws _ (by omega) (HO2.out.gr hg3) (HO1.out.gr hg3) HAG.out).mono ?_
        rintro e w4 ⟨rfl, hg4⟩
        go_wp2_with fail
        go_ret
        exact ⟨rfl, (HG2.out.trans hg3).trans hg4⟩
  · go_enter Tryd.func4, Tryd.ntmps4
    go_wp2_with fail
    go_ret
    exact ⟨rfl, Gr.refl _⟩

end Go.Proofs.YtohjnegllfdemaaDoor
