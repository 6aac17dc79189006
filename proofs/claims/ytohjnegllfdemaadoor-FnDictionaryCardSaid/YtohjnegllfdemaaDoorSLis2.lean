/-
  The walks of the reference's List and of the law FnList.
-/
import Derived.Test.YtohjnegllfdemaaDoorSLis
set_option maxRecDepth 100000
namespace Go.Proofs.YtohjnegllfdemaaDoor
open Go.RowKit

/-- No member is an opening bracket alone. -/
def no40 (ps : Ps) : Prop := ∀ x ∈ psL ps, x.1 ≠ [40]
theorem no40_nil : no40 [] := fun _ h => by cases h
theorem no40_push {ps : Ps} {t c : ByteArray} (h : no40 ps) (ht : bl t ≠ [40]) : no40 (ps ++ [(t, c)]) := by
  intro x hx
  rw [psL_push, List.mem_append, List.mem_singleton] at hx
  rcases hx with hx | rfl
  · exact h x hx
  · exact ht
/-- What the reference's List gives. -/
def SLisPost (s : ByteArray) (w : World) (e : Ending) (w' : World) : Prop :=
  Gr w w' ∧ ∃ (v : Value) (ps : Ps) (base : Nat) (q : Int), e = .returned (.tuple #[v, .int .i64 q]) ∧ OwnP w' base 38 v ps ∧ ps.length ≤ s.size + 1 ∧
    (q = 2 ∨ (q = 0 ∧ lis (bl s) = none) ∨ (q = 1 ∧ lis (bl s) = some (psL ps) ∧ no40 ps))

/-- What has been read so far, where nothing is left out. -/
def LisRel (s : ByteArray) (R : Option (List (Bs × Bs))) (j : Nat) (bad' odd' more : Bool) (ps : Ps) : Prop :=
  odd' = false → (more = true ∧ pre1 (psL ps) (lisT ((bl s).drop j)) = R ∧ no40 ps) ∨ (more = false ∧ bad' = true ∧ R = none) ∨ (more = false ∧ bad' = false ∧ (bl s).drop j = [] ∧ R = some (psL ps) ∧ no40 ps)
/-- The loop's head. -/
def LisInv (b : Nat) (s : ByteArray) (R : Option (List (Bs × Bs))) (w : World) (g : Nat) (v m : Value) (wr : World) : Prop :=
  ∃ v', v' = v ∧ ∃ (j : Nat) (bad' odd' more : Bool) (ps : Ps), m = .bool more ∧ j ≤ s.size ∧ (if more then s.size - j + 1 else 0) ≤ g ∧ (more = true → bad' = false) ∧ PS wr b s j bad' odd' ∧ OwnP wr w.heap.size 38 v' ps ∧ ps.length ≤ j + (if more then 0 else 1) ∧ Fr b w wr ∧ LisRel s R j bad' odd' more ps

theorem lis_go {s t c : ByteArray} {R : Option (List (Bs × Bs))} {j j1 j3 j9 : Nat} {odd' odd1 bad3 odd3 bad9 odd9 q9 : Bool} {ps ps2 : Ps}
    (h1 : LisRel s R j false odd' true ps)
    (h2 : odd1 = false → odd' = false ∧ ((false = true ∧ mem ((bl s).drop j) = none) ∨ (false = false ∧ ∃ r, mem ((bl s).drop j) = some r ∧ (bl s).drop j1 = r ∧ bl t = ahead ((bl s).drop j) r ∧ bl t ≠ [40])))
    (h3 : odd3 = false → odd1 = false ∧ ((bad3 = true ∧ par ((bl s).drop j1) = none) ∨ (bad3 = false ∧ ∃ ys r, par ((bl s).drop j1) = some (ys, r) ∧ (bl s).drop j3 = r ∧ bl c = ahead ((bl s).drop j1) r ∧ psL ps2 = ys.map fun x => (x.1, sVal x.2))))
    (h4 : (q9 = false ∧ bad9 = bad3 ∧ odd9 = odd3 ∧ (bl s).drop j9 = skip wsB ((bl s).drop j3) ∧ (bad3 = true ∨ (bl s).drop j9 = [])) ∨
     (bad3 = false ∧ q9 = false ∧ bad9 = true ∧ odd9 = (odd3 || !true) ∧ ∃ d r3, skip wsB ((bl s).drop j3) = d :: r3 ∧ d.toNat ≠ 44) ∨
     (bad3 = false ∧ q9 = false ∧ bad9 = true ∧ odd9 = odd3 ∧ ∃ d r3, skip wsB ((bl s).drop j3) = d :: r3 ∧ d.toNat = 44 ∧ skip wsB r3 = []) ∨
     (bad3 = false ∧ q9 = true ∧ bad9 = false ∧ odd9 = odd3 ∧ ∃ d r3 e4 r4, skip wsB ((bl s).drop j3) = d :: r3 ∧ d.toNat = 44 ∧ skip wsB r3 = e4 :: r4 ∧ (bl s).drop j9 = e4 :: r4))
    (h0 : odd9 = false) : (q9 = true ∧ pre1 (psL (ps ++ [(t, c)])) (lisT ((bl s).drop j9)) = R ∧ no40 (ps ++ [(t, c)])) ∨ (q9 = false ∧ bad9 = true ∧ R = none) ∨ (q9 = false ∧ bad9 = false ∧ (bl s).drop j9 = [] ∧ R = some (psL (ps ++ [(t, c)])) ∧ no40 (ps ++ [(t, c)])) := by
  have ho3 : odd3 = false := by
    rcases h4 with ⟨_, _, h, _⟩ | ⟨_, _, _, h, _⟩ | ⟨_, _, _, h, _⟩ | ⟨_, _, _, h, _⟩
    · rw [← h, h0]
    · rw [h0] at h; simpa using h.symm
    · rw [← h, h0]
    · rw [← h, h0]
  obtain ⟨ho1, h3⟩ := h3 ho3
  obtain ⟨ho', h2⟩ := h2 ho1
  obtain ⟨hR, hno⟩ : pre1 (psL ps) (lisT ((bl s).drop j)) = R ∧ no40 ps := by
    rcases h1 ho' with ⟨_, g⟩ | ⟨g, _⟩ | ⟨g, _⟩
    · exact g
    · cases g
    · cases g
  rcases h2 with ⟨g, _⟩ | ⟨_, r1, hm, hd1, ht, ht40⟩
  · cases g
  subst hd1
  rcases h3 with ⟨hb3, hp⟩ | ⟨hb3, ys, r2, hp, hd3, hc, _⟩
  · rcases h4 with ⟨g1, g2, _⟩ | ⟨g, _⟩ | ⟨g, _⟩ | ⟨g, _⟩
    · exact .inr (.inl ⟨g1, g2.trans hb3, by rw [← hR, lisT_nopar hm hp]; rfl⟩)
    · rw [hb3] at g; cases g
    · rw [hb3] at g; cases g
    · rw [hb3] at g; cases g
  subst hd3
  have hps : psL (ps ++ [(t, c)]) = psL ps ++ [(ahead ((bl s).drop j) ((bl s).drop j1), ahead ((bl s).drop j1) ((bl s).drop j3))] := by rw [psL_push, ht, hc]
  rcases h4 with ⟨g1, g2, _, g3, g4⟩ | ⟨_, g1, g2, _, d, r3, g3, g4⟩ | ⟨_, g1, g2, _, d, r3, g3, g4, g5⟩ | ⟨_, g1, _, _, d, r3, e4, r4, g3, g4, g5, g6⟩
  · have hnil : (bl s).drop j9 = [] := by
      rcases g4 with g4 | g4
      · rw [hb3] at g4; cases g4
      · exact g4
    exact .inr (.inr ⟨g1, g2.trans hb3, hnil, by rw [← hR, lisT_end hm hp (by rw [← g3, hnil]), hps]; rfl, no40_push hno ht40⟩)
  · exact .inr (.inl ⟨g1, g2, by rw [← hR, lisT_nocomma hm hp g3 g4]; rfl⟩)
  · exact .inr (.inl ⟨g1, g2, by rw [← hR, lisT_tail hm hp g3 g4 g5]; rfl⟩)
  · exact .inl ⟨g1, by rw [g6, hps, ← pre1_cons, ← lisT_next hm hp g3 g4 g5, hR], no40_push hno ht40⟩

theorem slis_post {s : ByteArray} {w w' : World} {v : Value} {ps : Ps} {base j : Nat} {bad odd : Bool} {q : Int} (hg : Gr w w') (ho : OwnP w' base 38 v ps) (hl : ps.length ≤ s.size + 1)
    (hq : q = 2 ∨ (q = 0 ∧ odd = false ∧ (bad = true ∨ j < s.size)) ∨ (q = 1 ∧ odd = false ∧ bad = false ∧ ¬ j < s.size)) (hrel : LisRel s (lis (bl s)) j bad odd false ps) :
    SLisPost s w (.returned (.tuple #[v, .int .i64 q])) w' := by
  refine ⟨hg, v, ps, base, q, rfl, ho, hl, ?_⟩
  rcases hq with h | ⟨h, h0, h1⟩ | ⟨h, h0, h1, h2⟩
  · exact .inl h
  · refine .inr (.inl ⟨h, ?_⟩)
    rcases hrel h0 with ⟨h3, _⟩ | ⟨_, _, h3⟩ | ⟨_, h3, h4, _⟩
    · cases h3
    · exact h3
    · rcases h1 with h1 | h1
      · rw [h3] at h1; cases h1
      · rw [List.drop_eq_nil_iff, bl_length] at h4; omega
  · refine .inr (.inr ⟨h, ?_⟩)
    rcases hrel h0 with ⟨h3, _⟩ | ⟨_, h3, _⟩ | ⟨_, _, _, h3⟩
    · cases h3
    · rw [h3] at h1; cases h1
    · exact h3

set_option maxHeartbeats 2000000 in
theorem specList_empty (w : World) :
    Calls Tryd.prog 23 #[.string ⟨#[]⟩] w fun e w' => SLisPost ⟨#[]⟩ w e w' := by
  have HP := hid (ps_new w ⟨#[]⟩)
  go_enter Tryd.func23, Tryd.ntmps23
  go_wp2_with fail
  refine wp_loop_rounds 1 ?_
  rw [rounds_succ]
  go_wp2_with fail
  refine (told_any w.heap.size 0 ⟨#[]⟩ false false _ (by decide) HP.out).mono ?_
  rintro e w2 ⟨⟨q, rfl, hq⟩, hg2⟩
  have HG2 := hid (Gr.trans ((Gr.refl w).alloc _) hg2)
  have HQ := hid hq
  clear hg2 hq
  go_wp2_with fail
  go_ret2
  exact slis_post (base := w.heap.size) (j := 0) (bad := false) (odd := false) HG2.out (OwnP.nil _ _ _) (by simp) (by have := HQ.out; simpa using this) (fun _ => .inr (.inr ⟨rfl, rfl, rfl, rfl, no40_nil⟩))

set_option maxHeartbeats 8000000 in
theorem specList_some (s : ByteArray) (w : World) (hs : s.size ≤ 2147483647) (h0 : 0 < s.size) :
    Calls Tryd.prog 23 #[.string s] w fun e w' => SLisPost s w e w' := by
  obtain ⟨R, hR⟩ : ∃ R, lis (bl s) = R := ⟨_, rfl⟩
  have HR := hid hR
  have hT0 : lisT ((bl s).drop 0) = R := by rw [List.drop_zero, ← hR, lis_cons (by rw [bl_length]; exact h0)]
  obtain ⟨i0, hi, hz0, hz1, hz2⟩ := info_parts infoSPair
  have hn1 : ¬ s.toList = [] := by
    intro e
    rw [bl_toList] at e
    have := congrArg List.length e
    rw [bl_length, List.length_nil] at this
    omega
  have hn2 : s.toList.isEmpty = false := by
    cases h : s.toList with
    | nil => exact absurd h hn1
    | cons _ _ => rfl
  have hp0 := ps_new w s
  have hfin : ∀ w', Fr w.heap.size (w.alloc (.cells #[.string s, .int .i64 0, .bool false, .bool false] 63)) w' → Gr w w' := fun w' h => fr_new h
  have hbw : w.heap.size < (w.alloc (.cells #[.string s, .int .i64 0, .bool false, .bool false] 63)).heap.size := by simp
  clear hR
  go_enter Tryd.func23, Tryd.ntmps23
  go_wp2_with fail
  generalize w.alloc (.cells #[.string s, .int .i64 0, .bool false, .bool false] 63) = W at *
  generalize w.heap.size = b at *
  have HFIN := hid hfin
  have HI := hid (show LisInv b s R W (s.size + 1) (.slice none 0 0) (.bool true) W from ⟨_, rfl, 0, false, false, true, [], rfl, Nat.zero_le _, by simp, fun _ => rfl, hp0, OwnP.nil _ _ _, by simp, Fr.refl _ _, fun _ => .inl ⟨rfl, by show pre1 [] _ = R; rw [pre1_nil, hT0], no40_nil⟩⟩)
  clear hp0 hfin hT0 hn1 hn2
  go_loopg [5, 6] (s.size + 1) (fun g v m wr => Hid (LisInv b s R W g v m wr))
  case atStart => exact HI
  case round =>
    clear HI
    obtain ⟨v, rfl, j, bad', odd', more, ps, rfl, hj, hgm, hmb, hp, ho, hl, hf, hrel⟩ := hrel.out
    have HO := hid ho
    have HF := hid hf
    have HREL := hid hrel
    have HPJ := hid hp
    clear hp ho hf hrel
    cases more
    case false =>
      simp only [Bool.false_eq_true, if_false] at hgm hl
      go_wp2_with fail
      refine (told_any b j s bad' odd' _ hs HPJ.out).mono ?_
      rintro e w2 ⟨⟨q, rfl, hq⟩, hg2⟩
      have HQ := hid hq
      have HF2 := hid (HF.out.trans (Fr.of_gr hg2))
      have HO2 := hid (HO.out.gr hg2)
      clear hg2 hq
      go_wp2_with fail
      go_ret2
      exact slis_post (HFIN.out _ HF2.out) HO2.out (by omega) HQ.out (by rw [HR.out]; exact HREL.out)
    case true =>
    obtain rfl := hmb rfl
    simp only [if_true, Nat.add_zero] at hgm hl
    clear hmb
    have d2 := HPJ.out.c2
    have hwr : W.heap.size ≤ wr.heap.size := HF.out.size
    go_wp2_with fail
    refine (member_any b j s odd' _ hs hj HPJ.out).mono ?_
    rintro e w1 ⟨hf1, t, j1, bad1, odd1, rfl, hj1, hj1s, hp1, hm⟩
    have hO1 := OwnP.fr HO.out hf1 (own_ne HO.out (.inl hbw))
    have hF1 := HF.out.trans hf1
    have hw1 : W.heap.size ≤ w1.heap.size := hF1.size
    have hP1 := hp1.gr ((Gr.refl w1).alloc (.cells #[.string t, .string ⟨#[]⟩] 38))
    have hX1 : (w1.alloc (.cells #[.string t, .string ⟨#[]⟩] 38)).heap[w1.heap.size]? = some (.cells #[.string t, .string ⟨#[]⟩] 38) := heap_alloc_new w1 _
    have hO1' := hO1.alloc (.cells #[.string t, .string ⟨#[]⟩] 38)
    have hF1' := hF1.trans (Fr.of_gr ((Gr.refl w1).alloc (.cells #[.string t, .string ⟨#[]⟩] 38)))
    have hX1w : w1.heap.size < (w1.alloc (.cells #[.string t, .string ⟨#[]⟩] 38)).heap.size := by simp
    have HM := hid hm
    have hO1k := hid hO1
    clear hf1 hp1 hm hO1 hF1 HO HPJ HF
    cases bad1
    case true =>
      have HP2 := hid hP1
      have HO2 := hid hO1'
      have HF2 := hid hF1'
      have x0 := Lib.cell_of_heap hX1 0
      have x1 := Lib.cell_of_heap hX1 1
      simp at x0 x1
      have d2 := hP1.c2
      clear hP1 hO1' hF1' hX1
      have hown0 := HO2.out.row
      have hlen : ps.length + 1 ≤ 4294967299 := by omega
      have hsz : W.heap.size ≤ w1.heap.size + 1 := by omega
      have hvb : v.ownBlock ≠ some b := own_ne HO2.out (.inl hbw)
      go_wp2_with (at_builtin; refine wpList_append_own _ rfl _ _ 30 rfl W.heap.size 38 i0 (.agg #[.string ⟨#[]⟩, .string ⟨#[]⟩]) 2 32 Tryd.underlying30 hi hz0 hz1 hz2 rfl (by decide) _ _ _ rfl (hown0.alloc _) ⟨w1.heap.size + 1, 0, none⟩ 1 1 [.string t, .string ⟨#[]⟩] rfl rfl (two_new2 _ _ _ _ (by simp)) (two_one _ _) (by unfold maxLen; omega) (by omega) (by simp; omega) ?_; intro v' w9 hown' hgrow _)
      have HP7 := hid (HP2.out.grown hgrow hvb)
      have HF7 := hid (HF2.out.grown hgrow (fun i e => (hown0.lt i e).1))
      have HO7 := hid (OwnP.of_row hown')
      clear hown' hgrow hown0 hvb
      refine (comma_any b j1 s true odd1 true _ hs hj1s HP7.out).mono ?_
      rintro e w10 ⟨hf10, j9, bad9, odd9, q9, rfl, hj9, hj9s, hp10, hq9, hrel9⟩
      have HP10 := hid hp10
      have HF10 := hid (HF7.out.trans hf10)
      have HO10 := hid (OwnP.fr HO7.out hf10 (own_ne HO7.out (.inl hbw)))
      have HREL9 := hid hrel9
      clear hp10 hf10 hrel9
      have HFINAL := hid (show LisRel s R j9 bad9 odd9 q9 (ps ++ [(t, ⟨#[]⟩)]) from fun h0 => by
        rcases HREL9.out with ⟨h1, h2, h3, _⟩ | ⟨h1, _⟩ | ⟨h1, _⟩ | ⟨h1, _⟩
        · subst h3
          obtain ⟨g0, ⟨_, g1⟩ | ⟨g1, _⟩⟩ := HM.out h0
          · rcases HREL.out g0 with ⟨_, g3, _⟩ | ⟨g3, _⟩ | ⟨g3, _⟩
            · exact .inr (.inl ⟨h1, h2, by rw [← g3, lisT_nomem g1]; rfl⟩)
            · cases g3
            · cases g3
          · cases g1
        · cases h1
        · cases h1
        · cases h1)
      go_wp2_with fail
      go_roundg (if q9 then s.size - j9 + 1 else 0)
      case measure =>
        cases q9
        · simp; omega
        · have := hq9 rfl
          simp
          omega
      case rel => exact hid ⟨_, rfl, j9, bad9, odd9, q9, _, rfl, hj9s, Nat.le_refl _, fun h => (hq9 h).2, HP10.out, HO10.out, by
        cases q9
        · simp; omega
        · have := hq9 rfl
          simp
          omega, HF10.out, HFINAL.out⟩
    case false =>
      have d2 := hP1.c2
      have HP2 := hid hP1
      have HO2 := hid hO1'
      have HF2 := hid hF1'
      have HX2 := hid hX1
      clear hP1 hO1' hF1' hX1
      go_wp2_with fail
      refine (parameters_any b j1 s false odd1 _ hs hj1s HP2.out (fun h => by cases h)).mono ?_
      rintro e w5 ⟨hf5, c, v2, ps2, j3, bad3, odd3, rfl, hj3, hj3s, hp5, _, _, hrel5⟩
      have hX5 := hf5.heap HX2.out (by omega)
      have hw5 : w1.heap.size < w5.heap.size := lt_of_block hX5
      have y0 := Lib.cell_of_heap hX5 0
      have y1 := Lib.cell_of_heap hX5 1
      have yf := Lib.frozen_of_heap hX5 1
      simp at y0 y1
      have HP6 := hid (hp5.other (B := w1.heap.size) (by omega) 1 (.string c))
      have hne6 : v.ownBlock ≠ some w1.heap.size := own_ne hO1k.out (.inr (Nat.le_refl _))
      have HO6 := hid (show OwnP (w5.setCell ⟨w1.heap.size, 1, none⟩ (.string c)) W.heap.size 38 v ps from ownsRow_setCell_other (OwnP.fr HO2.out hf5 (own_ne HO2.out (.inl hbw))) (a := ⟨w1.heap.size, 1, none⟩) hne6 _)
      have HF6 := hid (show Fr b W (w5.setCell ⟨w1.heap.size, 1, none⟩ (.string c)) from (HF2.out.trans hf5).trans_low ⟨rfl, rfl, rfl, by simp [World.setCell], fun i hi hn => heap_setCell_other _ _ _ _ (by simp; omega)⟩)
      have HR5 := hid hrel5
      clear hp5 hf5 hX5 hrel5
      have hown0 := HO6.out.row
      have hlen : ps.length + 1 ≤ 4294967299 := by omega
      have hsz : W.heap.size ≤ w5.heap.size := by omega
      have hvb : v.ownBlock ≠ some b := own_ne HO6.out (.inl hbw)
      go_wp2_with (at_builtin; refine wpList_append_own _ rfl _ _ 30 rfl W.heap.size 38 i0 (.agg #[.string ⟨#[]⟩, .string ⟨#[]⟩]) 2 32 Tryd.underlying30 hi hz0 hz1 hz2 rfl (by decide) _ _ _ rfl (hown0.alloc _) ⟨w5.heap.size, 0, none⟩ 1 1 [.string t, .string c] rfl rfl (two_new2 _ _ _ _ (by simp [World.setCell])) (two_one _ _) (by unfold maxLen; omega) (by omega) (by simp; omega) ?_; intro v' w9 hown' hgrow _)
      have HP7 := hid (HP6.out.grown hgrow hvb)
      have HF7 := hid (HF6.out.grown hgrow (fun i e => (hown0.lt i e).1))
      have HO7 := hid (OwnP.of_row hown')
      clear hown' hgrow hown0 hvb
      refine (comma_any b j3 s bad3 odd3 true _ hs hj3s HP7.out).mono ?_
      rintro e w10 ⟨hf10, j9, bad9, odd9, q9, rfl, hj9, hj9s, hp10, hq9, hrel9⟩
      have HP10 := hid hp10
      have HF10 := hid (HF7.out.trans hf10)
      have HO10 := hid (OwnP.fr HO7.out hf10 (own_ne HO7.out (.inl hbw)))
      have HREL9 := hid hrel9
      clear hp10 hf10 hrel9
      have HFINAL := hid (show LisRel s R j9 bad9 odd9 q9 (ps ++ [(t, c)]) from fun h0 => lis_go HREL.out (by have := HM.out; simpa using this) HR5.out HREL9.out h0)
      go_wp2_with fail
      go_roundg (if q9 then s.size - j9 + 1 else 0)
      case measure =>
        cases q9
        · simp; omega
        · have := hq9 rfl
          simp
          omega
      case rel => exact hid ⟨_, rfl, j9, bad9, odd9, q9, _, rfl, hj9s, Nat.le_refl _, fun h => (hq9 h).2, HP10.out, HO10.out, by
        cases q9
        · simp; omega
        · have := hq9 rfl
          simp
          omega, HF10.out, HFINAL.out⟩

end Go.Proofs.YtohjnegllfdemaaDoor
