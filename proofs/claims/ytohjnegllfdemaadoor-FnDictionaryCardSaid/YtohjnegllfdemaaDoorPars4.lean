/-
  The walk of the reference's parameters.
-/
import Derived.Test.YtohjnegllfdemaaDoorPars3
set_option maxRecDepth 100000
namespace Go.Proofs.YtohjnegllfdemaaDoor
open Go.RowKit

/-- The values that the reference hands out: a key without a value has none. -/
def sVal : Option Bs → Bs
  | none => []
  | some v => v

theorem skip_sp_ws : ∀ l : Bs, hdN (skip spB l) ≠ 9 → skip wsB l = skip spB l := by
  intro l
  induction l with
  | nil => intro _; rfl
  | cons c r ih =>
    intro h
    by_cases hc : c.toNat = 32
    · have h1 : spB c.toNat = true := by simp [spB, hc]
      have h2 : wsB c.toNat = true := by simp [wsB, hc]
      rw [skip_yes h1] at h ⊢
      rw [skip_yes h2]
      exact ih h
    · have h1 : spB c.toNat = false := by simpa [spB] using hc
      rw [skip_no h1] at h ⊢
      have h9 : c.toNat ≠ 9 := h
      exact skip_no (by simp [wsB, hc, h9])

theorem par_end {l : Bs} (h : hdN l ≠ 59) : par l = some ([], l) := by
  rw [par_step]
  cases l with
  | nil => rfl
  | cons c r =>
    have hc : (c.toNat == 59) = false := by simpa [hdN] using h
    simp [par1, hc]
theorem par_open {l : Bs} (h : hdN l = 59) : par l = match key (skip wsB (l.drop 1)) with
    | none => none
    | some r1 =>
      if hdN r1 = 61 then
        match bare (r1.drop 1) with
        | none => none
        | some r3 => (par r3).map fun y => ((ahead (skip wsB (l.drop 1)) r1, some (ahead (r1.drop 1) r3)) :: y.1, y.2)
      else (par r1).map fun y => ((ahead (skip wsB (l.drop 1)) r1, none) :: y.1, y.2) := by
  rw [par_step]
  cases l with
  | nil => cases h
  | cons c r =>
    have hc : (c.toNat == 59) = true := by simpa [hdN] using h
    simp only [par1, hc, if_true, List.drop_succ_cons, List.drop_zero]
    cases hk : key (skip wsB r) with
    | none => rfl
    | some r1 =>
      cases r1 with
      | nil => simp [hdN]
      | cons d r2 =>
        by_cases hd : d.toNat = 61
        · simp only [if_true, hdN, hd, List.drop_succ_cons, List.drop_zero]
          cases hb : bare r2 with
          | none => rfl
          | some r3 => rfl
        · have hd' : (d.toNat == 61) = false := by simpa using hd
          simp only [hd', hdN, hd, Bool.false_eq_true, if_false]

theorem blk_of {W w1 : World} (hg : Gr W w1) {i : Nat} {o : Obj} (h : W.heap[i]? = some o) : w1.heap[i]? = some o := by
  rw [Below.block hg _ (lt_of_block h)]
  exact h
theorem own_ne {w : World} {base i : Nat} {T : TypeId} {v : Value} {xs : Ps} (h : OwnP w base T v xs) (hi : i < base ∨ w.heap.size ≤ i) : v.ownBlock ≠ some i := by
  intro e
  have := h.row.lt i e
  omega
theorem Fr.trans_low {b : Nat} {w W w' : World} (h : Fr b w W) (k : w'.os = W.os ∧ w'.tape = W.tape ∧ w'.output = W.output ∧ W.heap.size ≤ w'.heap.size ∧ ∀ i, i < w.heap.size → i ≠ b → w'.heap[i]? = W.heap[i]?) : Fr b w w' :=
  ⟨k.1.trans h.os, k.2.1.trans h.tape, k.2.2.1.trans h.output, Nat.le_trans h.size k.2.2.2.1, fun i hi hn => (k.2.2.2.2 i hi (fun e => hn (by rw [e]))).trans (h.block i hi hn)⟩
theorem Fr.grown {b : Nat} {w W w' : World} {v : Value} {Y : Obj} (h : Fr b w W) (hg : (W.alloc Y).grownBy w' v.ownBlock) (hv : ∀ k, v.ownBlock = some k → w.heap.size ≤ k) : Fr b w w' :=
  h.trans_low ⟨hg.os, hg.tape, hg.output, Nat.le_trans (by simp) hg.size, fun i hi hn => by
    rw [hg.block i (by have := h.size; simp; omega) (fun e => by have := hv i e.symm; have := h.size; omega), Lib.alloc_old W Y i (by have := h.size; omega)]⟩
theorem PS.grown {b k : Nat} {s : ByteArray} {bad odd : Bool} {W w' : World} {v : Value} {Y : Obj} (h : PS W b s k bad odd) (hg : (W.alloc Y).grownBy w' v.ownBlock) (hv : v.ownBlock ≠ some b) : PS w' b s k bad odd := by
  have hb := lt_of_block h
  unfold PS
  rw [hg.block b (by simp; omega) (fun e => hv e.symm), Lib.alloc_old W Y b hb]
  exact h

theorem two_new (w : World) (x y : Value) (T : TypeId) : ∀ j u, [x, y][j]? = some u → (w.alloc (.cells #[x, y] T)).cell? ((⟨w.heap.size, 0, none⟩ : Addr).add j) = some u := by
  intro j u hj
  have hz := heap_alloc_new w (.cells #[x, y] T)
  match j, hj with
  | 0, hj => simp at hj; subst hj; simp [Addr.add]
  | 1, hj => simp at hj; subst hj; simp [Addr.add]
theorem two_new2 {g : Nat} (w : World) (x y : Value) (T : TypeId) (hg : g = w.heap.size) : ∀ j u, [x, y][j]? = some u → (w.alloc (.cells #[x, y] T)).cell? ((⟨g, 0, none⟩ : Addr).add j) = some u := by
  subst hg
  exact two_new w x y T
theorem two_one (a b : ByteArray) : ∀ u ∈ [Value.string a, Value.string b], u.oneCell' = true := by
  intro u hu
  simp at hu
  rcases hu with rfl | rfl <;> rfl

/-- What has been read so far, where nothing is left out. -/
def ParRel (s : ByteArray) (odd : Bool) (R : Option (List (Bs × Option Bs) × Bs)) (j : Nat) (bad' odd' : Bool) (ys : List (Bs × Option Bs)) (ps : Ps) : Prop :=
  odd' = false → odd = false ∧ ((bad' = true ∧ R = none) ∨ (bad' = false ∧ pre ys (par ((bl s).drop j)) = R ∧ psL ps = ys.map fun x => (x.1, sVal x.2)))
/-- The loop's head. -/
def ParInv (b : Nat) (s : ByteArray) (k : Nat) (odd : Bool) (R : Option (List (Bs × Option Bs) × Bs)) (w : World) (g : Nat) (v : Value) (wr : World) : Prop :=
  ∃ v', v' = v ∧ ∃ (j : Nat) (bad' odd' : Bool) (ys : List (Bs × Option Bs)) (ps : Ps), k ≤ j ∧ j ≤ s.size ∧ s.size - j ≤ g ∧ PS wr b s j bad' odd' ∧ OwnP wr w.heap.size 38 v' ps ∧ ps.length + k ≤ j ∧ Fr b w wr ∧ ParRel s odd R j bad' odd' ys ps

/-- Behind parameters. -/
def ParPost (b : Nat) (s : ByteArray) (k : Nat) (odd : Bool) (w : World) (e : Ending) (w' : World) : Prop :=
  Fr b w w' ∧ ∃ (t : ByteArray) (v : Value) (ps : Ps) (j : Nat) (bad' odd' : Bool), e = .returned (.tuple #[.string t, v]) ∧ k ≤ j ∧ j ≤ s.size ∧ PS w' b s j bad' odd' ∧ OwnP w' w.heap.size 38 v ps ∧ ps.length + k ≤ j ∧
    (odd' = false → odd = false ∧ ((bad' = true ∧ par ((bl s).drop k) = none) ∨ (bad' = false ∧ ∃ ys r, par ((bl s).drop k) = some (ys, r) ∧ (bl s).drop j = r ∧ bl t = ahead ((bl s).drop k) r ∧ psL ps = ys.map fun x => (x.1, sVal x.2))))

theorem par_finish {b k j : Nat} {s : ByteArray} {odd bad' odd' : Bool} {w w' : World} {v : Value} {ps : Ps} {ys : List (Bs × Option Bs)} (hkj : k ≤ j) (hjs : j ≤ s.size) (hp : PS w' b s j bad' odd') (ho : OwnP w' w.heap.size 38 v ps) (hl : ps.length + k ≤ j) (hf : Fr b w w')
    (h : ParRel s odd (par ((bl s).drop k)) j bad' odd' ys ps) (hend : bad' = true ∨ hdN ((bl s).drop j) ≠ 59) :
    ParPost b s k odd w (.returned (.tuple #[.string (s.extract k j), v])) w' := by
  refine ⟨hf, _, v, ps, j, bad', odd', rfl, hkj, hjs, hp, ho, hl, fun h0 => ?_⟩
  obtain ⟨h1, h2⟩ := h h0
  refine ⟨h1, ?_⟩
  rcases h2 with h2 | ⟨h2, h3, h4⟩
  · exact .inl h2
  · refine .inr ⟨h2, ys, (bl s).drop j, ?_, rfl, ahead_mid s k j _ hkj hjs rfl, h4⟩
    rcases hend with hend | hend
    · rw [h2] at hend; cases hend
    · rw [← h3, par_end hend]
      simp [pre]

set_option maxHeartbeats 8000000 in
theorem parameters_any (b k : Nat) (s : ByteArray) (bad odd : Bool) (w : World) (hs : s.size ≤ 2147483647) (hk : k ≤ s.size) (h : PS w b s k bad odd) (hbad : bad = true → par ((bl s).drop k) = none ∨ odd = true) :
    Calls Tryd.prog 34 #[.pointer (some ⟨b, 0, none⟩)] w fun e w' => ParPost b s k odd w e w' := by
  obtain ⟨R, hR⟩ : ∃ R, par ((bl s).drop k) = R := ⟨_, rfl⟩
  obtain ⟨i0, hi, hz0, hz1, hz2⟩ := info_parts infoSPair
  have HR := hid hR
  have HP := hid h
  have c1 := h.c1
  have hbw := lt_of_block h
  have HI := hid (show ParInv b s k odd R w (s.size - k) (.slice none 0 0) w from ⟨_, rfl, k, bad, odd, [], [], Nat.le_refl _, hk, Nat.le_refl _, h, OwnP.nil _ _ _, by simp, Fr.refl _ _, fun h0 => ⟨h0, by
    cases bad
    · exact .inr ⟨rfl, by rw [pre_nil, hR], rfl⟩
    · rcases hbad rfl with hb | hb
      · exact .inl ⟨rfl, by rw [← hR, hb]⟩
      · rw [h0] at hb; cases hb⟩⟩)
  clear hR h hbad
  go_enter Tryd.func34, Tryd.ntmps34
  go_wp2_with fail
  go_loopg [5] (s.size - k) (fun g v wr => Hid (ParInv b s k odd R w g v wr))
  case atStart => exact HI
  case round =>
    clear HI HP c1
    obtain ⟨v, rfl, j, bad', odd', ys, ps, hkj, hjs, hjg, hp, ho, hl, hf, hrel⟩ := hrel.out
    have HO := hid ho
    have HF := hid hf
    have HREL := hid hrel
    have HPJ := hid hp
    have hown_lt := hid (fun i => ho.row.lt i)
    clear hp ho hf hrel
    go_wp2_with fail
    refine (next_any b j s bad' odd' _ hs hjs HPJ.out).mono ?_
    rintro e w1 ⟨rfl, hp1, hg1⟩
    have d1 := hp1.c1
    have d2 := hp1.c2
    have f1 := hp1.fz 1
    have HP1 := hid hp1
    have HF1 := hid (HF.out.trans (Fr.of_gr hg1))
    have HO1 := hid (HO.out.gr hg1)
    clear hp1 hg1
    by_cases hc : hdN ((bl s).drop j) = 59
    case neg =>
      have q : ((hdN ((bl s).drop j) : Int) == 59) = false := eqF hc
      have e0 := HP1.out.c0
      have i1 : (k : Int) ≤ (j : Int) := by omega
      have i2 : (j : Int) ≤ (s.size : Int) := by omega
      have i3 : (0 : Int) ≤ (k : Int) := by omega
      have HC := hid hc
      clear hc
      go_wp2_with fail
      go_quiet (fail)
      go_wp2_with fail
      go_ret2
      exact par_finish hkj hjs (HP1.out.gr ((Gr.refl _).drewN _)) (HO1.out.gr ((Gr.refl _).drewN _)) hl (HF1.out.trans (Fr.of_gr ((Gr.refl _).drewN _))) (by rw [HR.out]; exact HREL.out) (.inr HC.out)
    have q : ((hdN ((bl s).drop j) : Int) == 59) = true := eqT hc
    cases bad'
    case true =>
      have e0 := HP1.out.c0
      have i1 : (k : Int) ≤ (j : Int) := by omega
      have i2 : (j : Int) ≤ (s.size : Int) := by omega
      have i3 : (0 : Int) ≤ (k : Int) := by omega
      clear hc
      go_wp2_with fail
      go_quiet (fail)
      go_wp2_with fail
      go_ret2
      exact par_finish hkj hjs (HP1.out.gr ((Gr.refl _).drewN _)) (HO1.out.gr ((Gr.refl _).drewN _)) hl (HF1.out.trans (Fr.of_gr ((Gr.refl _).drewN _))) (by rw [HR.out]; exact HREL.out) (.inl rfl)
    have hlt : j < s.size := drop_lt (by omega)
    have HC := hid hc
    clear hc
    go_wp2_with fail
    refine (blanks_no b (j + 1) s false odd' _ hs hlt (HP1.out.at (j + 1) _ (by omega))).mono ?_
    rintro e w2 ⟨rfl, j1, hj1, hj1s, hj1d, hp2, hf2⟩
    have hx1 : Fr b w w2 := (HF1.out.set 1 _).trans hf2
    have ho2 : OwnP w2 w.heap.size 38 v ps := OwnP.fr (OwnP.fr HO1.out ((Fr.refl b w1).set 1 _) (own_ne HO1.out (.inl hbw))) hf2 (own_ne HO1.out (.inl hbw))
    obtain ⟨odd1, hodd1⟩ : ∃ o, (odd' || (!false && hdN ((bl s).drop j1) == 9)) = o := ⟨_, rfl⟩
    rw [hodd1] at hp2
    have HODD1 := hid hodd1
    have HJ1 := hid hj1d
    have HF2 := hid hx1
    have HO2 := hid ho2
    have HP2 := hid hp2
    clear hodd1 hj1d hx1 ho2 hp2 hf2
    go_wp2_with fail
    refine (key_any b j1 s odd1 _ hs hj1s HP2.out).mono ?_
    rintro e w3 ⟨hf3, hk3⟩
    have HF3 := hid (HF2.out.trans hf3)
    have HO3 := hid (HO2.out.fr hf3 (own_ne HO2.out (.inl hbw)))
    have hw3 : w.heap.size ≤ w3.heap.size := HF3.out.size
    clear hf3
    have HWS := hid (show odd1 = false → odd' = false ∧ skip wsB (((bl s).drop j).drop 1) = (bl s).drop j1 from fun h0 => by
      rw [h0] at HODD1
      have := HODD1.out
      simp only [Bool.or_eq_false_iff, Bool.not_false, Bool.true_and] at this
      have h9 : hdN ((bl s).drop j1) ≠ 9 := by simpa using this.2
      refine ⟨this.1, ?_⟩
      rw [List.drop_drop]
      rw [HJ1.out] at h9 ⊢
      exact skip_sp_ws _ h9)
    cases hkey : key ((bl s).drop j1) with
    | none =>
      rw [hkey] at hk3
      obtain ⟨rfl, hp3⟩ := hk3
      have HINV := hid (show odd1 = false → odd = false ∧ R = none from fun h0 => by
        obtain ⟨h1, h2⟩ := HWS.out h0
        obtain ⟨h3, h4⟩ := HREL.out h1
        rcases h4 with ⟨h4, _⟩ | ⟨_, h4, _⟩
        · cases h4
        · rw [par_open HC.out, h2, hkey] at h4
          exact ⟨h3, h4.symm⟩)
      clear hkey
      have HP3 := hid (hp3.gr ((Gr.refl w3).alloc (.cells #[.string ⟨#[]⟩, .string ⟨#[]⟩] 38)))
      clear hp3
      go_wp2_with fail
      refine (next_any b j1 s true odd1 _ hs (by omega) HP3.out).mono ?_
      rintro e w4 ⟨rfl, hp4, hg4⟩
      have hX4 := blk_of hg4 (heap_alloc_new w3 _)
      have hg34 : Gr w3 w4 := Gr.trans ((Gr.refl w3).alloc _) hg4
      have hw4 : w3.heap.size < w4.heap.size := lt_of_block hX4
      have x0' := Lib.cell_of_heap hX4 0
      have x1' := Lib.cell_of_heap hX4 1
      simp at x0' x1'
      have HP4 := hid hp4
      have d42 := hp4.c2
      have HF4 := hid (HF3.out.trans (Fr.of_gr hg34))
      have HO4 := hid (HO3.out.gr hg34)
      have HX := hid hX4
      clear hp4 hg4 hX4 hg34
      by_cases h61 : hdN ((bl s).drop j1) = 61
      all_goals
        try have q61 : ((hdN ((bl s).drop j1) : Int) == 61) = true := eqT h61
        try have q61 : ((hdN ((bl s).drop j1) : Int) == 61) = false := eqF h61
        clear h61
        have hown0 := HO4.out.row
        have hlen : ps.length + 1 ≤ 2147483648 := by omega
        have hsz : w.heap.size ≤ w4.heap.size := HF4.out.size
        go_wp2_with (at_builtin; refine wpList_append_own _ rfl _ _ 30 rfl w.heap.size 38 i0 (.agg #[.string ⟨#[]⟩, .string ⟨#[]⟩]) 2 32 Tryd.underlying30 hi hz0 hz1 hz2 rfl (by decide) _ _ _ rfl (hown0.alloc _) ⟨w4.heap.size, 0, none⟩ 1 1 [.string ⟨#[]⟩, .string ⟨#[]⟩] rfl rfl (two_new _ _ _ _) (two_one _ _) (by unfold maxLen; omega) (by omega) (by simp; omega) ?_; intro v' w9 hown' hgrow _)
        have hvb : v.ownBlock ≠ some b := own_ne HO4.out (.inl hbw)
        have HP5 := hid (HP4.out.grown hgrow hvb)
        have HF5 := hid (HF4.out.grown hgrow (fun i e => (hown0.lt i e).1))
        have HO5 := hid (OwnP.of_row hown')
        clear hown' hgrow hown0 hvb
        go_roundg (s.size - j1)
        case measure => omega
        case rel => exact hid ⟨_, rfl, j1, true, odd1, [], _, by omega, hj1s, Nat.le_refl _, HP5.out, HO5.out, by simp; omega, HF5.out, fun h0 => ⟨(HINV.out h0).1, .inl ⟨rfl, (HINV.out h0).2⟩⟩⟩
    | some r1 =>
      rw [hkey] at hk3
      obtain ⟨t, j2, rfl, hj2, hj2s, hj2d, ht, hp3⟩ := hk3
      have HKEY := hid hkey
      have HT := hid ht
      have HJ2 := hid hj2d
      clear hkey ht hj2d
      have HP3 := hid (hp3.gr ((Gr.refl w3).alloc (.cells #[.string t, .string ⟨#[]⟩] 38)))
      clear hp3
      go_wp2_with fail
      refine (next_any b j2 s false odd1 _ hs (by omega) HP3.out).mono ?_
      rintro e w4 ⟨rfl, hp4, hg4⟩
      have hX4 := blk_of hg4 (heap_alloc_new w3 _)
      have hg34 : Gr w3 w4 := Gr.trans ((Gr.refl w3).alloc _) hg4
      have hw4 : w3.heap.size < w4.heap.size := lt_of_block hX4
      have x0' := Lib.cell_of_heap hX4 0
      have x1' := Lib.cell_of_heap hX4 1
      simp at x0' x1'
      have HP4 := hid hp4
      have d42 := hp4.c2
      have HF4 := hid (HF3.out.trans (Fr.of_gr hg34))
      have HO4 := hid (HO3.out.gr hg34)
      have HX := hid hX4
      clear hp4 hg4 hX4 hg34
      by_cases h61 : hdN ((bl s).drop j2) = 61
      case neg =>
        have q61 : ((hdN ((bl s).drop j2) : Int) == 61) = false := eqF h61
        have HINV := hid (show odd1 = false → odd = false ∧ pre (ys ++ [(bl t, none)]) (par ((bl s).drop j2)) = R ∧ psL ps = ys.map (fun x => (x.1, sVal x.2)) from fun h0 => by
          obtain ⟨h1, h2⟩ := HWS.out h0
          obtain ⟨h3, h4⟩ := HREL.out h1
          rcases h4 with ⟨h4, _⟩ | ⟨_, h4, h5⟩
          · cases h4
          · rw [par_open HC.out, h2, HKEY.out] at h4
            simp only at h4
            rw [← HJ2.out, if_neg h61, pre_cons] at h4
            refine ⟨h3, ?_, h5⟩
            rw [HT.out, ← HJ2.out]
            exact h4)
        clear h61
        have hown0 := HO4.out.row
        have hlen : ps.length + 1 ≤ 2147483648 := by omega
        have hsz : w.heap.size ≤ w4.heap.size := HF4.out.size
        go_wp2_with (at_builtin; refine wpList_append_own _ rfl _ _ 30 rfl w.heap.size 38 i0 (.agg #[.string ⟨#[]⟩, .string ⟨#[]⟩]) 2 32 Tryd.underlying30 hi hz0 hz1 hz2 rfl (by decide) _ _ _ rfl (hown0.alloc _) ⟨w4.heap.size, 0, none⟩ 1 1 [.string t, .string ⟨#[]⟩] rfl rfl (two_new _ _ _ _) (two_one _ _) (by unfold maxLen; omega) (by omega) (by simp; omega) ?_; intro v' w9 hown' hgrow _)
        have hvb : v.ownBlock ≠ some b := own_ne HO4.out (.inl hbw)
        have HP5 := hid (HP4.out.grown hgrow hvb)
        have HF5 := hid (HF4.out.grown hgrow (fun i e => (hown0.lt i e).1))
        have HO5 := hid (OwnP.of_row hown')
        clear hown' hgrow hown0 hvb
        go_roundg (s.size - j2)
        case measure => omega
        case rel => exact hid ⟨_, rfl, j2, false, odd1, _, _, by omega, hj2s, Nat.le_refl _, HP5.out, HO5.out, by simp; omega, HF5.out, fun h0 => ⟨(HINV.out h0).1, .inr ⟨rfl, (HINV.out h0).2.1, by rw [psL_push, (HINV.out h0).2.2, List.map_append]; rfl⟩⟩⟩
      have q61 : ((hdN ((bl s).drop j2) : Int) == 61) = true := eqT h61
      have hlt2 : j2 < s.size := drop_lt (by omega)
      have H61 := hid h61
      have d42 := HP4.out.c2
      have d41 := HP4.out.c1
      have f41 := HP4.out.fz 1
      clear h61
      go_wp2_with fail
      refine (item_any b (j2 + 1) s odd1 _ hs hlt2 (HP4.out.at (j2 + 1) _ (by omega))).mono ?_
      rintro e w5 ⟨hf5, hit⟩
      have hx5 : Fr b w w5 := (HF4.out.set 1 _).trans hf5
      have hen : v.ownBlock ≠ some b := own_ne HO4.out (.inl hbw)
      have ho5 : OwnP w5 w.heap.size 38 v ps := OwnP.fr (OwnP.fr HO4.out ((Fr.refl b w4).set 1 _) hen) hf5 hen
      have hX5 : w5.heap[w3.heap.size]? = some (.cells #[.string t, .string ⟨#[]⟩] 38 (0, 0)) := hf5.heap (by rw [heap_setCell_other _ _ _ _ (by simp; omega)]; exact HX.out) (by omega)
      have x0 := Lib.cell_of_heap hX5 0
      have x1 := Lib.cell_of_heap hX5 1
      have y1 := Lib.frozen_of_heap hX5 1
      simp at x0 x1
      have HX5 := hid hX5
      have HO5 := hid ho5
      have HF5 := hid hx5
      clear hX5 ho5 hx5 hf5 x0' x1' hen
      rcases hit with ⟨hb, rfl, hp5⟩ | ⟨t2, j3, odd2, rfl, hj3, hj3s, hp5, hit⟩
      · have HINV := hid (show odd1 = false → odd = false ∧ R = none from fun h0 => by
          obtain ⟨h1, h2⟩ := HWS.out h0
          obtain ⟨h3, h4⟩ := HREL.out h1
          rcases h4 with ⟨h4, _⟩ | ⟨_, h4, _⟩
          · cases h4
          · rw [par_open HC.out, h2, HKEY.out] at h4
            simp only at h4
            rw [← HJ2.out, if_pos H61.out, List.drop_drop, hb] at h4
            exact ⟨h3, h4.symm⟩)
        have HP5 := hid hp5
        clear hb hp5
        have HX6 := hid (heap_setCell_same _ _ 1 _ _ (.string ⟨#[]⟩) HX5.out)
        have HP6 := hid (HP5.out.other (B := w3.heap.size) (by omega) 1 (.string ⟨#[]⟩))
        have hne6 : v.ownBlock ≠ some w3.heap.size := own_ne HO3.out (.inr (Nat.le_refl _))
        have HO6 := hid (show OwnP (w5.setCell ⟨w3.heap.size, 1, none⟩ (.string ⟨#[]⟩)) w.heap.size 38 v ps from ownsRow_setCell_other HO5.out (a := ⟨w3.heap.size, 1, none⟩) hne6 _)
        have HF6 := hid (show Fr b w (w5.setCell ⟨w3.heap.size, 1, none⟩ (.string ⟨#[]⟩)) from HF5.out.trans_low ⟨rfl, rfl, rfl, by simp [World.setCell], fun i hi hn => heap_setCell_other _ _ _ _ (by simp; omega)⟩)
        have hown0 := HO6.out.row
        have hlen : ps.length + 1 ≤ 2147483648 := by omega
        have hsz : w.heap.size ≤ w5.heap.size := HF5.out.size
        go_wp2_with (at_builtin; refine wpList_append_own _ rfl _ _ 30 rfl w.heap.size 38 i0 (.agg #[.string ⟨#[]⟩, .string ⟨#[]⟩]) 2 32 Tryd.underlying30 hi hz0 hz1 hz2 rfl (by decide) _ _ _ rfl (hown0.alloc _) ⟨w5.heap.size, 0, none⟩ 1 1 [.string t, .string ⟨#[]⟩] rfl rfl (two_new2 _ _ _ _ (by simp [World.setCell])) (two_one _ _) (by unfold maxLen; omega) (by omega) (by simp; omega) ?_; intro v' w9 hown' hgrow _)
        have hvb : v.ownBlock ≠ some b := own_ne HO4.out (.inl hbw)
        have HP7 := hid (HP6.out.grown hgrow hvb)
        have HF7 := hid (HF6.out.grown hgrow (fun i e => (hown0.lt i e).1))
        have HO7 := hid (OwnP.of_row hown')
        clear hown' hgrow hown0 hvb
        go_roundg (s.size - (j2 + 1))
        case measure => omega
        case rel => exact hid ⟨_, rfl, j2 + 1, true, odd1, [], _, by omega, by omega, Nat.le_refl _, HP7.out, HO7.out, by simp; omega, HF7.out, fun h0 => ⟨(HINV.out h0).1, .inl ⟨rfl, (HINV.out h0).2⟩⟩⟩
      · have HINV := hid (show odd2 = false → odd = false ∧ pre (ys ++ [(bl t, some (bl t2))]) (par ((bl s).drop j3)) = R ∧ psL ps = ys.map (fun x => (x.1, sVal x.2)) from fun h0 => by
          obtain ⟨h0', r3, hb, hd3, ht2⟩ := hit h0
          obtain ⟨h1, h2⟩ := HWS.out h0'
          obtain ⟨h3, h4⟩ := HREL.out h1
          rcases h4 with ⟨h4, _⟩ | ⟨_, h4, h5⟩
          · cases h4
          · rw [par_open HC.out, h2, HKEY.out] at h4
            simp only at h4
            rw [← HJ2.out, if_pos H61.out, List.drop_drop, hb] at h4
            simp only at h4
            rw [pre_cons] at h4
            refine ⟨h3, ?_, h5⟩
            rw [HT.out, ht2, hd3, ← HJ2.out]
            exact h4)
        have HP5 := hid hp5
        clear hit hp5
        have HX6 := hid (heap_setCell_same _ _ 1 _ _ (.string t2) HX5.out)
        have HP6 := hid (HP5.out.other (B := w3.heap.size) (by omega) 1 (.string t2))
        have hne6 : v.ownBlock ≠ some w3.heap.size := own_ne HO3.out (.inr (Nat.le_refl _))
        have HO6 := hid (show OwnP (w5.setCell ⟨w3.heap.size, 1, none⟩ (.string t2)) w.heap.size 38 v ps from ownsRow_setCell_other HO5.out (a := ⟨w3.heap.size, 1, none⟩) hne6 _)
        have HF6 := hid (show Fr b w (w5.setCell ⟨w3.heap.size, 1, none⟩ (.string t2)) from HF5.out.trans_low ⟨rfl, rfl, rfl, by simp [World.setCell], fun i hi hn => heap_setCell_other _ _ _ _ (by simp; omega)⟩)
        have hown0 := HO6.out.row
        have hlen : ps.length + 1 ≤ 2147483648 := by omega
        have hsz : w.heap.size ≤ w5.heap.size := HF5.out.size
        go_wp2_with (at_builtin; refine wpList_append_own _ rfl _ _ 30 rfl w.heap.size 38 i0 (.agg #[.string ⟨#[]⟩, .string ⟨#[]⟩]) 2 32 Tryd.underlying30 hi hz0 hz1 hz2 rfl (by decide) _ _ _ rfl (hown0.alloc _) ⟨w5.heap.size, 0, none⟩ 1 1 [.string t, .string t2] rfl rfl (two_new2 _ _ _ _ (by simp [World.setCell])) (two_one _ _) (by unfold maxLen; omega) (by omega) (by simp; omega) ?_; intro v' w9 hown' hgrow _)
        have hvb : v.ownBlock ≠ some b := own_ne HO4.out (.inl hbw)
        have HP7 := hid (HP6.out.grown hgrow hvb)
        have HF7 := hid (HF6.out.grown hgrow (fun i e => (hown0.lt i e).1))
        have HO7 := hid (OwnP.of_row hown')
        clear hown' hgrow hown0 hvb
        go_roundg (s.size - j3)
        case measure => omega
        case rel => exact hid ⟨_, rfl, j3, false, odd2, _, _, by omega, hj3s, Nat.le_refl _, HP7.out, HO7.out, by simp; omega, HF7.out, fun h0 => ⟨(HINV.out h0).1, .inr ⟨rfl, (HINV.out h0).2.1, by rw [psL_push, (HINV.out h0).2.2, List.map_append]; rfl⟩⟩⟩

end Go.Proofs.YtohjnegllfdemaaDoor
