/-
  The walk of the reference's inner lists.
-/
import Derived.Test.YtohjnegllfdemaaDoorPars4
set_option maxRecDepth 100000
namespace Go.Proofs.YtohjnegllfdemaaDoor
open Go.RowKit

theorem hd_cons {l : Bs} {n : Nat} (h : hdN l = n) (hn : n ≠ 0) : ∃ c t, l = c :: t ∧ c.toNat = n := by
  cases l with
  | nil => exact absurd h.symm hn
  | cons c t => exact ⟨c, t, rfl, h⟩
theorem noClose_hd {l : Bs} (h : hdN l ≠ 41) : noClose l := by
  cases l with
  | nil => exact .inl rfl
  | cons c t => exact .inr ⟨c, t, rfl, h⟩
theorem noGo_hd {l : Bs} (h : hdN l ≠ 41) (h2 : hdN l ≠ 32) : noGo l := by
  cases l with
  | nil => exact .inl rfl
  | cons c t => exact .inr ⟨c, t, rfl, h, h2⟩
theorem inn_open {l : Bs} (h : hdN l = 40) : inn l = innT (l.drop 1) := by
  obtain ⟨c, t, rfl, hc⟩ := hd_cons h (by decide)
  have hc' : (c.toNat == 40) = true := by simpa using hc
  simp only [inn, hc', if_true, List.drop_succ_cons, List.drop_zero]
  rfl
theorem skip_go {p : Nat → Bool} {l : Bs} (h0 : hdN l ≠ 0) (h : p (hdN l) = true) : (skip p l).length < l.length := by
  cases l with
  | nil => exact absurd rfl h0
  | cons c t =>
    rw [skip_yes h]
    have := skip_le p t
    simp only [List.length_cons]
    omega

set_option maxHeartbeats 2000000 in
theorem parameters_bad (b k : Nat) (s : ByteArray) (odd : Bool) (w : World) (hs : s.size ≤ 2147483647) (hk : k ≤ s.size) (h : PS w b s k true odd) :
    Calls Tryd.prog 34 #[.pointer (some ⟨b, 0, none⟩)] w fun e w' => ∃ t : ByteArray, e = .returned (.tuple #[.string t, .slice none 0 0]) ∧ PS w' b s k true odd ∧ Gr w w' := by
  have HP := hid h
  have c1 := h.c1
  clear h
  go_enter Tryd.func34, Tryd.ntmps34
  go_wp2_with fail
  refine wp_loop_rounds 1 ?_
  rw [rounds_succ]
  go_wp2_with fail
  refine (next_any b k s true odd _ hs hk HP.out).mono ?_
  rintro e w1 ⟨rfl, hp1, hg1⟩
  have d1 := hp1.c1
  have d2 := hp1.c2
  have HP1 := hid hp1
  have HG1 := hid hg1
  clear hp1 hg1
  have e0 := HP1.out.c0
  have i1 : (k : Int) ≤ (k : Int) := by omega
  have i2 : (k : Int) ≤ (s.size : Int) := by omega
  have i3 : (0 : Int) ≤ (k : Int) := by omega
  cases q : ((hdN ((bl s).drop k) : Int) == 59)
  all_goals
    go_wp2_with fail
    go_quiet (fail)
    go_wp2_with fail
    go_ret2
    exact ⟨_, rfl, HP1.out.gr ((Gr.refl _).drewN _), HG1.out.trans ((Gr.refl _).drewN _)⟩

/-- What has been read so far, where nothing is left out. -/
def InnRel (s : ByteArray) (odd : Bool) (R : Option (List (Bs × Bs) × Bs)) (j : Nat) (bad' odd' : Bool) (ys : List (Bs × Bs)) (ps : Ps) : Prop :=
  odd' = false → odd = false ∧ ((bad' = true ∧ R = none) ∨ (bad' = false ∧ j < s.size ∧ pre ys (innT ((bl s).drop j)) = R ∧ psL ps = ys))
/-- How far the loop has to go. -/
def mInn (s : ByteArray) (j : Nat) (bad : Bool) : Nat := if bad then 0 else 2 * (s.size - j) + (if hdN ((bl s).drop j) = 32 ∨ hdN ((bl s).drop j) = 41 then 1 else 2)
/-- The loop's head. -/
def InnInv (b : Nat) (s : ByteArray) (k : Nat) (odd : Bool) (R : Option (List (Bs × Bs) × Bs)) (w : World) (g : Nat) (v : Value) (wr : World) : Prop :=
  ∃ v', v' = v ∧ ∃ (j : Nat) (bad' odd' : Bool) (ys : List (Bs × Bs)) (ps : Ps), k < j ∧ j ≤ s.size ∧ mInn s j bad' ≤ g ∧ PS wr b s j bad' odd' ∧ OwnP wr w.heap.size 38 v' ps ∧ ps.length + mInn s j bad' ≤ 2 * s.size + 2 ∧ Fr b w wr ∧ InnRel s odd R j bad' odd' ys ps

/-- Behind an inner list. -/
def InnPost (b : Nat) (s : ByteArray) (k : Nat) (odd : Bool) (w : World) (e : Ending) (w' : World) : Prop :=
  Fr b w w' ∧ ∃ (t : ByteArray) (v : Value) (ps : Ps) (j : Nat) (bad' odd' : Bool), e = .returned (.tuple #[.string t, v]) ∧ k < j ∧ j ≤ s.size ∧ PS w' b s j bad' odd' ∧ OwnP w' w.heap.size 38 v ps ∧ ps.length ≤ 2 * s.size + 2 ∧
    (odd' = false → odd = false ∧ ((bad' = true ∧ inn ((bl s).drop k) = none) ∨ (bad' = false ∧ ∃ ys r, inn ((bl s).drop k) = some (ys, r) ∧ (bl s).drop j = r ∧ bl t = ahead ((bl s).drop k) r ∧ psL ps = ys ∧ bl t ≠ [40])))

theorem inn_bad {b k j : Nat} {s : ByteArray} {odd odd' : Bool} {w w' : World} {ps : Ps} {ys : List (Bs × Bs)} (hkj : k < j) (hjs : j ≤ s.size) (hp : PS w' b s j true odd') (hf : Fr b w w')
    (h : InnRel s odd (inn ((bl s).drop k)) j true odd' ys ps) :
    InnPost b s k odd w (.returned (.tuple #[.string ⟨#[]⟩, .slice none 0 0])) w' := by
  refine ⟨hf, _, _, [], j, true, odd', rfl, hkj, hjs, hp, OwnP.nil _ _ _, by simp, fun h0 => ?_⟩
  obtain ⟨h1, h2 | ⟨h2, _⟩⟩ := h h0
  · exact ⟨h1, .inl h2⟩
  · cases h2
theorem inn_good {b k j : Nat} {s : ByteArray} {odd odd' : Bool} {w w' : World} {v : Value} {ps : Ps} {ys : List (Bs × Bs)} (hkj : k + 1 < j) (hjs : j ≤ s.size) (hp : PS w' b s j false odd') (ho : OwnP w' w.heap.size 38 v ps) (hl : ps.length ≤ 2 * s.size + 2) (hf : Fr b w w')
    (h : odd' = false → odd = false ∧ inn ((bl s).drop k) = some (ys, (bl s).drop j) ∧ psL ps = ys) :
    InnPost b s k odd w (.returned (.tuple #[.string (s.extract k j), v])) w' := by
  refine ⟨hf, _, v, ps, j, false, odd', rfl, by omega, hjs, hp, ho, hl, fun h0 => ?_⟩
  obtain ⟨h1, h2, h3⟩ := h h0
  exact ⟨h1, .inr ⟨rfl, ys, _, h2, rfl, ahead_mid s k j _ (by omega) hjs rfl, h3, fun e => by
    have := congrArg List.length e
    rw [bl_length, ByteArray.size_extract] at this
    simp only [List.length_cons, List.length_nil] at this
    omega⟩⟩

/-- Behind the blanks nothing is left out. -/
theorem bl_ws {s : ByteArray} {j j1 : Nat} {odd' odd1 : Bool} (h1 : (bl s).drop j1 = skip spB ((bl s).drop j)) (h2 : (odd' || (!false && hdN ((bl s).drop j1) == 9)) = odd1) (h0 : odd1 = false) : odd' = false ∧ skip wsB ((bl s).drop j) = (bl s).drop j1 := by
  rw [h0] at h2
  simp only [Bool.or_eq_false_iff, Bool.not_false, Bool.true_and] at h2
  have h9 : hdN ((bl s).drop j1) ≠ 9 := by simpa using h2.2
  refine ⟨h2.1, ?_⟩
  rw [h1] at h9 ⊢
  exact skip_sp_ws _ h9

/-- The way that is left: behind a round that goes on. -/
theorem mInn_next {s : ByteArray} {j j1 j3 : Nat} (hjs : j ≤ s.size) (h1 : (bl s).drop j1 = skip spB ((bl s).drop j)) (hj1 : j ≤ j1) (hj1s : j1 ≤ s.size) (hn : hdN ((bl s).drop j1) ≠ 41) (h3 : j1 ≤ j3) (h3s : j3 ≤ s.size) (hgo : hdN ((bl s).drop j3) = 32 ∨ hdN ((bl s).drop j3) = 41) : mInn s j3 false < mInn s j false := by
  unfold mInn
  simp only [Bool.false_eq_true, if_false, if_pos hgo]
  by_cases h32 : hdN ((bl s).drop j) = 32
  · have := skip_go (p := spB) (by omega) (show spB (hdN ((bl s).drop j)) = true by rw [h32]; rfl)
    rw [← h1, List.length_drop, List.length_drop, bl_length] at this
    rw [if_pos (.inl h32)]
    omega
  · have e : (bl s).drop j1 = (bl s).drop j := h1.trans (by
      cases hx : (bl s).drop j with
      | nil => rfl
      | cons c t => rw [hx] at h32; exact skip_no (by have : c.toNat ≠ 32 := h32; simpa [spB] using this))
    rw [e] at hn
    rw [if_neg (by rintro (h | h); exact h32 h; exact hn h)]
    omega
theorem mInn_pos (s : ByteArray) (j : Nat) : 0 < mInn s j false := by
  unfold mInn
  simp only [Bool.false_eq_true, if_false]
  split <;> omega
theorem mInn_bad (s : ByteArray) (j : Nat) : mInn s j true = 0 := rfl
theorem mInn_le (s : ByteArray) (j : Nat) : mInn s j false ≤ 2 * s.size + 2 := by
  unfold mInn
  simp only [Bool.false_eq_true, if_false]
  split <;> omega

theorem drop_cons {s : ByteArray} {k : Nat} (h : k < s.size) : ∃ d, (bl s).drop k = d :: (bl s).drop (k + 1) ∧ d.toNat = hdN ((bl s).drop k) := by
  have := bl_get s k h
  exact ⟨_, this, by rw [this]; rfl⟩
theorem drop_nil {s : ByteArray} {k : Nat} (h : ¬ k < s.size) : (bl s).drop k = [] := bl_end s k h
theorem drop_pos {s : ByteArray} {k : Nat} (h : k < s.size) : 0 < ((bl s).drop k).length := by rw [List.length_drop, bl_length]; omega

theorem inn_shut {s : ByteArray} {j j1 : Nat} {R : Option (List (Bs × Bs) × Bs)} {ys : List (Bs × Bs)} (hj : j < s.size) (hws : skip wsB ((bl s).drop j) = (bl s).drop j1) (hc : hdN ((bl s).drop j1) = 41) (hj1 : j1 < s.size) (hR : pre ys (innT ((bl s).drop j)) = R) : R = some (ys, (bl s).drop (j1 + 1)) := by
  obtain ⟨d, hd1, hd2⟩ := drop_cons hj1
  rw [← hR, innT_close (drop_pos hj) (hws.trans hd1) (hd2.trans hc)]
  simp [pre]
theorem inn_no1 {s : ByteArray} {j j1 : Nat} {R : Option (List (Bs × Bs) × Bs)} {ys : List (Bs × Bs)} (hj : j < s.size) (hws : skip wsB ((bl s).drop j) = (bl s).drop j1) (hc : hdN ((bl s).drop j1) ≠ 41) (hb : bare ((bl s).drop j1) = none) (hR : pre ys (innT ((bl s).drop j)) = R) : R = none := by
  rw [← hR, innT_nobare (drop_pos hj) (by rw [hws]; exact noClose_hd hc) (by rw [hws]; exact hb)]; rfl
theorem inn_no2 {s : ByteArray} {j j1 j2 : Nat} {R : Option (List (Bs × Bs) × Bs)} {ys : List (Bs × Bs)} (hj : j < s.size) (hws : skip wsB ((bl s).drop j) = (bl s).drop j1) (hc : hdN ((bl s).drop j1) ≠ 41) (hb : bare ((bl s).drop j1) = some ((bl s).drop j2)) (hp : par ((bl s).drop j2) = none) (hR : pre ys (innT ((bl s).drop j)) = R) : R = none := by
  rw [← hR, innT_nopar (drop_pos hj) (by rw [hws]; exact noClose_hd hc) (by rw [hws]; exact hb) hp]; rfl
theorem inn_no3 {s : ByteArray} {j j1 j2 j3 : Nat} {R : Option (List (Bs × Bs) × Bs)} {ys : List (Bs × Bs)} {zs : List (Bs × Option Bs)} (hj : j < s.size) (hws : skip wsB ((bl s).drop j) = (bl s).drop j1) (hc : hdN ((bl s).drop j1) ≠ 41) (hb : bare ((bl s).drop j1) = some ((bl s).drop j2)) (hp : par ((bl s).drop j2) = some (zs, (bl s).drop j3)) (h1 : hdN ((bl s).drop j3) ≠ 32) (h2 : hdN ((bl s).drop j3) ≠ 41) (hR : pre ys (innT ((bl s).drop j)) = R) : R = none := by
  rw [← hR, innT_nogo (drop_pos hj) (by rw [hws]; exact noClose_hd hc) (by rw [hws]; exact hb) hp (noGo_hd h2 h1)]; rfl
theorem inn_go {s t c : ByteArray} {j j1 j2 j3 : Nat} {R : Option (List (Bs × Bs) × Bs)} {ys : List (Bs × Bs)} {zs : List (Bs × Option Bs)} (hj : j < s.size) (hws : skip wsB ((bl s).drop j) = (bl s).drop j1) (hc : hdN ((bl s).drop j1) ≠ 41) (hb : bare ((bl s).drop j1) = some ((bl s).drop j2)) (ht : bl t = ahead ((bl s).drop j1) ((bl s).drop j2)) (hp : par ((bl s).drop j2) = some (zs, (bl s).drop j3)) (hcc : bl c = ahead ((bl s).drop j2) ((bl s).drop j3)) (hgo : hdN ((bl s).drop j3) = 32 ∨ hdN ((bl s).drop j3) = 41) (hR : pre ys (innT ((bl s).drop j)) = R) : pre (ys ++ [(bl t, bl c)]) (innT ((bl s).drop j3)) = R := by
  have hne : ∃ e r4, (bl s).drop j3 = e :: r4 ∧ (e.toNat = 41 ∨ e.toNat = 32) := by
    rcases hgo with h | h
    · obtain ⟨e, r4, h1, h2⟩ := hd_cons h (by decide)
      exact ⟨e, r4, h1, .inr h2⟩
    · obtain ⟨e, r4, h1, h2⟩ := hd_cons h (by decide)
      exact ⟨e, r4, h1, .inl h2⟩
  obtain ⟨e, r4, he, hen⟩ := hne
  rw [ht, hcc]
  rw [he] at hp ⊢
  rw [innT_next (drop_pos hj) (by rw [hws]; exact noClose_hd hc) (by rw [hws]; exact hb) hp hen, pre_cons, hws] at hR
  exact hR

end Go.Proofs.YtohjnegllfdemaaDoor
