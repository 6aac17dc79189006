/-
  The walks of consumeItem, ParseParameter, ParseItem, ParseBareInnerList and of impl's Parameters, Item, InnerList.
-/
import Derived.Test.YtohjnegllfdemaaDoorCInn
set_option maxRecDepth 100000
namespace Go.Proofs.YtohjnegllfdemaaDoor
open Go.RowKit

/-- What Parameters, Item, InnerList hand out of a whole text. -/
def parR (l : Bs) : Option (List (Bs × Bs)) :=
  match par l with
  | some (ys, []) => some (ys.map fun x => (x.1, valOf x.2))
  | _ => none
def innR (l : Bs) : Option (List (Bs × Bs)) :=
  match inn l with
  | some (ys, []) => some ys
  | _ => none
def itm (l : Bs) : Option ((Bs × Bs) × Bs) :=
  match bare l with
  | none => none
  | some r1 =>
    match par r1 with
    | none => none
    | some (_, r2) => some ((ahead l r1, ahead r1 r2), r2)
def itmR (l : Bs) : Option (List (Bs × Bs)) :=
  match itm l with
  | some (x, []) => some [x]
  | _ => none

/-- A parse with a closure. -/
def PPost (B C : Nat) (R : Option (List (Bs × Bs))) (w : World) (e : Ending) (w' : World) : Prop :=
  Below B w w' ∧ ((R = none ∧ e = .returned (.bool false) ∧ ∃ ps, Cap w' C B ps) ∨ ∃ ps, R = some (psL ps) ∧ e = .returned (.bool true) ∧ Cap w' C B ps)
/-- What impl's functions give. -/
def ImpPost (R : Option (List (Bs × Bs))) (w : World) (e : Ending) (w' : World) : Prop :=
  Gr w w' ∧ ((R = none ∧ ∃ v, e = .returned (.tuple #[v, .bool false])) ∨ ∃ v ps, R = some (psL ps) ∧ e = .returned (.tuple #[v, .bool true]) ∧ OwnP w' w.heap.size 41 v ps)

/-- consumeItem with the closure. -/
def CItmPost (B C : Nat) (s : ByteArray) (w : World) (e : Ending) (w' : World) : Prop :=
  Below B w w' ∧ ((itm (bl s) = none ∧ Nope e ∧ ∃ ps, Cap w' C B ps) ∨ ∃ x r ps, itm (bl s) = some (x, r) ∧ Took s r e ∧ psL ps = [x] ∧ Cap w' C B ps)

set_option maxHeartbeats 2000000 in
theorem consumeItem_clo (B C : Nat) (s : ByteArray) (w : World) (hs : s.size ≤ 4294967296) (hT : Lib.Utf8Tabs 0 1 w) (hBC : B ≤ C) (hBw : B ≤ w.heap.size) (hcap : Cap w C B []) :
    Calls Tryd.prog 69 #[.string s, .func (.func 40) #[] #[.pointer (some ⟨C, 0, none⟩)]] w fun e w' => CItmPost B C s w e w' := by
  have HT := hid hT
  have HCP := hid hcap
  clear hT hcap
  have hnf : ∀ W : World, (binOp .neq 68 (.func (.func 40) #[] #[.pointer (some ⟨C, 0, none⟩)]) .nilFunc).run Tryd.prog W = .ok (.bool true) W := fun W => by kernel_rfl
  go_enter Tryd.func69, Tryd.ntmps69
  go_wp2_with fail
  refine (consumeBareItem_any _ _ hs HT.out).mono ?_
  rintro e w1 ⟨hp, hg1⟩
  have HG1 := hid (show Below B w w1 from Below.mono hg1 hBw)
  have HT1 := hid (Utf8Tabs_below HT.out hg1)
  have HCP1 := hid (HCP.out.gr hg1)
  clear hg1
  rcases opt_some hp with ⟨hb, a, b, rfl⟩ | ⟨r1, hb, a, b, rfl, ha, hbb⟩
  · have HX := hid (show itm (bl s) = none by unfold itm; rw [hb])
    clear hp hb
    go_wp2_with fail
    go_ret3
    exact ⟨HG1.out, .inl ⟨HX.out, ⟨_, _, rfl⟩, _, HCP1.out⟩⟩
  · have hbs : b.size ≤ s.size := by have := bare_le hb; have h1 := size_of _ _ hbb; rw [bl_length] at this; omega
    have HBN := hid hb
    have HA := hid ha
    have HBB := hid hbb
    clear hp hb ha hbb
    go_wp2_with fail
    refine (consumeParameter_nil _ _ (by omega) HT1.out).mono ?_
    rintro e w2 ⟨hp, hg2⟩
    rw [HBB.out] at hp
    have HG2 := hid (HG1.out.trans (Below.mono hg2 (by have := HG1.out.size; omega)))
    have HCP2 := hid (HCP1.out.gr hg2)
    clear hg2
    cases hpr : par r1 with
    | none =>
      rw [hpr] at hp
      obtain ⟨c, d, rfl⟩ := hp
      have HX := hid (show itm (bl s) = none by unfold itm; rw [HBN.out]; simp only [hpr])
      clear hpr
      go_wp2_with fail
      go_ret3
      exact ⟨HG2.out, .inl ⟨HX.out, ⟨_, _, rfl⟩, _, HCP2.out⟩⟩
    | some z =>
      obtain ⟨zs, r2⟩ := z
      rw [hpr] at hp
      obtain ⟨c, d, rfl, hc, hd⟩ := hp
      rw [HBB.out] at hc
      have HX := hid (show itm (bl s) = some ((ahead (bl s) r1, ahead r1 r2), r2) by unfold itm; rw [HBN.out]; simp only [hpr])
      have hds : d.size ≤ s.size := by have := par_len hpr; have h1 := size_of _ _ hd; have h2 := bare_le HBN.out; rw [bl_length] at h2; simp only at h1; omega
      have HC := hid hc
      have HD := hid hd
      clear hpr hc hd
      go_wp2_with fail
      refine (cloItem B C B _ _ [] _ (Nat.le_refl _) hBC (by have := HG2.out.size; omega) HCP2.out (by simp)).mono ?_
      rintro e w3 ⟨rfl, hc3, hg3⟩
      have HC3 := hid hc3
      have HG3 := hid (HG2.out.trans hg3)
      clear hc3 hg3
      go_wp2_with fail
      go_ret3
      have hcut := cut_at s d
      rw [HD.out] at hcut
      exact ⟨HG3.out, .inr ⟨_, _, _, HX.out, ⟨_, _, rfl, hcut, HD.out⟩, by rw [psL_push, HA.out, HC.out]; rfl, HC3.out⟩⟩

set_option maxHeartbeats 1000000 in
theorem parseParameter_clo (B C : Nat) (s : ByteArray) (w : World) (hs : s.size ≤ 4294967296) (hT : Lib.Utf8Tabs 0 1 w) (hB2 : 2 ≤ B) (hBC : B ≤ C) (hBw : B ≤ w.heap.size) (hcap : Cap w C B []) :
    Calls Tryd.prog 36 #[.string s, .func (.func 37) #[] #[.pointer (some ⟨C, 0, none⟩)]] w fun e w' => PPost B C (parR (bl s)) w e w' := by
  have HT := hid hT
  have HCP := hid hcap
  clear hT hcap
  go_enter Tryd.func36, Tryd.ntmps36
  go_wp2_with fail
  refine (consumeParameter_clo B C s _ hs HT.out hB2 hBC hBw HCP.out).mono ?_
  rintro e w1 ⟨hg1, ⟨hn, ⟨a, b, rfl⟩, ps, hc⟩ | ⟨ys, r, ps, hn, ⟨a, b, rfl, _, hb⟩, hp, hc⟩⟩
  · have HX := hid (show parR (bl s) = none by unfold parR; rw [hn])
    clear hn
    have HG1 := hid hg1
    have HC := hid hc
    clear hg1 hc
    by_cases hb0 : b.toList = []
    all_goals
      go_wp2_with fail
      go_ret
      exact ⟨HG1.out, .inl ⟨HX.out, rfl, ps, HC.out⟩⟩
  · have HG1 := hid hg1
    have HC := hid hc
    clear hg1 hc
    cases r with
    | nil =>
      obtain rfl := bl_empty hb
      have HX := hid (show parR (bl s) = some (psL ps) by unfold parR; rw [hn]; simp [hp])
      clear hb hn
      go_wp2_with fail
      go_ret
      exact ⟨HG1.out, .inr ⟨ps, HX.out, rfl, HC.out⟩⟩
    | cons c r =>
      have HX := hid (show parR (bl s) = none by unfold parR; rw [hn])
      have hn1 : ¬ b.toList = [] := by rw [bl_toList, hb]; simp
      have hn2 : b.toList.isEmpty = false := by rw [bl_toList, hb]; rfl
      clear hb hn
      go_wp2_with fail
      go_ret
      exact ⟨HG1.out, .inl ⟨HX.out, rfl, ps, HC.out⟩⟩

set_option maxHeartbeats 1000000 in
theorem parseInner_clo (B C : Nat) (s : ByteArray) (w : World) (hs : s.size ≤ 4294967296) (hT : Lib.Utf8Tabs 0 1 w) (hB2 : 2 ≤ B) (hBC : B ≤ C) (hBw : B ≤ w.heap.size) (hcap : Cap w C B []) :
    Calls Tryd.prog 43 #[.string s, .func (.func 44) #[] #[.pointer (some ⟨C, 0, none⟩)]] w fun e w' => PPost B C (innR (bl s)) w e w' := by
  have HT := hid hT
  have HCP := hid hcap
  clear hT hcap
  go_enter Tryd.func43, Tryd.ntmps43
  go_wp2_with fail
  refine (consumeInner_clo B C s _ hs HT.out hB2 hBC hBw HCP.out).mono ?_
  rintro e w1 ⟨hg1, ⟨hn, ⟨a, b, rfl⟩, ps, hc⟩ | ⟨ys, r, ps, hn, ⟨a, b, rfl, _, hb⟩, hp, hc⟩⟩
  · have HX := hid (show innR (bl s) = none by unfold innR; rw [hn])
    clear hn
    have HG1 := hid hg1
    have HC := hid hc
    clear hg1 hc
    by_cases hb0 : b.toList = []
    all_goals
      go_wp2_with fail
      go_ret
      exact ⟨HG1.out, .inl ⟨HX.out, rfl, ps, HC.out⟩⟩
  · have HG1 := hid hg1
    have HC := hid hc
    clear hg1 hc
    cases r with
    | nil =>
      obtain rfl := bl_empty hb
      have HX := hid (show innR (bl s) = some (psL ps) by unfold innR; rw [hn]; simp [hp])
      clear hb hn
      go_wp2_with fail
      go_ret
      exact ⟨HG1.out, .inr ⟨ps, HX.out, rfl, HC.out⟩⟩
    | cons c r =>
      have HX := hid (show innR (bl s) = none by unfold innR; rw [hn])
      have hn1 : ¬ b.toList = [] := by rw [bl_toList, hb]; simp
      have hn2 : b.toList.isEmpty = false := by rw [bl_toList, hb]; rfl
      clear hb hn
      go_wp2_with fail
      go_ret
      exact ⟨HG1.out, .inl ⟨HX.out, rfl, ps, HC.out⟩⟩

set_option maxHeartbeats 1000000 in
theorem parseItem_clo (B C : Nat) (s : ByteArray) (w : World) (hs : s.size ≤ 4294967296) (hT : Lib.Utf8Tabs 0 1 w) (_hB2 : 2 ≤ B) (hBC : B ≤ C) (hBw : B ≤ w.heap.size) (hcap : Cap w C B []) :
    Calls Tryd.prog 39 #[.string s, .func (.func 40) #[] #[.pointer (some ⟨C, 0, none⟩)]] w fun e w' => PPost B C (itmR (bl s)) w e w' := by
  have HT := hid hT
  have HCP := hid hcap
  clear hT hcap
  go_enter Tryd.func39, Tryd.ntmps39
  go_wp2_with fail
  refine (consumeItem_clo B C s _ hs HT.out hBC hBw HCP.out).mono ?_
  rintro e w1 ⟨hg1, ⟨hn, ⟨a, b, rfl⟩, ps, hc⟩ | ⟨x, r, ps, hn, ⟨a, b, rfl, _, hb⟩, hp, hc⟩⟩
  · have HX := hid (show itmR (bl s) = none by unfold itmR; rw [hn])
    clear hn
    have HG1 := hid hg1
    have HC := hid hc
    clear hg1 hc
    by_cases hb0 : b.toList = []
    all_goals
      go_wp2_with fail
      go_ret
      exact ⟨HG1.out, .inl ⟨HX.out, rfl, ps, HC.out⟩⟩
  · have HG1 := hid hg1
    have HC := hid hc
    clear hg1 hc
    cases r with
    | nil =>
      obtain rfl := bl_empty hb
      have HX := hid (show itmR (bl s) = some (psL ps) by unfold itmR; rw [hn]; simp [hp])
      clear hb hn
      go_wp2_with fail
      go_ret
      exact ⟨HG1.out, .inr ⟨ps, HX.out, rfl, HC.out⟩⟩
    | cons c r =>
      have HX := hid (show itmR (bl s) = none by unfold itmR; rw [hn])
      have hn1 : ¬ b.toList = [] := by rw [bl_toList, hb]; simp
      have hn2 : b.toList.isEmpty = false := by rw [bl_toList, hb]; rfl
      clear hb hn
      go_wp2_with fail
      go_ret
      exact ⟨HG1.out, .inl ⟨HX.out, rfl, ps, HC.out⟩⟩

set_option maxHeartbeats 1000000 in
theorem implParameters_any (s : ByteArray) (w : World) (hs : s.size ≤ 4294967296) (hT : Lib.Utf8Tabs 0 1 w) :
    Calls Tryd.prog 17 #[.string s] w fun e w' => ImpPost (parR (bl s)) w e w' := by
  have hw := tabs_two hT
  have hmf : ∀ (fn : Fn) (first cap : Array Value) (w : World), (Instr.makeFunc fn first cap).run Tryd.prog w = .ok (.func fn first cap) w := fun _ _ _ _ => rfl
  have HT := hid (Utf8Tabs_below hT ((Gr.refl w).alloc (.cells #[.slice none 0 0] 33)))
  have HCP := hid (Cap.start w)
  clear hT
  go_enter Tryd.func17, Tryd.ntmps17
  go_wp2_with fail
  refine (parseParameter_clo w.heap.size w.heap.size s _ hs HT.out hw (Nat.le_refl _) (by simp) HCP.out).mono ?_
  rintro e w1 ⟨hg1, ⟨hn, rfl, ps, v, hc, ho⟩ | ⟨ps, hn, rfl, v, hc, ho⟩⟩
  all_goals
    have HG1 := hid (show Gr w w1 from Below.trans ((Gr.refl w).alloc _) hg1)
    have HN := hid hn
    have HO := hid ho
    have HC := hid hc
    have c1 := cell_of_one hc
    have f1 := free_of_one hc
    clear hg1 hn hc
    rcases ho.row.2 with ⟨rfl, _⟩ | ⟨g, cap, cur, rfl, _⟩
  all_goals
    clear ho
    go_wp2_with fail
  · exact bodyPost_ret (v := .tuple #[.slice none 0 0, .bool false]) (by simp [results, Tryd.results17, go_sem, c1]) rfl ⟨HG1.out.setCell (Nat.le_refl _) _, .inl ⟨HN.out, _, rfl⟩⟩
  · exact bodyPost_ret (v := .tuple #[.slice (some ⟨g, 0, none⟩) ps.length cap, .bool false]) (by simp [results, Tryd.results17, go_sem, c1]) rfl ⟨HG1.out.setCell (Nat.le_refl _) _, .inl ⟨HN.out, _, rfl⟩⟩
  · exact bodyPost_ret (v := .tuple #[.slice none 0 0, .bool true]) (by simp [results, Tryd.results17, go_sem, c1]) rfl ⟨HG1.out.setCell (Nat.le_refl _) _, .inr ⟨_, ps, HN.out, rfl, ownsRow_setCell_other HO.out (ownB_ne HO.out.row HC.out (by decide)) _⟩⟩
  · exact bodyPost_ret (v := .tuple #[.slice (some ⟨g, 0, none⟩) ps.length cap, .bool true]) (by simp [results, Tryd.results17, go_sem, c1]) rfl ⟨HG1.out.setCell (Nat.le_refl _) _, .inr ⟨_, ps, HN.out, rfl, ownsRow_setCell_other HO.out (ownB_ne HO.out.row HC.out (by decide)) _⟩⟩

set_option maxHeartbeats 1000000 in
theorem implInner_any (s : ByteArray) (w : World) (hs : s.size ≤ 4294967296) (hT : Lib.Utf8Tabs 0 1 w) :
    Calls Tryd.prog 22 #[.string s] w fun e w' => ImpPost (innR (bl s)) w e w' := by
  have hw := tabs_two hT
  have hmf : ∀ (fn : Fn) (first cap : Array Value) (w : World), (Instr.makeFunc fn first cap).run Tryd.prog w = .ok (.func fn first cap) w := fun _ _ _ _ => rfl
  have HT := hid (Utf8Tabs_below hT ((Gr.refl w).alloc (.cells #[.slice none 0 0] 33)))
  have HCP := hid (Cap.start w)
  clear hT
  go_enter Tryd.func22, Tryd.ntmps22
  go_wp2_with fail
  refine (parseInner_clo w.heap.size w.heap.size s _ hs HT.out hw (Nat.le_refl _) (by simp) HCP.out).mono ?_
  rintro e w1 ⟨hg1, ⟨hn, rfl, ps, v, hc, ho⟩ | ⟨ps, hn, rfl, v, hc, ho⟩⟩
  all_goals
    have HG1 := hid (show Gr w w1 from Below.trans ((Gr.refl w).alloc _) hg1)
    have HN := hid hn
    have HO := hid ho
    have HC := hid hc
    have c1 := cell_of_one hc
    have f1 := free_of_one hc
    clear hg1 hn hc
    rcases ho.row.2 with ⟨rfl, _⟩ | ⟨g, cap, cur, rfl, _⟩
  all_goals
    clear ho
    go_wp2_with fail
  · exact bodyPost_ret (v := .tuple #[.slice none 0 0, .bool false]) (by simp [results, Tryd.results22, go_sem, c1]) rfl ⟨HG1.out.setCell (Nat.le_refl _) _, .inl ⟨HN.out, _, rfl⟩⟩
  · exact bodyPost_ret (v := .tuple #[.slice (some ⟨g, 0, none⟩) ps.length cap, .bool false]) (by simp [results, Tryd.results22, go_sem, c1]) rfl ⟨HG1.out.setCell (Nat.le_refl _) _, .inl ⟨HN.out, _, rfl⟩⟩
  · exact bodyPost_ret (v := .tuple #[.slice none 0 0, .bool true]) (by simp [results, Tryd.results22, go_sem, c1]) rfl ⟨HG1.out.setCell (Nat.le_refl _) _, .inr ⟨_, ps, HN.out, rfl, ownsRow_setCell_other HO.out (ownB_ne HO.out.row HC.out (by decide)) _⟩⟩
  · exact bodyPost_ret (v := .tuple #[.slice (some ⟨g, 0, none⟩) ps.length cap, .bool true]) (by simp [results, Tryd.results22, go_sem, c1]) rfl ⟨HG1.out.setCell (Nat.le_refl _) _, .inr ⟨_, ps, HN.out, rfl, ownsRow_setCell_other HO.out (ownB_ne HO.out.row HC.out (by decide)) _⟩⟩

set_option maxHeartbeats 1000000 in
theorem implItem_any (s : ByteArray) (w : World) (hs : s.size ≤ 4294967296) (hT : Lib.Utf8Tabs 0 1 w) :
    Calls Tryd.prog 20 #[.string s] w fun e w' => ImpPost (itmR (bl s)) w e w' := by
  have hw := tabs_two hT
  have hmf : ∀ (fn : Fn) (first cap : Array Value) (w : World), (Instr.makeFunc fn first cap).run Tryd.prog w = .ok (.func fn first cap) w := fun _ _ _ _ => rfl
  have HT := hid (Utf8Tabs_below hT ((Gr.refl w).alloc (.cells #[.slice none 0 0] 33)))
  have HCP := hid (Cap.start w)
  clear hT
  go_enter Tryd.func20, Tryd.ntmps20
  go_wp2_with fail
  refine (parseItem_clo w.heap.size w.heap.size s _ hs HT.out hw (Nat.le_refl _) (by simp) HCP.out).mono ?_
  rintro e w1 ⟨hg1, ⟨hn, rfl, ps, v, hc, ho⟩ | ⟨ps, hn, rfl, v, hc, ho⟩⟩
  all_goals
    have HG1 := hid (show Gr w w1 from Below.trans ((Gr.refl w).alloc _) hg1)
    have HN := hid hn
    have HO := hid ho
    have HC := hid hc
    have c1 := cell_of_one hc
    have f1 := free_of_one hc
    clear hg1 hn hc
    rcases ho.row.2 with ⟨rfl, _⟩ | ⟨g, cap, cur, rfl, _⟩
  all_goals
    clear ho
    go_wp2_with fail
  · exact bodyPost_ret (v := .tuple #[.slice none 0 0, .bool false]) (by simp [results, Tryd.results20, go_sem, c1]) rfl ⟨HG1.out.setCell (Nat.le_refl _) _, .inl ⟨HN.out, _, rfl⟩⟩
  · exact bodyPost_ret (v := .tuple #[.slice (some ⟨g, 0, none⟩) ps.length cap, .bool false]) (by simp [results, Tryd.results20, go_sem, c1]) rfl ⟨HG1.out.setCell (Nat.le_refl _) _, .inl ⟨HN.out, _, rfl⟩⟩
  · exact bodyPost_ret (v := .tuple #[.slice none 0 0, .bool true]) (by simp [results, Tryd.results20, go_sem, c1]) rfl ⟨HG1.out.setCell (Nat.le_refl _) _, .inr ⟨_, ps, HN.out, rfl, ownsRow_setCell_other HO.out (ownB_ne HO.out.row HC.out (by decide)) _⟩⟩
  · exact bodyPost_ret (v := .tuple #[.slice (some ⟨g, 0, none⟩) ps.length cap, .bool true]) (by simp [results, Tryd.results20, go_sem, c1]) rfl ⟨HG1.out.setCell (Nat.le_refl _) _, .inr ⟨_, ps, HN.out, rfl, ownsRow_setCell_other HO.out (ownB_ne HO.out.row HC.out (by decide)) _⟩⟩

end Go.Proofs.YtohjnegllfdemaaDoor
