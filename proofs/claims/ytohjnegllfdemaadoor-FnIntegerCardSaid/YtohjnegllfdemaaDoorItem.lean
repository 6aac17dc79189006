/-
  The walk of spec.Item.
-/
import Derived.Test.YtohjnegllfdemaaDoorSDsp
import Derived.Test.YtohjnegllfdemaaDoorBool
import Derived.RegionTactic
import Derived.ChangeAlike
import Derived.BigRegion
import Derived.Deep.RegionWith
set_option maxRecDepth 100000
namespace Go.Proofs.YtohjnegllfdemaaDoor
open Go.RowKit

/-- A bare item and whether there is one. -/
def BareE (kind : Int) (t v : ByteArray) (odd ok : Bool) : Ending := .returned (.tuple #[.agg #[.int .i64 kind, .string t, .string v, .bool odd], .bool ok])

theorem Gr.setCell {a b : World} (h : Gr a b) {p : Addr} (hp : a.heap.size ≤ p.block) (u : Value) : Gr a (b.setCell p u) := Below.setCell h hp u

/-- What is known of a block that lay before a call: its cells, and that none is frozen. -/
theorem blk_cell {w w1 : World} {cs : Array Value} {e : TypeId} (hg : Gr (w.alloc (.cells cs e)) w1) (j : Nat) : w1.cell? ⟨w.heap.size, j, none⟩ = cs[j]? := by
  have h := Below.cell hg (p := ⟨w.heap.size, j, none⟩) (by simp)
  rw [h]
  simp only [World.cell?, heap_alloc_new]
  simp
theorem blk_frozen {w w1 : World} {cs : Array Value} {e : TypeId} (hg : Gr (w.alloc (.cells cs e)) w1) (j : Nat) : w1.frozen? ⟨w.heap.size, j, none⟩ = false := by
  have h := Below.frozen hg (p := ⟨w.heap.size, j, none⟩) (by simp)
  rw [h]
  simp only [World.frozen?, heap_alloc_new]
  simp

/-- U+FFFD. -/
def fffd : Bs := [239, 191, 189]

/-- What Item says of a text: the kind, the text and the value of its bare item; whether it is left out; whether there is one. -/
def ItemRel (l : Bs) (kind : Int) (t v : Bs) (odd ok : Bool) : Prop :=
  match l with
  | [] => kind = 0 ∧ odd = false ∧ ok = false
  | c :: _ =>
    if c.toNat == 45 || digB c.toNat then
      (odd = false ∧ match num l with
        | none => kind = 1 ∧ ok = false
        | some (d, r) => kind = (if d then 2 else 1) ∧ ok = true ∧ t = ahead l r ∧ r.length ≤ l.length)
    else if c.toNat == 34 then
      (kind = 3 ∧ odd = false ∧ match str l with
        | none => ok = false
        | some r => ok = true ∧ t = ahead l r ∧ r.length ≤ l.length)
    else if c.toNat == 42 || alpB c.toNat then
      (kind = 4 ∧ odd = false ∧ ok = true ∧ ∃ r, tok l = some r ∧ t = ahead l r ∧ r.length ≤ l.length ∧ v = t)
    else if c.toNat == 58 then
      (kind = 5 ∧ (∃ n, n ≤ l.length ∧ t = l.take n) ∧ (odd = true → ok = true) ∧ (odd = false → match byt l with
        | none => ok = false
        | some r => ok = true ∧ t = ahead l r ∧ r.length ≤ l.length))
    else if c.toNat == 63 then
      (odd = false ∧ match boo l with
        | none => kind = 0 ∧ ok = false
        | some r => kind = 6 ∧ ok = true ∧ t = ahead l r ∧ r.length ≤ l.length)
    else if c.toNat == 64 then
      (kind = 7 ∧ odd = false ∧ match dat l with
        | none => ok = false
        | some r => ok = true ∧ t = ahead l r ∧ r.length ≤ l.length)
    else if c.toNat == 37 then
      (kind = 8 ∧ match dspS l with
        | none => ok = false ∧ odd = false
        | some (o, r) => ok = validU o ∧ odd = hasB fffd o ∧ t = ahead l r ∧ r.length ≤ l.length ∧ v = o)
    else kind = 0 ∧ odd = false ∧ ok = false

theorem bl_append (a b : ByteArray) : bl (a ++ b) = bl a ++ bl b := by simp [bl]
theorem ahead_cons {l r t : Bs} {c : UInt8} (hl : l = c :: t) (hr : r.length ≤ t.length) : ahead l r = bl ⟨#[c]⟩ ++ ahead t r := by
  subst hl
  simp only [ahead, List.length_cons]
  rw [show t.length + 1 - r.length = (t.length - r.length) + 1 from by omega, List.take_succ_cons]
  rfl
theorem ownI_strings {w : World} {base : Nat} {v : Value} (h : OwnI w base v) : ∃ t : ByteArray, ∀ W, Gr w W → (convert 80 9 v).run Tryd.prog W = .ok (.string t) W := by
  obtain ⟨xs, h⟩ := h
  refine ⟨strOfNums xs, fun W hW => ?_⟩
  have h' : W.ownsRow base 5 1 v xs.length (xs.map (Value.int .u8)) := by
    refine World.ownsRow.kept h (row := none) ⟨hW.os, hW.tape, hW.output, hW.size, fun i hi _ => hW.block i hi⟩ ?_
    cases v.ownBlock with
    | none => exact .inl rfl
    | some b => exact .inr (by simp)
  obtain ⟨hl, hv | ⟨g, cap, cur, hv, hg, hh, hn, hm, hs, ht⟩⟩ := h'
  · obtain ⟨rfl, h0⟩ := hv
    have : xs = [] := List.eq_nil_of_length_eq_zero h0
    subst this
    rw [run_convert_bytes_string _ _ _ _ _ _ _ Tryd.underlying80 Tryd.underlying5 Tryd.underlying9]
    rfl
  · subst hv
    have hcell : ∀ i, i < xs.length → W.cell? ⟨g, 0 + i, none⟩ = some (.int .u8 (xs.getD i 0)) := by
      intro i hi
      have h1 : (cur.toList.take (xs.length * 1))[i]? = some (.int .u8 (xs[i])) := by rw [ht]; simp [hi]
      rw [List.getElem?_take, if_pos (by omega)] at h1
      simp only [World.cell?, hh]
      simpa [hi] using h1
    exact run_convert_bytes_arg W 80 5 Tryd.underlying80 Tryd.underlying5 g 0 xs.length cap xs rfl hcell 9 Tryd.underlying9

def ItemPost (s : ByteArray) (e : Ending) : Prop := ∃ (kind : Int) (t v : ByteArray) (odd ok : Bool), e = BareE kind t v odd ok ∧ ItemRel (bl s) kind (bl t) (bl v) odd ok

theorem has_l (s t : ByteArray) (b : Bool) (w : World) (hs : s.size ≤ 2147483647) (ht : t.size ≤ 2147483647) (ht0 : 0 < t.size) (hb : hasB (bl t) (bl s) = b) :
    Calls Tryd.prog 61 #[.string s, .string t] w fun e w' => e = .returned (.bool b) ∧ w = w' := by
  subst hb
  exact has_any s t w hs ht ht0
theorem dspT_le : ∀ (n : Nat) (l o r : Bs), l.length ≤ n → dspT l = some (o, r) → o.length + r.length ≤ l.length := by
  intro n
  induction n with
  | zero =>
    intro l o r hl h
    cases l with
    | nil => rw [dspT.eq_def] at h; cases h
    | cons _ _ => simp at hl
  | succ n ih =>
    intro l o r hl h
    cases l with
    | nil => rw [dspT.eq_def] at h; cases h
    | cons c t =>
      rw [dspT.eq_def] at h
      dsimp only at h
      simp only [List.length_cons] at hl ⊢
      split at h
      · split at h
        · cases h
          simp
        · split at h
          · split at h
            · split at h
              · rename_i a b r' _
                simp only [List.length_cons] at hl ⊢
                cases hx : dspT r' with
                | none => rw [hx] at h; cases h
                | some x =>
                  rw [hx] at h
                  cases h
                  have := ih r' x.1 x.2 (by omega) hx
                  simp only [List.length_cons]
                  omega
              · cases h
            · cases h
          · cases hx : dspT t with
            | none => rw [hx] at h; cases h
            | some x =>
              rw [hx] at h
              cases h
              have := ih t x.1 x.2 (by omega) hx
              simp only [List.length_cons]
              omega
      · cases h
theorem dspS_le {l o r : Bs} (h : dspS l = some (o, r)) : o.length ≤ l.length := by
  unfold dspS at h
  split at h
  · split at h
    · rename_i t _
      have := dspT_le t.length t o r (Nat.le_refl _) h
      simp only [List.length_cons]
      omega
    · cases h
  · cases h

theorem ahead_extract (s : ByteArray) (r : Bs) (_hl : r.length ≤ s.size) : bl (s.extract 0 (s.size - r.length)) = ahead (bl s) r := by
  rw [bl_upto, ahead, bl_length]

theorem natT {a n : Nat} (h : ((a : Int) == (n : Int)) = true) : (a == n) = true := by rw [beq_iff_eq] at *; omega
theorem natF {a n : Nat} (h : ((a : Int) == (n : Int)) = false) : (a == n) = false := by rw [beq_eq_false_iff_ne] at *; omega

set_option maxRecDepth 100000 in
set_option maxHeartbeats 1000000 in
theorem item_empty (s : ByteArray) (w : World) (h0 : bl s = []) :
    Calls Tryd.prog 30 #[.string s] w fun e w' => ItemPost s e ∧ Gr w w' := by
  have hne : s.toList.isEmpty = true := by rw [bl_toList, h0]; rfl
  have H0 := hid h0
  clear h0
  go_enter Tryd.func30, Tryd.ntmps30
  go_wp2_with fail
  refine bodyPost_ret (v := .tuple #[.agg #[.int .i64 0, .string ⟨#[]⟩, .string ⟨#[]⟩, .bool false], .bool false]) (by simp [results, Tryd.results30, go_sem]) rfl ⟨⟨_, _, _, _, _, rfl, ?_⟩, ((Gr.refl _).alloc _)⟩
  rw [H0.out]
  exact ⟨rfl, rfl, rfl⟩
set_option maxRecDepth 100000 in
set_option maxHeartbeats 1000000 in
theorem item_minus (s : ByteArray) (w : World) (hs : s.size ≤ 2147483647) (h0 : 0 < s.size) (hc : (((s[0]).toNat : Int) == 45) = true) :
    Calls Tryd.prog 30 #[.string s] w fun e w' => ItemPost s e ∧ Gr w w' := by
  have hne : s.toList.isEmpty = false := notEmpty h0
  have e1 := bl_one s h0
  have hR : ∀ kind t v odd ok, ItemRel (bl s) kind t v odd ok ↔ (odd = false ∧ match num (bl s) with
        | none => kind = 1 ∧ ok = false
        | some (d, r) => kind = (if d then 2 else 1) ∧ ok = true ∧ t = ahead (bl s) r ∧ r.length ≤ (bl s).length) := by
    intro kind t v odd ok
    obtain ⟨l, hl⟩ : ∃ l, bl s = s[0] :: l := ⟨_, e1⟩
    rw [hl]
    unfold ItemRel
    dsimp only
    rw [if_pos (by have := natT hc; rw [this]; rfl)]
  have HR := hid hR
  clear e1 hR
  go_enter Tryd.func30, Tryd.ntmps30
  go_wp2_with (go_at_call 54; refine (digit_any _ _).mono ?_; rintro e w' ⟨rfl, rfl⟩)
  refine (Number_any s _ hs).mono ?_
  rintro e w1 ⟨hp, rfl⟩
  cases hn : num (bl s) with
  | none =>
    rw [hn] at hp
    obtain rfl := hp
    have Hn := hid hn
    clear hn
    go_wp2_with fail
    refine bodyPost_ret (v := .tuple #[.agg #[.int .i64 1, .string ⟨#[]⟩, .string ⟨#[]⟩, .bool false], .bool false]) (by simp [results, Tryd.results30, go_sem]) rfl ⟨⟨_, _, _, _, _, rfl, ?_⟩, ((Gr.refl _).alloc _)⟩
    · rw [HR.out, Hn.out]
      exact ⟨rfl, rfl, rfl⟩

  | some x =>
    obtain ⟨d, r⟩ := x
    rw [hn] at hp
    obtain ⟨c, rfl, hcl, hrl⟩ := hp
    have Hn := hid hn
    have Hc := hid hcl
    clear hn hcl
    cases d
    · go_wp2_with fail
      refine bodyPost_ret (v := .tuple #[.agg #[.int .i64 1, .string c, .string ⟨#[]⟩, .bool false], .bool true]) (by simp [results, Tryd.results30, go_sem]) rfl ⟨⟨_, _, _, _, _, rfl, ?_⟩, ((Gr.refl _).alloc _)⟩
      · rw [HR.out, Hn.out]
        exact ⟨rfl, rfl, rfl, Hc.out, by rw [bl_length]; exact hrl⟩

    · go_wp2_with fail
      refine bodyPost_ret (v := .tuple #[.agg #[.int .i64 2, .string c, .string ⟨#[]⟩, .bool false], .bool true]) (by simp [results, Tryd.results30, go_sem]) rfl ⟨⟨_, _, _, _, _, rfl, ?_⟩, ((Gr.refl _).alloc _)⟩
      · rw [HR.out, Hn.out]
        exact ⟨rfl, rfl, rfl, Hc.out, by rw [bl_length]; exact hrl⟩
set_option maxRecDepth 100000 in
set_option maxHeartbeats 1000000 in
theorem item_digit (s : ByteArray) (w : World) (hs : s.size ≤ 2147483647) (h0 : 0 < s.size) (hc : digB (s[0]).toNat = true) :
    Calls Tryd.prog 30 #[.string s] w fun e w' => ItemPost s e ∧ Gr w w' := by
  have hne : s.toList.isEmpty = false := notEmpty h0
  have q45 : (((s[0]).toNat : Int) == 45) = false := eqF (n := 45) (by intro e; rw [e] at hc; exact absurd hc (by decide))
  have e1 := bl_one s h0
  have hR : ∀ kind t v odd ok, ItemRel (bl s) kind t v odd ok ↔ (odd = false ∧ match num (bl s) with
        | none => kind = 1 ∧ ok = false
        | some (d, r) => kind = (if d then 2 else 1) ∧ ok = true ∧ t = ahead (bl s) r ∧ r.length ≤ (bl s).length) := by
    intro kind t v odd ok
    obtain ⟨l, hl⟩ : ∃ l, bl s = s[0] :: l := ⟨_, e1⟩
    rw [hl]
    unfold ItemRel
    dsimp only
    rw [if_pos (by rw [hc, Bool.or_true])]
  have HR := hid hR
  clear e1 hR
  go_enter Tryd.func30, Tryd.ntmps30
  go_wp2_with (go_at_call 54; refine (digit_any _ _).mono ?_; rintro e w' ⟨rfl, rfl⟩)
  refine (Number_any s _ hs).mono ?_
  rintro e w1 ⟨hp, rfl⟩
  cases hn : num (bl s) with
  | none =>
    rw [hn] at hp
    obtain rfl := hp
    have Hn := hid hn
    clear hn
    go_wp2_with fail
    refine bodyPost_ret (v := .tuple #[.agg #[.int .i64 1, .string ⟨#[]⟩, .string ⟨#[]⟩, .bool false], .bool false]) (by simp [results, Tryd.results30, go_sem]) rfl ⟨⟨_, _, _, _, _, rfl, ?_⟩, ((Gr.refl _).alloc _)⟩
    · rw [HR.out, Hn.out]
      exact ⟨rfl, rfl, rfl⟩

  | some x =>
    obtain ⟨d, r⟩ := x
    rw [hn] at hp
    obtain ⟨c, rfl, hcl, hrl⟩ := hp
    have Hn := hid hn
    have Hc := hid hcl
    clear hn hcl
    cases d
    · go_wp2_with fail
      refine bodyPost_ret (v := .tuple #[.agg #[.int .i64 1, .string c, .string ⟨#[]⟩, .bool false], .bool true]) (by simp [results, Tryd.results30, go_sem]) rfl ⟨⟨_, _, _, _, _, rfl, ?_⟩, ((Gr.refl _).alloc _)⟩
      · rw [HR.out, Hn.out]
        exact ⟨rfl, rfl, rfl, Hc.out, by rw [bl_length]; exact hrl⟩

    · go_wp2_with fail
      refine bodyPost_ret (v := .tuple #[.agg #[.int .i64 2, .string c, .string ⟨#[]⟩, .bool false], .bool true]) (by simp [results, Tryd.results30, go_sem]) rfl ⟨⟨_, _, _, _, _, rfl, ?_⟩, ((Gr.refl _).alloc _)⟩
      · rw [HR.out, Hn.out]
        exact ⟨rfl, rfl, rfl, Hc.out, by rw [bl_length]; exact hrl⟩
set_option maxRecDepth 100000 in
set_option maxHeartbeats 1000000 in
theorem item_str (s : ByteArray) (w : World) (hs : s.size ≤ 2147483647) (h0 : 0 < s.size) (hc : (((s[0]).toNat : Int) == 34) = true) :
    Calls Tryd.prog 30 #[.string s] w fun e w' => ItemPost s e ∧ Gr w w' := by
  have hne : s.toList.isEmpty = false := notEmpty h0
  have hn : (s[0]).toNat = 34 := by have := beq_iff_eq.1 hc; omega
  have q45 : (((s[0]).toNat : Int) == 45) = false := eqF (n := 45) (by omega)
  have q42 : (((s[0]).toNat : Int) == 42) = false := eqF (n := 42) (by omega)
  have q58 : (((s[0]).toNat : Int) == 58) = false := eqF (n := 58) (by omega)
  have q63 : (((s[0]).toNat : Int) == 63) = false := eqF (n := 63) (by omega)
  have q64 : (((s[0]).toNat : Int) == 64) = false := eqF (n := 64) (by omega)
  have q37 : (((s[0]).toNat : Int) == 37) = false := eqF (n := 37) (by omega)
  have hd : digB (s[0]).toNat = false := by rw [hn]; decide
  have ha : alpB (s[0]).toNat = false := by rw [hn]; decide
  have e1 := bl_one s h0
  have hN := hid hn
  clear hn
  have hR : ∀ kind t v odd ok, ItemRel (bl s) kind t v odd ok ↔ (kind = 3 ∧ odd = false ∧ match str (bl s) with
        | none => ok = false
        | some r => ok = true ∧ t = ahead (bl s) r ∧ r.length ≤ (bl s).length) := by
    intro kind t v odd ok
    obtain ⟨l, hl⟩ : ∃ l, bl s = s[0] :: l := ⟨_, e1⟩
    rw [hl]
    unfold ItemRel
    dsimp only
    rw [if_neg (by rw [natF (n := 45) q45, hd]; decide)]
    rw [if_pos (by exact natT hc)]
  have HR := hid hR
  clear e1 hR
  cases hx : str (bl s) with
  | none =>
    go_enter Tryd.func30, Tryd.ntmps30
    go_wp2_with (first | (go_at_call 54; refine (digit_any _ _).mono ?_; rintro e w' ⟨rfl, rfl⟩) | (go_at_call 57; refine (letter_any _ _).mono ?_; rintro e w' ⟨rfl, rfl⟩))
    refine (quoted_none s _ hs hx).mono ?_
    rintro e w1 ⟨rfl, hg⟩
    have Hx := hid hx
    clear hx
    have c0 := blk_cell hg 0
    have c1 := blk_cell hg 1
    have c2 := blk_cell hg 2
    have c3 := blk_cell hg 3
    have f0 := blk_frozen hg 0
    have f1 := blk_frozen hg 1
    have f2 := blk_frozen hg 2
    have f3 := blk_frozen hg 3
    simp at c0 c1 c2 c3
    go_wp2_with fail
    refine bodyPost_ret (v := .tuple #[.agg #[.int .i64 3, .string (s.extract 0 0), .string ⟨#[]⟩, .bool false], .bool false]) (by simp [results, Tryd.results30, go_sem, c0, c1, c2, c3]) rfl ⟨⟨_, _, _, _, _, rfl, ?_⟩, (((((((Gr.refl w).alloc _).trans hg).setCell (Nat.le_refl _) _).setCell (Nat.le_refl _) _).setCell (Nat.le_refl _) _).setCell (Nat.le_refl _) _)⟩
    · rw [HR.out, Hx.out]
      exact ⟨rfl, rfl, rfl⟩
  | some r =>
    go_enter Tryd.func30, Tryd.ntmps30
    go_wp2_with (first | (go_at_call 54; refine (digit_any _ _).mono ?_; rintro e w' ⟨rfl, rfl⟩) | (go_at_call 57; refine (letter_any _ _).mono ?_; rintro e w' ⟨rfl, rfl⟩))
    refine (quoted_some s r _ hs hx).mono ?_
    rintro e w1 ⟨⟨v, rfl, hl⟩, hg⟩
    have Hx := hid hx
    clear hx
    have c0 := blk_cell hg 0
    have c1 := blk_cell hg 1
    have c2 := blk_cell hg 2
    have c3 := blk_cell hg 3
    have f0 := blk_frozen hg 0
    have f1 := blk_frozen hg 1
    have f2 := blk_frozen hg 2
    have f3 := blk_frozen hg 3
    simp at c0 c1 c2 c3
    go_wp2_with fail
    refine bodyPost_ret (v := .tuple #[.agg #[.int .i64 3, .string (s.extract 0 (s.size - r.length)), .string v, .bool false], .bool true]) (by simp [results, Tryd.results30, go_sem, c0, c1, c2, c3]) rfl ⟨⟨_, _, _, _, _, rfl, ?_⟩, (((((((Gr.refl w).alloc _).trans hg).setCell (Nat.le_refl _) _).setCell (Nat.le_refl _) _).setCell (Nat.le_refl _) _).setCell (Nat.le_refl _) _)⟩
    · rw [HR.out, Hx.out]
      exact ⟨rfl, rfl, rfl, ahead_extract s r hl, by rw [bl_length]; exact hl⟩
set_option maxRecDepth 100000 in
set_option maxHeartbeats 1000000 in
theorem item_star (s : ByteArray) (w : World) (hs : s.size ≤ 2147483647) (h0 : 0 < s.size) (hc : (((s[0]).toNat : Int) == 42) = true) :
    Calls Tryd.prog 30 #[.string s] w fun e w' => ItemPost s e ∧ Gr w w' := by
  have hne : s.toList.isEmpty = false := notEmpty h0
  have hn : (s[0]).toNat = 42 := by have := beq_iff_eq.1 hc; omega
  have q45 : (((s[0]).toNat : Int) == 45) = false := eqF (n := 45) (by omega)
  have q34 : (((s[0]).toNat : Int) == 34) = false := eqF (n := 34) (by omega)
  have q58 : (((s[0]).toNat : Int) == 58) = false := eqF (n := 58) (by omega)
  have q63 : (((s[0]).toNat : Int) == 63) = false := eqF (n := 63) (by omega)
  have q64 : (((s[0]).toNat : Int) == 64) = false := eqF (n := 64) (by omega)
  have q37 : (((s[0]).toNat : Int) == 37) = false := eqF (n := 37) (by omega)
  have hd : digB (s[0]).toNat = false := by rw [hn]; decide
  have ha : alpB (s[0]).toNat = false := by rw [hn]; decide
  have e1 := bl_one s h0
  have hN := hid hn
  clear hn
  have HT : Hid ((alpB (s[0]).toNat || (s[0]).toNat == 42) = true) := hid (by rw [natT (n := 42) hc, Bool.or_true])
  have hR : ∀ kind t v odd ok, ItemRel (bl s) kind t v odd ok ↔ (kind = 4 ∧ odd = false ∧ ok = true ∧ ∃ r, tok (bl s) = some r ∧ t = ahead (bl s) r ∧ r.length ≤ (bl s).length ∧ v = t) := by
    intro kind t v odd ok
    obtain ⟨l, hl⟩ : ∃ l, bl s = s[0] :: l := ⟨_, e1⟩
    rw [hl]
    unfold ItemRel
    dsimp only
    rw [if_neg (by rw [natF (n := 45) q45, hd]; decide)]
    rw [if_neg (by rw [natF (n := 34) q34]; decide)]
    rw [if_pos (by rw [natT (n := 42) hc]; rfl)]
  have HR := hid hR
  clear e1 hR
  obtain ⟨r, hx⟩ : ∃ r, tok (bl s) = some r := by
    rw [bl_one s h0, tok]
    exact ⟨_, if_pos HT.out⟩
  go_enter Tryd.func30, Tryd.ntmps30
  go_wp2_with (first | (go_at_call 54; refine (digit_any _ _).mono ?_; rintro e w' ⟨rfl, rfl⟩) | (go_at_call 57; refine (letter_any _ _).mono ?_; rintro e w' ⟨rfl, rfl⟩))
  refine (token_some s r _ hs hx).mono ?_
  rintro e w1 ⟨⟨rfl, hl⟩, rfl⟩
  have Hx := hid hx
  clear hx
  go_wp2_with fail
  go_region
  go_wp2_with fail
  refine bodyPost_ret (v := .tuple #[.agg #[.int .i64 4, .string (s.extract 0 (s.size - r.length)), .string (s.extract 0 (s.size - r.length)), .bool false], .bool true]) (by simp [results, Tryd.results30, go_sem]) rfl ⟨⟨_, _, _, _, _, rfl, ?_⟩, ((Gr.refl _).alloc _).drew⟩
  · rw [HR.out]
    exact ⟨rfl, rfl, rfl, r, Hx.out, ahead_extract s r hl, by rw [bl_length]; exact hl, rfl⟩
set_option maxRecDepth 100000 in
set_option maxHeartbeats 1000000 in
theorem item_alpha (s : ByteArray) (w : World) (hs : s.size ≤ 2147483647) (h0 : 0 < s.size) (hc : alpB (s[0]).toNat = true) :
    Calls Tryd.prog 30 #[.string s] w fun e w' => ItemPost s e ∧ Gr w w' := by
  have hne : s.toList.isEmpty = false := notEmpty h0
  have hb : 65 ≤ (s[0]).toNat ∧ (s[0]).toNat ≤ 90 ∨ 97 ≤ (s[0]).toNat ∧ (s[0]).toNat ≤ 122 := by simp [alpB, lowB, uppB] at hc; omega
  have q45 : (((s[0]).toNat : Int) == 45) = false := eqF (n := 45) (by omega)
  have q34 : (((s[0]).toNat : Int) == 34) = false := eqF (n := 34) (by omega)
  have q42 : (((s[0]).toNat : Int) == 42) = false := eqF (n := 42) (by omega)
  have hd : digB (s[0]).toNat = false := by simp [digB]; omega
  have e1 := bl_one s h0
  clear hb
  have HT : Hid ((alpB (s[0]).toNat || (s[0]).toNat == 42) = true) := hid (by rw [hc, Bool.true_or])
  have hR : ∀ kind t v odd ok, ItemRel (bl s) kind t v odd ok ↔ (kind = 4 ∧ odd = false ∧ ok = true ∧ ∃ r, tok (bl s) = some r ∧ t = ahead (bl s) r ∧ r.length ≤ (bl s).length ∧ v = t) := by
    intro kind t v odd ok
    obtain ⟨l, hl⟩ : ∃ l, bl s = s[0] :: l := ⟨_, e1⟩
    rw [hl]
    unfold ItemRel
    dsimp only
    rw [if_neg (by rw [natF (n := 45) q45, hd]; decide)]
    rw [if_neg (by rw [natF (n := 34) q34]; decide)]
    rw [if_pos (by rw [hc, Bool.or_true])]
  have HR := hid hR
  clear e1 hR
  obtain ⟨r, hx⟩ : ∃ r, tok (bl s) = some r := by
    rw [bl_one s h0, tok]
    exact ⟨_, if_pos HT.out⟩
  go_enter Tryd.func30, Tryd.ntmps30
  go_wp2_with (first | (go_at_call 54; refine (digit_any _ _).mono ?_; rintro e w' ⟨rfl, rfl⟩) | (go_at_call 57; refine (letter_any _ _).mono ?_; rintro e w' ⟨rfl, rfl⟩))
  refine (token_some s r _ hs hx).mono ?_
  rintro e w1 ⟨⟨rfl, hl⟩, rfl⟩
  have Hx := hid hx
  clear hx
  go_wp2_with fail
  go_region
  go_wp2_with fail
  refine bodyPost_ret (v := .tuple #[.agg #[.int .i64 4, .string (s.extract 0 (s.size - r.length)), .string (s.extract 0 (s.size - r.length)), .bool false], .bool true]) (by simp [results, Tryd.results30, go_sem]) rfl ⟨⟨_, _, _, _, _, rfl, ?_⟩, ((Gr.refl _).alloc _).drew⟩
  · rw [HR.out]
    exact ⟨rfl, rfl, rfl, r, Hx.out, ahead_extract s r hl, by rw [bl_length]; exact hl, rfl⟩
set_option maxRecDepth 100000 in
set_option maxHeartbeats 1000000 in
theorem item_bool (s : ByteArray) (w : World) (hs : s.size ≤ 2147483647) (h0 : 0 < s.size) (hc : (((s[0]).toNat : Int) == 63) = true) :
    Calls Tryd.prog 30 #[.string s] w fun e w' => ItemPost s e ∧ Gr w w' := by
  have hne : s.toList.isEmpty = false := notEmpty h0
  have hn : (s[0]).toNat = 63 := by have := beq_iff_eq.1 hc; omega
  have q45 : (((s[0]).toNat : Int) == 45) = false := eqF (n := 45) (by omega)
  have q34 : (((s[0]).toNat : Int) == 34) = false := eqF (n := 34) (by omega)
  have q42 : (((s[0]).toNat : Int) == 42) = false := eqF (n := 42) (by omega)
  have q58 : (((s[0]).toNat : Int) == 58) = false := eqF (n := 58) (by omega)
  have q64 : (((s[0]).toNat : Int) == 64) = false := eqF (n := 64) (by omega)
  have q37 : (((s[0]).toNat : Int) == 37) = false := eqF (n := 37) (by omega)
  have hd : digB (s[0]).toNat = false := by rw [hn]; decide
  have ha : alpB (s[0]).toNat = false := by rw [hn]; decide
  have e1 := bl_one s h0
  have hN := hid hn
  clear hn
  have hR : ∀ kind t v odd ok, ItemRel (bl s) kind t v odd ok ↔ (odd = false ∧ match boo (bl s) with
        | none => kind = 0 ∧ ok = false
        | some r => kind = 6 ∧ ok = true ∧ t = ahead (bl s) r ∧ r.length ≤ (bl s).length) := by
    intro kind t v odd ok
    obtain ⟨l, hl⟩ : ∃ l, bl s = s[0] :: l := ⟨_, e1⟩
    rw [hl]
    unfold ItemRel
    dsimp only
    rw [if_neg (by rw [natF (n := 45) q45, hd]; decide)]
    rw [if_neg (by rw [natF (n := 34) q34]; decide)]
    rw [if_neg (by rw [natF (n := 42) q42, ha]; decide)]
    rw [if_neg (by rw [natF (n := 58) q58]; decide)]
    rw [if_pos (by exact natT hc)]
  have HR := hid hR
  clear e1 hR
  cases hx : boo (bl s) with
  | none =>
    have hs2 : s.size < 2 ∨ ∃ h1 : 1 < s.size, (((s[1]).toNat : Int) != 48) = true ∧ (((s[1]).toNat : Int) != 49) = true := by
      by_cases h1 : 1 < s.size
      · refine .inr ⟨h1, ?_⟩
        rw [bl_two s h1, boo] at hx
        have h63 : s[0] = 63 := (u8_eq (n := 63) (by decide)).2 hN.out
        split at hx
        · cases hx
        · rename_i hq
          exact ⟨neT fun e => hq ⟨h63, .inl ((u8_eq (n := 48) (by decide)).2 e)⟩, neT fun e => hq ⟨h63, .inr ((u8_eq (n := 49) (by decide)).2 e)⟩⟩
      · exact .inl (by omega)
    have Hx := hid hx
    clear hx
    rcases hs2 with hs2 | ⟨h1, hp, hq⟩
    all_goals
      go_enter Tryd.func30, Tryd.ntmps30
      go_wp2_with (first | (go_at_call 54; refine (digit_any _ _).mono ?_; rintro e w' ⟨rfl, rfl⟩) | (go_at_call 57; refine (letter_any _ _).mono ?_; rintro e w' ⟨rfl, rfl⟩))
      refine bodyPost_ret (v := .tuple #[.agg #[.int .i64 0, .string ⟨#[]⟩, .string ⟨#[]⟩, .bool false], .bool false]) (by simp [results, Tryd.results30, go_sem]) rfl ⟨⟨_, _, _, _, _, rfl, ?_⟩, ((Gr.refl _).alloc _)⟩
      · rw [HR.out, Hx.out]
        exact ⟨rfl, rfl, rfl⟩
  | some r =>
    obtain ⟨h1, hl, hq⟩ : ∃ h1 : 1 < s.size, (bl s).drop 2 = r ∧ ((((s[1]).toNat : Int) != 48) = false ∨ (((s[1]).toNat : Int) != 48) = true ∧ (((s[1]).toNat : Int) != 49) = false) := by
      have hlen := bl_length s
      have h1 : 1 < s.size := by
        rcases boo_some hx with h | h <;> rw [h] at hlen <;> simp at hlen <;> omega
      refine ⟨h1, ?_, ?_⟩
      · rcases boo_some hx with h | h <;> rw [h] <;> rfl
      · have h2 := bl_two s h1
        rcases boo_some hx with h | h
        · rw [h] at h2
          have : s[1] = 48 := by injection h2 with _ h2; injection h2 with h2 _; exact h2.symm
          exact .inl (neF (n := 48) (by rw [this]; rfl))
        · rw [h] at h2
          have : s[1] = 49 := by injection h2 with _ h2; injection h2 with h2 _; exact h2.symm
          exact .inr ⟨neT (n := 48) (by rw [this]; decide), neF (n := 49) (by rw [this]; rfl)⟩
    have Hx := hid hx
    have Hl := hid hl
    clear hx hl
    rcases hq with hq | ⟨hp, hq⟩
    all_goals
      go_enter Tryd.func30, Tryd.ntmps30
      go_wp2_with (first | (go_at_call 54; refine (digit_any _ _).mono ?_; rintro e w' ⟨rfl, rfl⟩) | (go_at_call 57; refine (letter_any _ _).mono ?_; rintro e w' ⟨rfl, rfl⟩))
      refine bodyPost_ret (v := .tuple #[.agg #[.int .i64 6, .string (s.extract 0 2), .string ⟨#[]⟩, .bool false], .bool true]) (by simp [results, Tryd.results30, go_sem]) rfl ⟨⟨_, _, _, _, _, rfl, ?_⟩, ((Gr.refl _).alloc _)⟩
      · rw [HR.out, Hx.out]
        refine ⟨rfl, rfl, rfl, ?_, ?_⟩
        · rw [bl_upto, ahead, ← Hl.out, List.length_drop, bl_length]; congr 1; omega
        · rw [← Hl.out, List.length_drop]; omega
set_option maxRecDepth 100000 in
set_option maxHeartbeats 1000000 in
theorem item_date (s : ByteArray) (w : World) (hs : s.size ≤ 2147483647) (h0 : 0 < s.size) (hc : (((s[0]).toNat : Int) == 64) = true) :
    Calls Tryd.prog 30 #[.string s] w fun e w' => ItemPost s e ∧ Gr w w' := by
  have hne : s.toList.isEmpty = false := notEmpty h0
  have hn : (s[0]).toNat = 64 := by have := beq_iff_eq.1 hc; omega
  have q45 : (((s[0]).toNat : Int) == 45) = false := eqF (n := 45) (by omega)
  have q34 : (((s[0]).toNat : Int) == 34) = false := eqF (n := 34) (by omega)
  have q42 : (((s[0]).toNat : Int) == 42) = false := eqF (n := 42) (by omega)
  have q58 : (((s[0]).toNat : Int) == 58) = false := eqF (n := 58) (by omega)
  have q63 : (((s[0]).toNat : Int) == 63) = false := eqF (n := 63) (by omega)
  have q37 : (((s[0]).toNat : Int) == 37) = false := eqF (n := 37) (by omega)
  have hd : digB (s[0]).toNat = false := by rw [hn]; decide
  have ha : alpB (s[0]).toNat = false := by rw [hn]; decide
  have e1 := bl_one s h0
  have hN := hid hn
  clear hn
  have hR : ∀ kind t v odd ok, ItemRel (bl s) kind t v odd ok ↔ (kind = 7 ∧ odd = false ∧ match dat (bl s) with
        | none => ok = false
        | some r => ok = true ∧ t = ahead (bl s) r ∧ r.length ≤ (bl s).length) := by
    intro kind t v odd ok
    obtain ⟨l, hl⟩ : ∃ l, bl s = s[0] :: l := ⟨_, e1⟩
    rw [hl]
    unfold ItemRel
    dsimp only
    rw [if_neg (by rw [natF (n := 45) q45, hd]; decide)]
    rw [if_neg (by rw [natF (n := 34) q34]; decide)]
    rw [if_neg (by rw [natF (n := 42) q42, ha]; decide)]
    rw [if_neg (by rw [natF (n := 58) q58]; decide)]
    rw [if_neg (by rw [natF (n := 63) q63]; decide)]
    rw [if_pos (by exact natT hc)]
  have HR := hid hR
  clear e1 hR
  have hdat : dat (bl s) = match num (bl (s.extract 1 s.size)) with | some (false, r') => some r' | _ => none := by
    have h64 : s[0] = 64 := (u8_eq (n := 64) (by decide)).2 hN.out
    rw [bl_from, bl_one s h0, dat, if_pos h64]
    rfl
  have HD := hid hdat
  clear hdat
  have hsz : (s.extract 1 s.size).size ≤ 2147483647 := by rw [← bl_length, bl_from, List.length_drop, bl_length]; omega
  go_enter Tryd.func30, Tryd.ntmps30
  go_wp2_with (first | (go_at_call 54; refine (digit_any _ _).mono ?_; rintro e w' ⟨rfl, rfl⟩) | (go_at_call 57; refine (letter_any _ _).mono ?_; rintro e w' ⟨rfl, rfl⟩))
  refine (Number_any (s.extract 1 s.size) _ hsz).mono ?_
  rintro e w1 ⟨hp, rfl⟩
  cases hn : num (bl (s.extract 1 s.size)) with
  | none =>
    rw [hn] at hp
    obtain rfl := hp
    have Hx : Hid (dat (bl s) = none) := hid (by rw [HD.out, hn])
    clear hn
    go_wp2_with fail
    exact bodyPost_ret (v := .tuple #[.agg #[.int .i64 7, .string _, .string ⟨#[]⟩, .bool false], .bool false]) (by simp [results, Tryd.results30, go_sem]; rfl) rfl ⟨⟨_, _, _, _, _, rfl, by rw [HR.out, Hx.out]; exact ⟨rfl, rfl, rfl⟩⟩, ((Gr.refl _).alloc _)⟩
  | some x =>
    obtain ⟨d, r⟩ := x
    rw [hn] at hp
    obtain ⟨c, rfl, hcl, hrl⟩ := hp
    have hcs : c.size ≤ s.size := by rw [← bl_length c, hcl, ahead, List.length_take, bl_length, ← bl_length (s.extract 1 s.size), bl_from, List.length_drop, bl_length]; omega
    cases d
    · have Hx : Hid (dat (bl s) = some r) := hid (by rw [HD.out, hn])
      have Hc := hid hcl
      have hrl' : r.length + 1 ≤ s.size := by rw [← bl_length, bl_from, List.length_drop, bl_length] at hrl; omega
      clear hn hcl
      go_wp2_with fail
      refine bodyPost_ret (v := .tuple #[.agg #[.int .i64 7, .string (⟨#[64]⟩ ++ c), .string ⟨#[]⟩, .bool false], .bool true]) (by simp [results, Tryd.results30, go_sem]) rfl ⟨⟨_, _, _, _, _, rfl, ?_⟩, ((Gr.refl _).alloc _)⟩
      rw [HR.out, Hx.out]
      refine ⟨rfl, rfl, rfl, ?_, by rw [bl_length]; omega⟩
      have h64 : s[0] = 64 := (u8_eq (n := 64) (by decide)).2 hN.out
      rw [bl_append, Hc.out, bl_from]
      have hb := bl_one s h0
      rw [h64] at hb
      exact (ahead_cons hb (by rw [List.length_drop, bl_length]; omega)).symm
    · have Hx : Hid (dat (bl s) = none) := hid (by rw [HD.out, hn])
      clear hn hcl
      go_wp2_with fail
      refine bodyPost_ret (v := .tuple #[.agg #[.int .i64 7, .string (⟨#[64]⟩ ++ c), .string ⟨#[]⟩, .bool false], .bool false]) (by simp [results, Tryd.results30, go_sem]) rfl ⟨⟨_, _, _, _, _, rfl, ?_⟩, ((Gr.refl _).alloc _)⟩
      rw [HR.out, Hx.out]
      exact ⟨rfl, rfl, rfl⟩
set_option maxRecDepth 100000 in
set_option maxHeartbeats 1000000 in
theorem item_bytes (s : ByteArray) (w : World) (hs : s.size ≤ 2147483647) (h0 : 0 < s.size) (hc : (((s[0]).toNat : Int) == 58) = true) :
    Calls Tryd.prog 30 #[.string s] w fun e w' => ItemPost s e ∧ Gr w w' := by
  have hne : s.toList.isEmpty = false := notEmpty h0
  have hn : (s[0]).toNat = 58 := by have := beq_iff_eq.1 hc; omega
  have q45 : (((s[0]).toNat : Int) == 45) = false := eqF (n := 45) (by omega)
  have q34 : (((s[0]).toNat : Int) == 34) = false := eqF (n := 34) (by omega)
  have q42 : (((s[0]).toNat : Int) == 42) = false := eqF (n := 42) (by omega)
  have q63 : (((s[0]).toNat : Int) == 63) = false := eqF (n := 63) (by omega)
  have q64 : (((s[0]).toNat : Int) == 64) = false := eqF (n := 64) (by omega)
  have q37 : (((s[0]).toNat : Int) == 37) = false := eqF (n := 37) (by omega)
  have hd : digB (s[0]).toNat = false := by rw [hn]; decide
  have ha : alpB (s[0]).toNat = false := by rw [hn]; decide
  have e1 := bl_one s h0
  have hN := hid hn
  clear hn
  have hR : ∀ kind t v odd ok, ItemRel (bl s) kind t v odd ok ↔ (kind = 5 ∧ (∃ n, n ≤ (bl s).length ∧ t = (bl s).take n) ∧ (odd = true → ok = true) ∧ (odd = false → match byt (bl s) with
        | none => ok = false
        | some r => ok = true ∧ t = ahead (bl s) r ∧ r.length ≤ (bl s).length)) := by
    intro kind t v odd ok
    obtain ⟨l, hl⟩ : ∃ l, bl s = s[0] :: l := ⟨_, e1⟩
    rw [hl]
    unfold ItemRel
    dsimp only
    rw [if_neg (by rw [natF (n := 45) q45, hd]; decide)]
    rw [if_neg (by rw [natF (n := 34) q34]; decide)]
    rw [if_neg (by rw [natF (n := 42) q42, ha]; decide)]
    rw [if_pos (by exact natT hc)]
  have HR := hid hR
  clear e1 hR
  go_enter Tryd.func30, Tryd.ntmps30
  go_wp2_with (first | (go_at_call 54; refine (digit_any _ _).mono ?_; rintro e w' ⟨rfl, rfl⟩) | (go_at_call 57; refine (letter_any _ _).mono ?_; rintro e w' ⟨rfl, rfl⟩))
  refine (bytes_any s _ hs).mono ?_
  rintro e w1 ⟨⟨n, v, ok, odd, rfl, hnl, hv, hx, hodd⟩, hg⟩
  obtain ⟨t, ht⟩ := ownI_strings hv
  have h1 := ht w1 (Gr.refl _)
  have h2 := ht w1.drew (Gr.refl _).drew
  have HX := hid hx
  have HO := hid hodd
  clear hx hodd hv ht
  have c0 := blk_cell hg 0
  have c1 := blk_cell hg 1
  have c2 := blk_cell hg 2
  have c3 := blk_cell hg 3
  have f0 := blk_frozen hg 0
  have f1 := blk_frozen hg 1
  have f2 := blk_frozen hg 2
  have f3 := blk_frozen hg 3
  simp at c0 c1 c2 c3
  go_wp2_with fail
  go_region
  go_wp2_with fail
  refine bodyPost_ret (v := .tuple #[.agg #[.int .i64 5, .string (s.extract 0 n), .string t, .bool odd], .bool ok]) (by simp [results, Tryd.results30, go_sem, c0, c1, c2, c3]) rfl ⟨⟨_, _, _, _, _, rfl, ?_⟩, (((((((Gr.refl w).alloc _).trans hg).setCell (Nat.le_refl _) _).setCell (Nat.le_refl _) _).setCell (Nat.le_refl _) _).setCell (Nat.le_refl _) _).drew⟩
  · rw [HR.out]
    refine ⟨rfl, ⟨n, by rw [bl_length]; exact hnl, bl_upto s n⟩, HO.out, fun ho => ?_⟩
    have hq := HX.out ho
    cases hb : byt (bl s) with
    | none => rw [hb] at hq; exact hq
    | some r =>
      rw [hb] at hq
      obtain ⟨q1, q2, q3⟩ := hq
      exact ⟨q1, by rw [q2]; exact ahead_extract s r q3, by rw [bl_length]; exact q3⟩
set_option maxRecDepth 100000 in
set_option maxHeartbeats 1000000 in
theorem item_display (s : ByteArray) (w : World) (hs : s.size ≤ 2147483647) (h0 : 0 < s.size) (hc : (((s[0]).toNat : Int) == 37) = true) :
    Calls Tryd.prog 30 #[.string s] w fun e w' => ItemPost s e ∧ Gr w w' := by
  have hne : s.toList.isEmpty = false := notEmpty h0
  have hn : (s[0]).toNat = 37 := by have := beq_iff_eq.1 hc; omega
  have q45 : (((s[0]).toNat : Int) == 45) = false := eqF (n := 45) (by omega)
  have q34 : (((s[0]).toNat : Int) == 34) = false := eqF (n := 34) (by omega)
  have q42 : (((s[0]).toNat : Int) == 42) = false := eqF (n := 42) (by omega)
  have q58 : (((s[0]).toNat : Int) == 58) = false := eqF (n := 58) (by omega)
  have q63 : (((s[0]).toNat : Int) == 63) = false := eqF (n := 63) (by omega)
  have q64 : (((s[0]).toNat : Int) == 64) = false := eqF (n := 64) (by omega)
  have hd : digB (s[0]).toNat = false := by rw [hn]; decide
  have ha : alpB (s[0]).toNat = false := by rw [hn]; decide
  have e1 := bl_one s h0
  have hN := hid hn
  clear hn
  have hR : ∀ kind t v odd ok, ItemRel (bl s) kind t v odd ok ↔ (kind = 8 ∧ match dspS (bl s) with
        | none => ok = false ∧ odd = false
        | some (o, r) => ok = validU o ∧ odd = hasB fffd o ∧ t = ahead (bl s) r ∧ r.length ≤ (bl s).length ∧ v = o) := by
    intro kind t v odd ok
    obtain ⟨l, hl⟩ : ∃ l, bl s = s[0] :: l := ⟨_, e1⟩
    rw [hl]
    unfold ItemRel
    dsimp only
    rw [if_neg (by rw [natF (n := 45) q45, hd]; decide)]
    rw [if_neg (by rw [natF (n := 34) q34]; decide)]
    rw [if_neg (by rw [natF (n := 42) q42, ha]; decide)]
    rw [if_neg (by rw [natF (n := 58) q58]; decide)]
    rw [if_neg (by rw [natF (n := 63) q63]; decide)]
    rw [if_neg (by rw [natF (n := 64) q64]; decide)]
    rw [if_pos (by exact natT hc)]
  have HR := hid hR
  clear e1 hR
  go_enter Tryd.func30, Tryd.ntmps30
  go_wp2_with (first | (go_at_call 54; refine (digit_any _ _).mono ?_; rintro e w' ⟨rfl, rfl⟩) | (go_at_call 57; refine (letter_any _ _).mono ?_; rintro e w' ⟨rfl, rfl⟩))
  refine (display_any s _ hs).mono ?_
  rintro e w1 ⟨hp, hg⟩
  cases hx : dspS (bl s) with
  | none =>
    rw [hx] at hp
    obtain rfl := hp
    have Hx := hid hx
    clear hx
    have c0 := blk_cell hg 0
    have c1 := blk_cell hg 1
    have c2 := blk_cell hg 2
    have c3 := blk_cell hg 3
    have f0 := blk_frozen hg 0
    have f1 := blk_frozen hg 1
    have f2 := blk_frozen hg 2
    have f3 := blk_frozen hg 3
    simp at c0 c1 c2 c3
    go_wp2_with fail
    go_region_with (go_at_call 61; refine (has_l _ _ false _ (by decide) (by decide) (by decide) rfl).mono ?_; rintro e w2 ⟨rfl, rfl⟩)
    go_wp2_with fail
    refine bodyPost_ret (v := .tuple #[.agg #[.int .i64 8, .string (s.extract 0 0), .string ⟨#[]⟩, .bool false], .bool false]) (by simp [results, Tryd.results30, go_sem, c0, c1, c2, c3]) rfl ⟨⟨_, _, _, _, _, rfl, ?_⟩, (((((((Gr.refl w).alloc _).trans hg).setCell (Nat.le_refl _) _).setCell (Nat.le_refl _) _).setCell (Nat.le_refl _) _).setCell (Nat.le_refl _) _).drew⟩
    · rw [HR.out, Hx.out]
      exact ⟨rfl, rfl, rfl⟩
  | some x =>
    obtain ⟨o, r⟩ := x
    rw [hx] at hp
    obtain ⟨v, rfl, hvo, hrl⟩ := hp
    have Hx := hid hx
    have Ho := hid hvo
    have hvl : v.size ≤ 2147483647 := by rw [← bl_length, hvo]; have := dspS_le hx; rw [bl_length] at this; omega
    have HH := hid (show hasB (bl ⟨#[239, 191, 189]⟩) (bl v) = hasB fffd o by rw [hvo]; rfl)
    clear hx hvo
    have c0 := blk_cell hg 0
    have c1 := blk_cell hg 1
    have c2 := blk_cell hg 2
    have c3 := blk_cell hg 3
    have f0 := blk_frozen hg 0
    have f1 := blk_frozen hg 1
    have f2 := blk_frozen hg 2
    have f3 := blk_frozen hg 3
    simp at c0 c1 c2 c3
    go_wp2_with fail
    go_region_with (go_at_call 61; refine (has_l _ _ (hasB fffd o) _ hvl (by decide) (by decide) HH.out).mono ?_; rintro e w2 ⟨rfl, rfl⟩)
    go_wp2_with fail
    refine bodyPost_ret (v := .tuple #[.agg #[.int .i64 8, .string (s.extract 0 (s.size - r.length)), .string v, .bool (hasB fffd o)], .bool (validU o)]) (by simp [results, Tryd.results30, go_sem, c0, c1, c2, c3]) rfl ⟨⟨_, _, _, _, _, rfl, ?_⟩, (((((((Gr.refl w).alloc _).trans hg).setCell (Nat.le_refl _) _).setCell (Nat.le_refl _) _).setCell (Nat.le_refl _) _).setCell (Nat.le_refl _) _).drew⟩
    · rw [HR.out, Hx.out]
      exact ⟨rfl, rfl, rfl, ahead_extract s r hrl, by rw [bl_length]; exact hrl, Ho.out⟩
set_option maxRecDepth 100000 in
set_option maxHeartbeats 1000000 in
theorem item_other (s : ByteArray) (w : World) (_hs : s.size ≤ 2147483647) (h0 : 0 < s.size) (q45 : (((s[0]).toNat : Int) == 45) = false) (hd : digB (s[0]).toNat = false) (q34 : (((s[0]).toNat : Int) == 34) = false) (q42 : (((s[0]).toNat : Int) == 42) = false) (ha : alpB (s[0]).toNat = false) (q58 : (((s[0]).toNat : Int) == 58) = false) (q63 : (((s[0]).toNat : Int) == 63) = false) (q64 : (((s[0]).toNat : Int) == 64) = false) (q37 : (((s[0]).toNat : Int) == 37) = false) :
    Calls Tryd.prog 30 #[.string s] w fun e w' => ItemPost s e ∧ Gr w w' := by
  have hne : s.toList.isEmpty = false := notEmpty h0
  have e1 := bl_one s h0
  have hR : ∀ kind t v odd ok, ItemRel (bl s) kind t v odd ok ↔ (kind = 0 ∧ odd = false ∧ ok = false) := by
    intro kind t v odd ok
    obtain ⟨l, hl⟩ : ∃ l, bl s = s[0] :: l := ⟨_, e1⟩
    rw [hl]
    unfold ItemRel
    dsimp only
    rw [if_neg (by rw [natF (n := 45) q45, hd]; decide)]
    rw [if_neg (by rw [natF (n := 34) q34]; decide)]
    rw [if_neg (by rw [natF (n := 42) q42, ha]; decide)]
    rw [if_neg (by rw [natF (n := 58) q58]; decide)]
    rw [if_neg (by rw [natF (n := 63) q63]; decide)]
    rw [if_neg (by rw [natF (n := 64) q64]; decide)]
    rw [if_neg (by rw [natF (n := 37) q37]; decide)]
  have HR := hid hR
  clear e1 hR
  go_enter Tryd.func30, Tryd.ntmps30
  go_wp2_with (first | (go_at_call 54; refine (digit_any _ _).mono ?_; rintro e w' ⟨rfl, rfl⟩) | (go_at_call 57; refine (letter_any _ _).mono ?_; rintro e w' ⟨rfl, rfl⟩))
  refine bodyPost_ret (v := .tuple #[.agg #[.int .i64 0, .string ⟨#[]⟩, .string ⟨#[]⟩, .bool false], .bool false]) (by simp [results, Tryd.results30, go_sem]) rfl ⟨⟨_, _, _, _, _, rfl, ?_⟩, ((Gr.refl _).alloc _)⟩
  · rw [HR.out]
    exact ⟨rfl, rfl, rfl⟩

theorem Item_any (s : ByteArray) (w : World) (hs : s.size ≤ 2147483647) :
    Calls Tryd.prog 30 #[.string s] w fun e w' => ItemPost s e ∧ Gr w w' := by
  by_cases h0 : 0 < s.size
  · cases q45 : (((s[0]).toNat : Int) == 45)
    rotate_left
    · exact item_minus s w hs h0 q45
    cases hd : digB (s[0]).toNat
    rotate_left
    · exact item_digit s w hs h0 hd
    cases q34 : (((s[0]).toNat : Int) == 34)
    rotate_left
    · exact item_str s w hs h0 q34
    cases q42 : (((s[0]).toNat : Int) == 42)
    rotate_left
    · exact item_star s w hs h0 q42
    cases ha : alpB (s[0]).toNat
    rotate_left
    · exact item_alpha s w hs h0 ha
    cases q58 : (((s[0]).toNat : Int) == 58)
    rotate_left
    · exact item_bytes s w hs h0 q58
    cases q63 : (((s[0]).toNat : Int) == 63)
    rotate_left
    · exact item_bool s w hs h0 q63
    cases q64 : (((s[0]).toNat : Int) == 64)
    rotate_left
    · exact item_date s w hs h0 q64
    cases q37 : (((s[0]).toNat : Int) == 37)
    rotate_left
    · exact item_display s w hs h0 q37
    exact item_other s w hs h0 q45 hd q34 q42 ha q58 q63 q64 q37
  · exact item_empty s w (List.eq_nil_of_length_eq_zero (by rw [bl_length]; omega))

end Go.Proofs.YtohjnegllfdemaaDoor
