/-
  The walk of the reference's Dictionary.
-/
import Derived.Test.YtohjnegllfdemaaDoorSLis2
import Derived.Test.YtohjnegllfdemaaDoorCDic
set_option maxRecDepth 100000
namespace Go.Proofs.YtohjnegllfdemaaDoor
open Go.RowKit

theorem infoSMember : (Tryd.prog.info? 50).map (fun i => (i.zero, i.size, i.bytes)) = some (some (.agg #[.string ⟨#[]⟩, .string ⟨#[]⟩, .string ⟨#[]⟩, .bool false]), 4, 56) := by kernel_rfl

/-- A member of a dictionary: its key, value and parameters; whether it has no value of its own. -/
abbrev Mt := ByteArray × ByteArray × ByteArray × Bool
def flat4 : List Mt → List Value
  | [] => []
  | x :: r => .string x.1 :: .string x.2.1 :: .string x.2.2.1 :: .bool x.2.2.2 :: flat4 r
theorem flat4_push (xs : List Mt) (a b c : ByteArray) (q : Bool) : flat4 xs ++ [.string a, .string b, .string c, .bool q] = flat4 (xs ++ [(a, b, c, q)]) := by
  induction xs with
  | nil => rfl
  | cons x r ih => simp only [flat4, List.cons_append, ih]
/-- The value is a slice of members of the call's own. -/
def OwnD (w : World) (base : Nat) (v : Value) (xs : List Mt) : Prop := w.ownsRow base 50 4 v xs.length (flat4 xs)
theorem OwnD.nil (w : World) (base : Nat) : OwnD w base (.slice none 0 0) [] := World.ownsRow_nil _ _ _ _
theorem OwnD.of_row {w : World} {base : Nat} {v : Value} {xs : List Mt} {a b c : ByteArray} {q : Bool} (h : w.ownsRow base 50 4 v (xs.length + 1) (flat4 xs ++ [.string a, .string b, .string c, .bool q])) : OwnD w base v (xs ++ [(a, b, c, q)]) := by
  unfold OwnD
  rw [← flat4_push, List.length_append]
  exact h
theorem OwnD.alloc {w : World} {base : Nat} {v : Value} {xs : List Mt} (h : OwnD w base v xs) (o : Obj) : OwnD (w.alloc o) base v xs := World.ownsRow.alloc h o
theorem OwnD.gr {w w' : World} {base : Nat} {v : Value} {xs : List Mt} (h : OwnD w base v xs) (k : Gr w w') : OwnD w' base v xs := by
  refine World.ownsRow.kept h (row := none) ⟨k.os, k.tape, k.output, k.size, fun i hi _ => k.block i hi⟩ ?_
  cases v.ownBlock with
  | none => exact .inl rfl
  | some b => exact .inr (by simp)
theorem OwnD.fr {w w' : World} {base b : Nat} {v : Value} {xs : List Mt} (h : OwnD w base v xs) (k : Fr b w w') (hb : v.ownBlock ≠ some b) : OwnD w' base v xs :=
  World.ownsRow.kept h k (.inr hb)
theorem OwnD.lt {w : World} {base : Nat} {v : Value} {xs : List Mt} (h : OwnD w base v xs) : ∀ k, v.ownBlock = some k → base ≤ k ∧ k < w.heap.size := World.ownsRow.lt h
theorem ownD_ne {w : World} {base i : Nat} {v : Value} {xs : List Mt} (h : OwnD w base v xs) (hi : i < base ∨ w.heap.size ≤ i) : v.ownBlock ≠ some i := by
  intro e
  have := h.lt i e
  omega
theorem four_new2 {g : Nat} (w : World) (x y z u : Value) (T : TypeId) (hg : g = w.heap.size) : ∀ j v, [x, y, z, u][j]? = some v → (w.alloc (.cells #[x, y, z, u] T)).cell? ((⟨g, 0, none⟩ : Addr).add j) = some v := by
  subst hg
  intro j v hj
  match j, hj with
  | 0, hj => simp at hj; subst hj; simp [Addr.add]
  | 1, hj => simp at hj; subst hj; simp [Addr.add]
  | 2, hj => simp at hj; subst hj; simp [Addr.add]
  | 3, hj => simp at hj; subst hj; simp [Addr.add]
theorem four_one (a b c : ByteArray) (q : Bool) : ∀ u ∈ [Value.string a, Value.string b, Value.string c, Value.bool q], u.oneCell' = true := by
  intro u hu
  simp at hu
  rcases hu with rfl | rfl | rfl | rfl <;> rfl

/-- A member under way, in block X. -/
def MX (w : World) (X : Nat) (x : Mt) : Prop := w.heap[X]? = some (.cells #[.string x.1, .string x.2.1, .string x.2.2.1, .bool x.2.2.2] 50 (0, 0))
theorem MX.c0 {w : World} {X : Nat} {a b c : ByteArray} {q : Bool} (h : MX w X (a, b, c, q)) : w.cell? ⟨X, 0, none⟩ = some (.string a) := by rw [cell_of_row w X _ _ _ _ h]; rfl
theorem MX.c1 {w : World} {X : Nat} {a b c : ByteArray} {q : Bool} (h : MX w X (a, b, c, q)) : w.cell? ⟨X, 1, none⟩ = some (.string b) := by rw [cell_of_row w X _ _ _ _ h]; rfl
theorem MX.c2 {w : World} {X : Nat} {a b c : ByteArray} {q : Bool} (h : MX w X (a, b, c, q)) : w.cell? ⟨X, 2, none⟩ = some (.string c) := by rw [cell_of_row w X _ _ _ _ h]; rfl
theorem MX.c3 {w : World} {X : Nat} {a b c : ByteArray} {q : Bool} (h : MX w X (a, b, c, q)) : w.cell? ⟨X, 3, none⟩ = some (.bool q) := by rw [cell_of_row w X _ _ _ _ h]; rfl
theorem MX.fz {w : World} {X : Nat} {x : Mt} (h : MX w X x) (j : Nat) : w.frozen? ⟨X, j, none⟩ = false := Lib.frozen_of_heap h j

/-- The state within a round: the parser, the member under way, the members so far. -/
structure DiS (W w : World) (b X : Nat) (s : ByteArray) (j : Nat) (bad odd : Bool) (x : Mt) (v : Value) (ms : List Mt) : Prop where
  ps : PS w b s j bad odd
  mx : MX w X x
  own : OwnD w W.heap.size v ms
  fr : Fr b W w
  hb : b < W.heap.size
  hX : W.heap.size ≤ X
  hv : v.ownBlock ≠ some X
theorem DiS.call {W w w' : World} {b X : Nat} {s : ByteArray} {j j' : Nat} {bad odd bad' odd' : Bool} {x : Mt} {v : Value} {ms : List Mt} (h : DiS W w b X s j bad odd x v ms) (hf : Fr b w w') (hp : PS w' b s j' bad' odd') : DiS W w' b X s j' bad' odd' x v ms :=
  ⟨hp, hf.heap h.mx (by have := h.hb; have := h.hX; omega), OwnD.fr h.own hf (ownD_ne h.own (.inl h.hb)), h.fr.trans hf, h.hb, h.hX, h.hv⟩
theorem DiS.at {W w : World} {b X : Nat} {s : ByteArray} {j : Nat} {bad odd : Bool} {x : Mt} {v : Value} {ms : List Mt} (h : DiS W w b X s j bad odd x v ms) (n : Nat) (i : Int) (hi : i = (n : Int)) : DiS W (w.setCell ⟨b, 1, none⟩ (.int .i64 i)) b X s n bad odd x v ms :=
  h.call ((Fr.refl b w).set 1 _) (h.ps.at n i hi)
theorem DiS.put {W w : World} {b X : Nat} {s : ByteArray} {j : Nat} {bad odd : Bool} {x y : Mt} {v : Value} {ms : List Mt} (h : DiS W w b X s j bad odd x v ms) (i : Nat) (u : Value) (hy : MX (w.setCell ⟨X, i, none⟩ u) X y) : DiS W (w.setCell ⟨X, i, none⟩ u) b X s j bad odd y v ms :=
  ⟨h.ps.other (B := X) (by have := h.hb; have := h.hX; omega) i u, hy, ownsRow_setCell_other h.own (a := ⟨X, i, none⟩) h.hv _, h.fr.trans_low ⟨rfl, rfl, rfl, by simp [World.setCell], fun k hk _ => heap_setCell_other _ _ _ _ (by have := h.hX; simp; omega)⟩, h.hb, h.hX, h.hv⟩
theorem DiS.put1 {W w : World} {b X : Nat} {s : ByteArray} {j : Nat} {bad odd : Bool} {a c d : ByteArray} {q : Bool} {v : Value} {ms : List Mt} (h : DiS W w b X s j bad odd (a, c, d, q) v ms) (t : ByteArray) : DiS W (w.setCell ⟨X, 1, none⟩ (.string t)) b X s j bad odd (a, t, d, q) v ms :=
  h.put 1 _ (by unfold MX; rw [heap_setCell_same _ _ _ _ _ _ h.mx]; rfl)
theorem DiS.put2 {W w : World} {b X : Nat} {s : ByteArray} {j : Nat} {bad odd : Bool} {a c d : ByteArray} {q : Bool} {v : Value} {ms : List Mt} (h : DiS W w b X s j bad odd (a, c, d, q) v ms) (t : ByteArray) : DiS W (w.setCell ⟨X, 2, none⟩ (.string t)) b X s j bad odd (a, c, t, q) v ms :=
  h.put 2 _ (by unfold MX; rw [heap_setCell_same _ _ _ _ _ _ h.mx]; rfl)
theorem DiS.put3 {W w : World} {b X : Nat} {s : ByteArray} {j : Nat} {bad odd : Bool} {a c d : ByteArray} {q : Bool} {v : Value} {ms : List Mt} (h : DiS W w b X s j bad odd (a, c, d, q) v ms) (t : Bool) : DiS W (w.setCell ⟨X, 3, none⟩ (.bool t)) b X s j bad odd (a, c, d, t) v ms :=
  h.put 3 _ (by unfold MX; rw [heap_setCell_same _ _ _ _ _ _ h.mx]; rfl)
theorem DiS.new {W w w1 : World} {b : Nat} {s : ByteArray} {j : Nat} {bad odd : Bool} {x : Mt} {v : Value} {ms : List Mt} (hp : PS w1 b s j bad odd) (ho : OwnD w W.heap.size v ms) (hf : Fr b W w) (hf1 : Fr b w w1) (hb : b < W.heap.size) :
    DiS W (w1.alloc (.cells #[.string x.1, .string x.2.1, .string x.2.2.1, .bool x.2.2.2] 50)) b w1.heap.size s j bad odd x v ms := by
  have ho1 := OwnD.fr ho hf1 (ownD_ne ho (.inl hb))
  have hF := hf.trans hf1
  exact ⟨hp.gr ((Gr.refl w1).alloc _), heap_alloc_new w1 _, ho1.alloc _, hF.trans (Fr.of_gr ((Gr.refl w1).alloc _)), hb, hF.size, ownD_ne ho1 (.inr (Nat.le_refl _))⟩

/-- What a member is to the package's grammar. -/
def dM (x : Mt) : Dm := (bl x.1, if x.2.2.2 then none else some (bl x.2.1), bl x.2.2.1)
def dL (xs : List Mt) : List Dm := xs.map dM
theorem dL_push (xs : List Mt) (x : Mt) : dL (xs ++ [x]) = dL xs ++ [dM x] := by simp [dL]
theorem dL_length (xs : List Mt) : (dL xs).length = xs.length := by simp [dL]

/-- What the reference's Dictionary gives. -/
def SDicPost (s : ByteArray) (w : World) (e : Ending) (w' : World) : Prop :=
  Gr w w' ∧ ∃ (v : Value) (ms : List Mt) (base : Nat) (q : Int), e = .returned (.tuple #[v, .int .i64 q]) ∧ OwnD w' base v ms ∧ ms.length ≤ s.size + 1 ∧
    (q = 2 ∨ (q = 0 ∧ dic (bl s) = none) ∨ (q = 1 ∧ dic (bl s) = some (dL ms)))

/-- What has been read so far, where nothing is left out. -/
def DicRel (s : ByteArray) (R : Option (List Dm)) (j : Nat) (bad' odd' more : Bool) (ms : List Mt) : Prop :=
  odd' = false → (more = true ∧ pre1 (dL ms) (dicT ((bl s).drop j)) = R) ∨ (more = false ∧ bad' = true ∧ R = none) ∨ (more = false ∧ bad' = false ∧ (bl s).drop j = [] ∧ R = some (dL ms))
/-- The loop's head. -/
def DicInv (b : Nat) (s : ByteArray) (R : Option (List Dm)) (w : World) (g : Nat) (v m : Value) (wr : World) : Prop :=
  ∃ v', v' = v ∧ ∃ (j : Nat) (bad' odd' more : Bool) (ms : List Mt), m = .bool more ∧ j ≤ s.size ∧ (if more then s.size - j + 1 else 0) ≤ g ∧ (more = true → bad' = false) ∧ PS wr b s j bad' odd' ∧ OwnD wr w.heap.size v' ms ∧ ms.length ≤ j + (if more then 0 else 1) ∧ Fr b w wr ∧ DicRel s R j bad' odd' more ms
/-- A member that has been read, or not. -/
def DicF1 (s : ByteArray) (odd' odd3 bad3 : Bool) (j j3 : Nat) (x : Mt) : Prop :=
  odd3 = false → odd' = false ∧ ((bad3 = true ∧ dicT ((bl s).drop j) = none) ∨
    (bad3 = false ∧ ∃ r1 v r2 ys, key ((bl s).drop j) = some r1 ∧ dicV r1 = some (v, r2) ∧ par r2 = some (ys, (bl s).drop j3) ∧ dM x = (ahead ((bl s).drop j) r1, v, ahead r2 ((bl s).drop j3))))
/-- Behind a comma. -/
def ComD (s : ByteArray) (j3 j9 : Nat) (bad3 odd3 bad9 odd9 q9 : Bool) : Prop :=
  odd9 = false → odd3 = false ∧
    ((q9 = false ∧ bad9 = bad3 ∧ (bl s).drop j9 = skip wsB ((bl s).drop j3) ∧ (bad3 = true ∨ (bl s).drop j9 = [])) ∨
     (bad3 = false ∧ q9 = false ∧ bad9 = true ∧ ∃ d r3, skip wsB ((bl s).drop j3) = d :: r3 ∧ d.toNat = 44 ∧ skip wsB r3 = []) ∨
     (bad3 = false ∧ q9 = true ∧ bad9 = false ∧ ∃ d r3 e4 r4, skip wsB ((bl s).drop j3) = d :: r3 ∧ d.toNat = 44 ∧ skip wsB r3 = e4 :: r4 ∧ (bl s).drop j9 = e4 :: r4))
theorem com_tidy {s : ByteArray} {j3 j9 : Nat} {bad3 odd3 bad9 odd9 q9 : Bool}
    (h : (q9 = false ∧ bad9 = bad3 ∧ odd9 = odd3 ∧ (bl s).drop j9 = skip wsB ((bl s).drop j3) ∧ (bad3 = true ∨ (bl s).drop j9 = [])) ∨
     (bad3 = false ∧ q9 = false ∧ bad9 = true ∧ odd9 = (odd3 || !false) ∧ ∃ d r3, skip wsB ((bl s).drop j3) = d :: r3 ∧ d.toNat ≠ 44) ∨
     (bad3 = false ∧ q9 = false ∧ bad9 = true ∧ odd9 = odd3 ∧ ∃ d r3, skip wsB ((bl s).drop j3) = d :: r3 ∧ d.toNat = 44 ∧ skip wsB r3 = []) ∨
     (bad3 = false ∧ q9 = true ∧ bad9 = false ∧ odd9 = odd3 ∧ ∃ d r3 e4 r4, skip wsB ((bl s).drop j3) = d :: r3 ∧ d.toNat = 44 ∧ skip wsB r3 = e4 :: r4 ∧ (bl s).drop j9 = e4 :: r4)) : ComD s j3 j9 bad3 odd3 bad9 odd9 q9 := by
  intro h0
  rcases h with ⟨h1, h2, h3, h4, h5⟩ | ⟨_, _, _, h3, _⟩ | ⟨h1, h2, h3, h4, h5⟩ | ⟨h1, h2, h3, h4, h5⟩
  · exact ⟨h3.symm.trans h0, .inl ⟨h1, h2, h4, h5⟩⟩
  · rw [h0] at h3
    simp at h3
  · exact ⟨h4.symm.trans h0, .inr (.inl ⟨h1, h2, h3, h5⟩)⟩
  · exact ⟨h4.symm.trans h0, .inr (.inr ⟨h1, h2, h3, h5⟩)⟩
theorem dic_go {s : ByteArray} {R : Option (List Dm)} {j j3 j9 : Nat} {odd' odd3 bad3 bad9 odd9 q9 : Bool} {ms : List Mt} {x : Mt} (h1 : DicRel s R j false odd' true ms) (h2 : DicF1 s odd' odd3 bad3 j j3 x) (h4 : ComD s j3 j9 bad3 odd3 bad9 odd9 q9) : DicRel s R j9 bad9 odd9 q9 (ms ++ [x]) := by
  intro h0
  obtain ⟨ho3, h4⟩ := h4 h0
  obtain ⟨ho', h2⟩ := h2 ho3
  have hR : pre1 (dL ms) (dicT ((bl s).drop j)) = R := by
    rcases h1 ho' with ⟨_, g⟩ | ⟨g, _⟩ | ⟨g, _⟩
    · exact g
    · cases g
    · cases g
  rcases h2 with ⟨hb3, hn⟩ | ⟨hb3, r1, v, r2, ys, hk, hv, hp, hx⟩
  · rcases h4 with ⟨g1, g2, _⟩ | ⟨g, _⟩ | ⟨g, _⟩
    · exact .inr (.inl ⟨g1, g2.trans hb3, by rw [← hR, hn]; rfl⟩)
    · rw [hb3] at g; cases g
    · rw [hb3] at g; cases g
  · rw [dL_push, hx]
    rcases h4 with ⟨g1, g2, g3, g4⟩ | ⟨_, g1, g2, d, r3, g3, g4, g5⟩ | ⟨_, g1, g2, d, r3, e4, r4, g3, g4, g5, g6⟩
    · have hnil : (bl s).drop j9 = [] := by
        rcases g4 with g4 | g4
        · rw [hb3] at g4; cases g4
        · exact g4
      exact .inr (.inr ⟨g1, g2.trans hb3, hnil, by rw [← hR, dicT_end hk hv hp (by rw [← g3, hnil])]; rfl⟩)
    · exact .inr (.inl ⟨g1, g2, by rw [← hR, dicT_tail hk hv hp g3 (by rw [dicC_yes g4, g5])]; rfl⟩)
    · exact .inl ⟨g1, by rw [g6, ← pre1_cons, ← dicT_next hk hv hp g3 (by rw [dicC_yes g4, g5]), hR]⟩
theorem dicV_hd {l : Bs} (h : hdN l ≠ 61) : dicV l = some (none, l) := by
  cases l with
  | nil => rfl
  | cons c t => exact dicV_no h

theorem sdic_post {s : ByteArray} {w w' : World} {v : Value} {ms : List Mt} {base j : Nat} {bad odd : Bool} {q : Int} (hg : Gr w w') (ho : OwnD w' base v ms) (hl : ms.length ≤ s.size + 1)
    (hq : q = 2 ∨ (q = 0 ∧ odd = false ∧ (bad = true ∨ j < s.size)) ∨ (q = 1 ∧ odd = false ∧ bad = false ∧ ¬ j < s.size)) (hrel : DicRel s (dic (bl s)) j bad odd false ms) :
    SDicPost s w (.returned (.tuple #[v, .int .i64 q])) w' := by
  refine ⟨hg, v, ms, base, q, rfl, ho, hl, ?_⟩
  rcases hq with h | ⟨h, h0, h1⟩ | ⟨h, h0, h1, h2⟩
  · exact .inl h
  · refine .inr (.inl ⟨h, ?_⟩)
    rcases hrel h0 with ⟨h3, _⟩ | ⟨_, _, h3⟩ | ⟨_, h3, h4, _⟩
    · cases h3
    · exact h3
    · rcases h1 with h1 | h1
      · rw [h3] at h1; cases h1
      · rw [List.drop_eq_nil_iff, bl_length] at h4; omega
  · refine .inr (.inr ⟨h, ?_⟩)
    rcases hrel h0 with ⟨h3, _⟩ | ⟨_, h3, _⟩ | ⟨_, _, _, h3⟩
    · cases h3
    · rw [h3] at h1; cases h1
    · exact h3

set_option maxHeartbeats 2000000 in
theorem specDict_empty (w : World) :
    Calls Tryd.prog 25 #[.string ⟨#[]⟩] w fun e w' => SDicPost ⟨#[]⟩ w e w' := by
  have HP := hid (ps_new w ⟨#[]⟩)
  go_enter Tryd.func25, Tryd.ntmps25
  go_wp2_with fail
  refine wp_loop_rounds 1 ?_
  rw [rounds_succ]
  go_wp2_with fail
  refine (told_any w.heap.size 0 ⟨#[]⟩ false false _ (by decide) HP.out).mono ?_
  rintro e w2 ⟨⟨q, rfl, hq⟩, hg2⟩
  have HG2 := hid (Gr.trans ((Gr.refl w).alloc _) hg2)
  have HQ := hid hq
  clear hg2 hq
  go_wp2_with fail
  go_ret2
  exact sdic_post (base := w.heap.size) (j := 0) (bad := false) (odd := false) HG2.out (OwnD.nil _ _) (by simp) (by have := HQ.out; simpa using this) (fun _ => .inr (.inr ⟨rfl, rfl, rfl, rfl⟩))

set_option maxHeartbeats 16000000 in
theorem specDict_some (s : ByteArray) (w : World) (hs : s.size ≤ 2147483647) (h0 : 0 < s.size) :
    Calls Tryd.prog 25 #[.string s] w fun e w' => SDicPost s w e w' := by
  obtain ⟨R, hR⟩ : ∃ R, dic (bl s) = R := ⟨_, rfl⟩
  have HR := hid hR
  have hT0 : dicT ((bl s).drop 0) = R := by rw [List.drop_zero, ← hR, dic_cons (by rw [bl_length]; exact h0)]
  obtain ⟨i0, hi, hz0, hz1, hz2⟩ := info_parts infoSMember
  have hn1 : ¬ s.toList = [] := by
    intro e
    rw [bl_toList] at e
    have := congrArg List.length e
    rw [bl_length, List.length_nil] at this
    omega
  have hn2 : s.toList.isEmpty = false := by
    cases h : s.toList with
    | nil => exact absurd h hn1
    | cons _ _ => rfl
  have hp0 := ps_new w s
  have hfin : ∀ w', Fr w.heap.size (w.alloc (.cells #[.string s, .int .i64 0, .bool false, .bool false] 63)) w' → Gr w w' := fun w' h => fr_new h
  have hbw : w.heap.size < (w.alloc (.cells #[.string s, .int .i64 0, .bool false, .bool false] 63)).heap.size := by simp
  clear hR
  go_enter Tryd.func25, Tryd.ntmps25
  go_wp2_with fail
  generalize w.alloc (.cells #[.string s, .int .i64 0, .bool false, .bool false] 63) = W at *
  generalize w.heap.size = b at *
  have HFIN := hid hfin
  have HI := hid (show DicInv b s R W (s.size + 1) (.slice none 0 0) (.bool true) W from ⟨_, rfl, 0, false, false, true, [], rfl, Nat.zero_le _, by simp, fun _ => rfl, hp0, OwnD.nil _ _, by simp, Fr.refl _ _, fun _ => .inl ⟨rfl, by show pre1 [] _ = R; rw [pre1_nil, hT0]⟩⟩)
  clear hp0 hfin hT0 hn1 hn2
  go_loopg [5, 6] (s.size + 1) (fun g v m wr => Hid (DicInv b s R W g v m wr))
  case atStart => exact HI
  case round =>
    clear HI
    obtain ⟨v, rfl, j, bad', odd', more, ms, rfl, hj, hgm, hmb, hp, ho, hl, hf, hrel⟩ := hrel.out
    have HO := hid ho
    have HF := hid hf
    have HREL := hid hrel
    have HPJ := hid hp
    clear hp ho hf hrel
    cases more
    case false =>
      simp only [Bool.false_eq_true, if_false] at hgm hl
      go_wp2_with fail
      refine (told_any b j s bad' odd' _ hs HPJ.out).mono ?_
      rintro e w2 ⟨⟨q, rfl, hq⟩, hg2⟩
      have HQ := hid hq
      have HF2 := hid (HF.out.trans (Fr.of_gr hg2))
      have HO2 := hid (HO.out.gr hg2)
      clear hg2 hq
      go_wp2_with fail
      go_ret2
      exact sdic_post (HFIN.out _ HF2.out) HO2.out (by omega) HQ.out (by rw [HR.out]; exact HREL.out)
    case true =>
    obtain rfl := hmb rfl
    simp only [if_true, Nat.add_zero] at hgm hl
    clear hmb
    have d2 := HPJ.out.c2
    have hwr : W.heap.size ≤ wr.heap.size := HF.out.size
    have hlen : ms.length + 1 ≤ 4294967299 := by omega
    go_wp2_with fail
    refine (key_any b j s odd' _ hs hj HPJ.out).mono ?_
    rintro e w1 ⟨hf1, hkey⟩
    clear d2
    cases hk : key ((bl s).drop j) with
    | none =>
      rw [hk] at hkey
      obtain ⟨rfl, hp1⟩ := hkey
      have HD := hid (DiS.new (x := (⟨#[]⟩, ⟨#[]⟩, ⟨#[]⟩, true)) hp1 HO.out HF.out hf1 hbw)
      have HF1 := hid (show DicF1 s odd' odd' true j j (⟨#[]⟩, ⟨#[]⟩, ⟨#[]⟩, true) from fun h => ⟨h, .inl ⟨rfl, dicT_nokey hk⟩⟩)
      have hw1 : W.heap.size ≤ w1.heap.size := by have := hf1.size; omega
      clear hf1 hp1 hk HO HF HPJ
      have c2 := HD.out.ps.c2
      have hD := HD.out
      have hown0 := hD.own
      have m0 := hD.mx.c0
      have m1 := hD.mx.c1
      have m2 := hD.mx.c2
      have m3 := hD.mx.c3
      have hsz := hD.fr.size
      have hvb : v.ownBlock ≠ some b := ownD_ne hown0 (.inl hbw)
      clear hD
      go_wp2_with (at_builtin; refine wpList_append_own _ rfl _ _ 43 rfl W.heap.size 50 i0 (.agg #[.string ⟨#[]⟩, .string ⟨#[]⟩, .string ⟨#[]⟩, .bool false]) 4 56 Tryd.underlying43 hi hz0 hz1 hz2 rfl (by decide) _ _ _ rfl (hown0.alloc _) ⟨w1.heap.size + 1, 0, none⟩ 1 1 [.string ⟨#[]⟩, .string ⟨#[]⟩, .string ⟨#[]⟩, .bool true] rfl rfl (four_new2 _ _ _ _ _ _ (by simp)) (four_one _ _ _ _) (by unfold maxLen; omega) (by omega) (by simp at hsz ⊢ <;> omega) ?_; intro v' w9 hown' hgrow _)
      have hD := HD.out
      have HP7 := hid (hD.ps.grown hgrow hvb)
      have HF7 := hid (hD.fr.grown hgrow (fun i e => (hown0.lt i e).1))
      have HO7 := hid (OwnD.of_row hown')
      clear hown' hgrow hown0 hvb m0 m1 m2 m3 hD HD
      refine (comma_any b j s true odd' false _ hs (by omega) HP7.out).mono ?_
      rintro e w10 ⟨hf10, j9, bad9, odd9, q9, rfl, hj9, hj9s, hp10, hq9, hrel9⟩
      have HP10 := hid hp10
      have HF10 := hid (HF7.out.trans hf10)
      have HO10 := hid (OwnD.fr HO7.out hf10 (ownD_ne HO7.out (.inl hbw)))
      have HFINAL := hid (dic_go HREL.out HF1.out (com_tidy hrel9))
      clear hp10 hf10 hrel9
      go_wp2_with fail
      go_roundg (if q9 then s.size - j9 + 1 else 0)
      case measure =>
        cases q9
        · simp; omega
        · have := hq9 rfl
          simp
          omega
      case rel => exact hid ⟨_, rfl, j9, bad9, odd9, q9, _, rfl, hj9s, Nat.le_refl _, fun h => (hq9 h).2, HP10.out, HO10.out, by
        cases q9
        · simp; omega
        · have := hq9 rfl
          simp
          omega, HF10.out, HFINAL.out⟩
    | some r1 =>
      rw [hk] at hkey
      obtain ⟨kk, j1, rfl, hj1, hj1s, hd1, hkk, hp1⟩ := hkey
      have HD0 := hid (DiS.new (x := (kk, ⟨#[]⟩, ⟨#[]⟩, true)) hp1 HO.out HF.out hf1 hbw)
      subst hd1
      have HK := hid hk
      have HKK := hid hkk
      have hw1 : W.heap.size ≤ w1.heap.size := by have := hf1.size; omega
      clear hf1 hp1 hk hkk HO HF HPJ
      have c2 := HD0.out.ps.c2
      go_wp2_with fail
      refine (next_any b j1 s false odd' _ hs hj1s HD0.out.ps).mono ?_
      rintro e w2 ⟨rfl, hp2, hg2⟩
      have HD2 := hid (HD0.out.call (Fr.of_gr hg2) hp2)
      have hw2 : w1.heap.size < w2.heap.size := lt_of_block HD2.out.mx
      clear hp2 hg2 c2 HD0
      generalize w1.heap.size = X at *
      have hbX : b ≠ X := by have := HD2.out.hX; omega
      have hXb : X ≠ b := fun e => hbX e.symm
      by_cases h61 : hdN ((bl s).drop j1) = 61
      case neg =>
        have q61 : ((hdN ((bl s).drop j1) : Int) == 61) = false := eqF h61
        have HV := hid (dicV_hd h61)
        clear h61
        have c2 := HD2.out.ps.c2
        go_wp2_with fail
        clear c2
        refine (parameters_any b j1 s false odd' _ hs hj1s HD2.out.ps (fun h => by cases h)).mono ?_
        rintro e w5 ⟨hf5, pp, v2, ps2, j3, bad3, odd3, rfl, hj3, hj3s, hp5, _, _, hrel5⟩
        have HD5 := hid (HD2.out.call hf5 hp5)
        have HD := hid (HD5.out.put2 pp)
        have yf := HD5.out.mx.fz 2
        have y0 := HD5.out.mx.c0
        have y1 := HD5.out.mx.c1
        have y2 := HD5.out.mx.c2
        have y3 := HD5.out.mx.c3
        have c2 := HD5.out.ps.c2
        have hw5 : W.heap.size ≤ w5.heap.size := HD5.out.fr.size
        have HF1 := hid (show DicF1 s odd' odd3 bad3 j j3 (kk, ⟨#[]⟩, pp, true) from fun h => by
          obtain ⟨g1, ⟨g2, g3⟩ | ⟨g2, ys, r, g3, g4, g5, _⟩⟩ := hrel5 h
          · exact ⟨g1, .inl ⟨g2, dicT_nopar HK.out HV.out g3⟩⟩
          · subst g4
            exact ⟨g1, .inr ⟨g2, _, _, _, _, HK.out, HV.out, g3, by simp only [dM, HKK.out, g5]; rfl⟩⟩)
        clear hf5 hp5 hrel5 HD2
        have hD := HD.out
        have hown0 := hD.own
        have m0 := hD.mx.c0
        have m1 := hD.mx.c1
        have m2 := hD.mx.c2
        have m3 := hD.mx.c3
        have hsz := hD.fr.size
        have hvb : v.ownBlock ≠ some b := ownD_ne hown0 (.inl hbw)
        clear hD
        go_wp2_with (at_builtin; refine wpList_append_own _ rfl _ _ 43 rfl W.heap.size 50 i0 (.agg #[.string ⟨#[]⟩, .string ⟨#[]⟩, .string ⟨#[]⟩, .bool false]) 4 56 Tryd.underlying43 hi hz0 hz1 hz2 rfl (by decide) _ _ _ rfl (hown0.alloc _) ⟨w5.heap.size, 0, none⟩ 1 1 [.string kk, .string ⟨#[]⟩, .string pp, .bool true] rfl rfl (four_new2 _ _ _ _ _ _ (by simp[World.setCell])) (four_one _ _ _ _) (by unfold maxLen; omega) (by omega) (by simp at hsz ⊢ <;> omega) ?_; intro v' w9 hown' hgrow _)
        have hD := HD.out
        have HP7 := hid (hD.ps.grown hgrow hvb)
        have HF7 := hid (hD.fr.grown hgrow (fun i e => (hown0.lt i e).1))
        have HO7 := hid (OwnD.of_row hown')
        clear hown' hgrow hown0 hvb m0 m1 m2 m3 hD HD
        refine (comma_any b j3 s bad3 odd3 false _ hs (by omega) HP7.out).mono ?_
        rintro e w10 ⟨hf10, j9, bad9, odd9, q9, rfl, hj9, hj9s, hp10, hq9, hrel9⟩
        have HP10 := hid hp10
        have HF10 := hid (HF7.out.trans hf10)
        have HO10 := hid (OwnD.fr HO7.out hf10 (ownD_ne HO7.out (.inl hbw)))
        have HFINAL := hid (dic_go HREL.out HF1.out (com_tidy hrel9))
        clear hp10 hf10 hrel9
        go_wp2_with fail
        go_roundg (if q9 then s.size - j9 + 1 else 0)
        case measure =>
          cases q9
          · simp; omega
          · have := hq9 rfl
            simp
            omega
        case rel => exact hid ⟨_, rfl, j9, bad9, odd9, q9, _, rfl, hj9s, Nat.le_refl _, fun h => (hq9 h).2, HP10.out, HO10.out, by
          cases q9
          · simp; omega
          · have := hq9 rfl
            simp
            omega, HF10.out, HFINAL.out⟩
      have q61 : ((hdN ((bl s).drop j1) : Int) == 61) = true := eqT h61
      have hlt1 : j1 < s.size := drop_lt (by omega)
      obtain ⟨d, hdc, hdh⟩ := drop_cons hlt1
      have HDC := hid hdc
      have HDD := hid (hdh.trans h61)
      clear h61 hdc hdh
      have v1 : (0 : Int) ≤ (j1 : Int) := by omega
      have v2 : (j1 : Int) + 1 ≤ 4294967294 := by omega
      have c1 := HD2.out.ps.c1
      have z1 := HD2.out.ps.fz 1
      have HD3 := hid (HD2.out.at (j1 + 1) ((j1 : Int) + 1) (by omega))
      have z3 := HD2.out.mx.fz 3
      have y0 := HD2.out.mx.c0
      have y1 := HD2.out.mx.c1
      have y2 := HD2.out.mx.c2
      have y3 := HD2.out.mx.c3
      have HD4 := hid (HD3.out.put3 false)
      go_wp2_with fail
      refine (member_any b (j1 + 1) s odd' _ hs (by omega) HD4.out.ps).mono ?_
      rintro e w5 ⟨hf5, vv, j2, bad2, odd2, rfl, hj2, hj2s, hp5, hmem⟩
      have HD5 := hid (HD4.out.call hf5 hp5)
      clear y0 y1 y2 y3 c1 z1 z3
      have yf := HD5.out.mx.fz 1
      have y0 := HD5.out.mx.c0
      have y1 := HD5.out.mx.c1
      have y2 := HD5.out.mx.c2
      have y3 := HD5.out.mx.c3
      have c2 := HD5.out.ps.c2
      have hw5 : W.heap.size ≤ w5.heap.size := HD5.out.fr.size
      have HMEM := hid hmem
      clear hf5 hp5 hmem HD2 HD3 HD4
      cases bad2
      case true =>
        have HD := hid (HD5.out.put1 vv)
        have HF1 := hid (show DicF1 s odd' odd2 true j j2 (kk, vv, ⟨#[]⟩, false) from fun h => by
          obtain ⟨g1, ⟨_, g3⟩ | ⟨g2, _⟩⟩ := HMEM.out h
          · exact ⟨g1, .inl ⟨rfl, dicT_noval HK.out (by rw [HDC.out, dicV_yes HDD.out, g3]; rfl)⟩⟩
          · cases g2)
        have hD := HD.out
        have hown0 := hD.own
        have m0 := hD.mx.c0
        have m1 := hD.mx.c1
        have m2 := hD.mx.c2
        have m3 := hD.mx.c3
        have hsz := hD.fr.size
        have hvb : v.ownBlock ≠ some b := ownD_ne hown0 (.inl hbw)
        clear hD
        go_wp2_with (at_builtin; refine wpList_append_own _ rfl _ _ 43 rfl W.heap.size 50 i0 (.agg #[.string ⟨#[]⟩, .string ⟨#[]⟩, .string ⟨#[]⟩, .bool false]) 4 56 Tryd.underlying43 hi hz0 hz1 hz2 rfl (by decide) _ _ _ rfl (hown0.alloc _) ⟨w5.heap.size, 0, none⟩ 1 1 [.string kk, .string vv, .string ⟨#[]⟩, .bool false] rfl rfl (four_new2 _ _ _ _ _ _ (by simp[World.setCell])) (four_one _ _ _ _) (by unfold maxLen; omega) (by omega) (by simp at hsz ⊢ <;> omega) ?_; intro v' w9 hown' hgrow _)
        have hD := HD.out
        have HP7 := hid (hD.ps.grown hgrow hvb)
        have HF7 := hid (hD.fr.grown hgrow (fun i e => (hown0.lt i e).1))
        have HO7 := hid (OwnD.of_row hown')
        clear hown' hgrow hown0 hvb m0 m1 m2 m3 hD HD
        refine (comma_any b j2 s true odd2 false _ hs (by omega) HP7.out).mono ?_
        rintro e w10 ⟨hf10, j9, bad9, odd9, q9, rfl, hj9, hj9s, hp10, hq9, hrel9⟩
        have HP10 := hid hp10
        have HF10 := hid (HF7.out.trans hf10)
        have HO10 := hid (OwnD.fr HO7.out hf10 (ownD_ne HO7.out (.inl hbw)))
        have HFINAL := hid (dic_go HREL.out HF1.out (com_tidy hrel9))
        clear hp10 hf10 hrel9
        go_wp2_with fail
        go_roundg (if q9 then s.size - j9 + 1 else 0)
        case measure =>
          cases q9
          · simp; omega
          · have := hq9 rfl
            simp
            omega
        case rel => exact hid ⟨_, rfl, j9, bad9, odd9, q9, _, rfl, hj9s, Nat.le_refl _, fun h => (hq9 h).2, HP10.out, HO10.out, by
          cases q9
          · simp; omega
          · have := hq9 rfl
            simp
            omega, HF10.out, HFINAL.out⟩
      case false =>
        have HD6 := hid (HD5.out.put1 vv)
        go_wp2_with fail
        refine (parameters_any b j2 s false odd2 _ hs hj2s HD6.out.ps (fun h => by cases h)).mono ?_
        rintro e w7 ⟨hf7, pp, v3, ps2, j3, bad3, odd3, rfl, hj3, hj3s, hp7, _, _, hrel7⟩
        have HD7 := hid (HD6.out.call hf7 hp7)
        have HD := hid (HD7.out.put2 pp)
        clear y0 y1 y2 y3 c2 yf
        have yf := HD7.out.mx.fz 2
        have y0 := HD7.out.mx.c0
        have y1 := HD7.out.mx.c1
        have y2 := HD7.out.mx.c2
        have y3 := HD7.out.mx.c3
        have hw7 : W.heap.size ≤ w7.heap.size := HD7.out.fr.size
        have HF1 := hid (show DicF1 s odd' odd3 bad3 j j3 (kk, vv, pp, false) from fun h => by
          obtain ⟨g1, hpar⟩ := hrel7 h
          obtain ⟨g2, ⟨g3, _⟩ | ⟨_, r, g3, g4, g5, _⟩⟩ := HMEM.out g1
          · cases g3
          subst g4
          have hV : dicV ((bl s).drop j1) = some (some (bl vv), (bl s).drop j2) := by rw [HDC.out, dicV_yes HDD.out, g3, g5]; rfl
          rcases hpar with ⟨g6, g7⟩ | ⟨g6, ys, r, g7, g8, g9, _⟩
          · exact ⟨g2, .inl ⟨g6, dicT_nopar HK.out hV g7⟩⟩
          · subst g8
            exact ⟨g2, .inr ⟨g6, _, _, _, _, HK.out, hV, g7, by simp only [dM, HKK.out, g9]; rfl⟩⟩)
        clear hf7 hp7 hrel7 HD5 HD6
        have hD := HD.out
        have hown0 := hD.own
        have m0 := hD.mx.c0
        have m1 := hD.mx.c1
        have m2 := hD.mx.c2
        have m3 := hD.mx.c3
        have hsz := hD.fr.size
        have hvb : v.ownBlock ≠ some b := ownD_ne hown0 (.inl hbw)
        clear hD
        go_wp2_with (at_builtin; refine wpList_append_own _ rfl _ _ 43 rfl W.heap.size 50 i0 (.agg #[.string ⟨#[]⟩, .string ⟨#[]⟩, .string ⟨#[]⟩, .bool false]) 4 56 Tryd.underlying43 hi hz0 hz1 hz2 rfl (by decide) _ _ _ rfl (hown0.alloc _) ⟨w7.heap.size, 0, none⟩ 1 1 [.string kk, .string vv, .string pp, .bool false] rfl rfl (four_new2 _ _ _ _ _ _ (by simp[World.setCell])) (four_one _ _ _ _) (by unfold maxLen; omega) (by omega) (by simp at hsz ⊢ <;> omega) ?_; intro v' w9 hown' hgrow _)
        have hD := HD.out
        have HP7 := hid (hD.ps.grown hgrow hvb)
        have HF7 := hid (hD.fr.grown hgrow (fun i e => (hown0.lt i e).1))
        have HO7 := hid (OwnD.of_row hown')
        clear hown' hgrow hown0 hvb m0 m1 m2 m3 hD HD
        refine (comma_any b j3 s bad3 odd3 false _ hs (by omega) HP7.out).mono ?_
        rintro e w10 ⟨hf10, j9, bad9, odd9, q9, rfl, hj9, hj9s, hp10, hq9, hrel9⟩
        have HP10 := hid hp10
        have HF10 := hid (HF7.out.trans hf10)
        have HO10 := hid (OwnD.fr HO7.out hf10 (ownD_ne HO7.out (.inl hbw)))
        have HFINAL := hid (dic_go HREL.out HF1.out (com_tidy hrel9))
        clear hp10 hf10 hrel9
        go_wp2_with fail
        go_roundg (if q9 then s.size - j9 + 1 else 0)
        case measure =>
          cases q9
          · simp; omega
          · have := hq9 rfl
            simp
            omega
        case rel => exact hid ⟨_, rfl, j9, bad9, odd9, q9, _, rfl, hj9s, Nat.le_refl _, fun h => (hq9 h).2, HP10.out, HO10.out, by
          cases q9
          · simp; omega
          · have := hq9 rfl
            simp
            omega, HF10.out, HFINAL.out⟩

end Go.Proofs.YtohjnegllfdemaaDoor
