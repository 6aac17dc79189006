/-
  Rows of pairs of texts that a call itself appends to; the walks of impl's closures.
-/
import Derived.Test.YtohjnegllfdemaaDoorBare
import Derived.Test.YtohjnegllfdemaaDoorGram4
set_option maxRecDepth 100000
namespace Go.Proofs.YtohjnegllfdemaaDoor
open Go.RowKit

theorem infoPair : (Tryd.prog.info? 41).map (fun i => (i.zero, i.size, i.bytes)) = some (some (.agg #[.string ⟨#[]⟩, .string ⟨#[]⟩]), 2, 32) := by kernel_rfl
theorem infoMember : (Tryd.prog.info? 52).map (fun i => (i.zero, i.size, i.bytes)) = some (some (.agg #[.string ⟨#[]⟩, .string ⟨#[]⟩, .string ⟨#[]⟩]), 3, 48) := by kernel_rfl
theorem infoSPair : (Tryd.prog.info? 38).map (fun i => (i.zero, i.size, i.bytes)) = some (some (.agg #[.string ⟨#[]⟩, .string ⟨#[]⟩]), 2, 32) := by kernel_rfl

/-- Pairs of texts. -/
abbrev Ps := List (ByteArray × ByteArray)
def flat : Ps → List Value
  | [] => []
  | x :: r => .string x.1 :: .string x.2 :: flat r
theorem flat_push (xs : Ps) (a b : ByteArray) : flat xs ++ [.string a, .string b] = flat (xs ++ [(a, b)]) := by
  induction xs with
  | nil => rfl
  | cons x r ih => simp only [flat, List.cons_append, ih]

/-- The value is a slice of pairs of the call's own, and holds these. -/
def OwnP (w : World) (base : Nat) (T : TypeId) (v : Value) (xs : Ps) : Prop := w.ownsRow base T 2 v xs.length (flat xs)
theorem OwnP.row {w : World} {base : Nat} {T : TypeId} {v : Value} {xs : Ps} (h : OwnP w base T v xs) : w.ownsRow base T 2 v xs.length (flat xs) := h
theorem OwnP.nil (w : World) (base : Nat) (T : TypeId) : OwnP w base T (.slice none 0 0) [] := World.ownsRow_nil _ _ _ _
theorem OwnP.of_row {w : World} {base : Nat} {T : TypeId} {v : Value} {xs : Ps} {a b : ByteArray} (h : w.ownsRow base T 2 v (xs.length + 1) (flat xs ++ [.string a, .string b])) : OwnP w base T v (xs ++ [(a, b)]) := by
  unfold OwnP
  rw [← flat_push, List.length_append]
  exact h
theorem OwnP.alloc {w : World} {base : Nat} {T : TypeId} {v : Value} {xs : Ps} (h : OwnP w base T v xs) (o : Obj) : OwnP (w.alloc o) base T v xs := World.ownsRow.alloc h o
theorem OwnP.gr {w w' : World} {base : Nat} {T : TypeId} {v : Value} {xs : Ps} (h : OwnP w base T v xs) (k : Gr w w') : OwnP w' base T v xs := by
  refine World.ownsRow.kept h (row := none) ⟨k.os, k.tape, k.output, k.size, fun i hi _ => k.block i hi⟩ ?_
  cases v.ownBlock with
  | none => exact .inl rfl
  | some b => exact .inr (by simp)
/-- The row's block is no block of another type. -/
theorem ownB_ne {w : World} {B : Nat} {e T : TypeId} {v : Value} {n m : Nat} {xs : List Value} {b : Nat} {cs : Array Value} {fr : Nat × Nat} (hown : w.ownsRow B e m v n xs) (hb : w.heap[b]? = some (.cells cs T fr)) (hTe : T ≠ e) : v.ownBlock ≠ some b := by
  rcases hown.2 with ⟨rfl, _⟩ | ⟨g, cap, cur, rfl, _, hg, _⟩
  · simp [Value.ownBlock]
  · intro h
    simp only [Value.ownBlock, Option.some.injEq] at h
    subst h
    rw [hg] at hb
    simp only [Option.some.injEq, Obj.cells.injEq] at hb
    exact hTe hb.2.1.symm

/-- What a captured variable holds: pairs handed out so far. -/
def Cap (w : World) (C base : Nat) (xs : Ps) : Prop := ∃ v, w.heap[C]? = some (.cells #[v] 33 (0, 0)) ∧ OwnP w base 41 v xs
theorem Cap.gr {w w' : World} {C base : Nat} {xs : Ps} (h : Cap w C base xs) (g : Gr w w') : Cap w' C base xs := by
  obtain ⟨v, h1, h2⟩ := h
  exact ⟨v, by rw [Below.block g _ (lt_of_block h1)]; exact h1, h2.gr g⟩
theorem Cap.start (w : World) : Cap (w.alloc (.cells #[.slice none 0 0] 33)) w.heap.size w.heap.size [] := ⟨_, heap_alloc_new w _, OwnP.nil _ _ _⟩

/-- A triple's row. -/
abbrev Ts := List (ByteArray × ByteArray × ByteArray)
def flat3 : Ts → List Value
  | [] => []
  | x :: r => .string x.1 :: .string x.2.1 :: .string x.2.2 :: flat3 r
theorem flat3_push (xs : Ts) (a b c : ByteArray) : flat3 xs ++ [.string a, .string b, .string c] = flat3 (xs ++ [(a, b, c)]) := by
  induction xs with
  | nil => rfl
  | cons x r ih => simp only [flat3, List.cons_append, ih]
def Cap3 (w : World) (C base : Nat) (xs : Ts) : Prop := ∃ v, w.heap[C]? = some (.cells #[v] 46 (0, 0)) ∧ w.ownsRow base 52 3 v xs.length (flat3 xs)
theorem Cap3.gr {w w' : World} {C base : Nat} {xs : Ts} (h : Cap3 w C base xs) (g : Gr w w') : Cap3 w' C base xs := by
  obtain ⟨v, h1, h2⟩ := h
  refine ⟨v, by rw [Below.block g _ (lt_of_block h1)]; exact h1, World.ownsRow.kept h2 (row := none) ⟨g.os, g.tape, g.output, g.size, fun i hi _ => g.block i hi⟩ ?_⟩
  cases v.ownBlock with
  | none => exact .inl rfl
  | some b => exact .inr (by simp)
theorem Cap3.start (w : World) : Cap3 (w.alloc (.cells #[.slice none 0 0] 46)) w.heap.size w.heap.size [] := ⟨_, heap_alloc_new w _, World.ownsRow_nil _ _ _ _⟩

set_option maxHeartbeats 2000000 in
theorem cloParameters (B C base : Nat) (a b : ByteArray) (xs : Ps) (w : World) (hB : B ≤ base) (hC : B ≤ C) (hbase : base ≤ w.heap.size) (hs : Cap w C base xs) (hlen : xs.length + 1 ≤ 4294967297) :
    Calls Tryd.prog 37 #[.string a, .string b, .pointer (some ⟨C, 0, none⟩)] w fun e w' => e = .returned (.tuple #[]) ∧ Cap w' C base (xs ++ [(a, b)]) ∧ Below B w w' := by
  obtain ⟨i0, hi, hz0, hz1, hz2⟩ := info_parts infoPair
  obtain ⟨v, hc, hown⟩ := hs
  have c0 := cell_of_one hc
  have hown0 := hown.row
  have hne := ownB_ne hown0 hc (by decide)
  have hlt := lt_of_block hc
  have HC := hid hc
  clear hc
  go_enter Tryd.func37, Tryd.ntmps37
  go_wp2_with (at_builtin; refine wpList_append_own _ rfl _ _ 33 rfl base 41 i0 (.agg #[.string ⟨#[]⟩, .string ⟨#[]⟩]) 2 32 Tryd.underlying33 hi hz0 hz1 hz2 rfl (by decide) _ _ _ rfl (hown0.alloc _) ⟨w.heap.size, 0, none⟩ 1 1 [.string a, .string b] rfl rfl ?c1 ?c2 ?c3 ?c4 ?c5 ?_)
  case c1 =>
    intro j u hj
    match j, hj with
    | 0, hj => simp at hj; subst hj; simp [Addr.add]
    | 1, hj => simp at hj; subst hj; simp [Addr.add]
  case c2 => intro u hu; simp at hu; rcases hu with rfl | rfl <;> rfl
  case c3 => unfold maxLen; omega
  case c4 => omega
  case c5 => simp; omega
  intro v' w2 hown' hgrow _
  obtain ⟨g, cap, rfl⟩ : ∃ g cap, v' = .slice (some ⟨g, 0, none⟩) (xs.length + 1) cap := by
    rcases hown'.2 with ⟨_, h0⟩ | ⟨g, cap, cur, hv, _⟩
    · omega
    · exact ⟨g, cap, hv⟩
  have hb2 : w2.heap[C]? = some (.cells #[v] 33 (0, 0)) := by
    rw [hgrow.block C (by simp; omega) (fun e => hne e.symm), Lib.alloc_old w _ C hlt]
    exact HC.out
  have d0 := cell_of_one hb2
  have f0 := free_of_one hb2
  have HB2 := hid hb2
  have HO := hid (OwnP.of_row hown')
  have HG := hid hgrow
  clear hb2 hown' hgrow
  go_wp2
  go_end0
  refine ⟨rfl, ⟨_, one_setCell HB2.out, ?_⟩, ?_⟩
  · exact ownsRow_setCell_other HO.out (ownB_ne HO.out.row HB2.out (by decide)) _
  · exact (((Below.refl B w).alloc (by omega) _).grown HG.out (by simp; omega) (fun k hk => Nat.le_trans hB (hown0.lt k hk).1)).setCell (p := ⟨C, 0, none⟩) hC _

set_option maxHeartbeats 2000000 in
theorem cloItem (B C base : Nat) (a b : ByteArray) (xs : Ps) (w : World) (hB : B ≤ base) (hC : B ≤ C) (hbase : base ≤ w.heap.size) (hs : Cap w C base xs) (hlen : xs.length + 1 ≤ 4294967297) :
    Calls Tryd.prog 40 #[.string a, .string b, .pointer (some ⟨C, 0, none⟩)] w fun e w' => e = .returned (.tuple #[]) ∧ Cap w' C base (xs ++ [(a, b)]) ∧ Below B w w' := by
  obtain ⟨i0, hi, hz0, hz1, hz2⟩ := info_parts infoPair
  obtain ⟨v, hc, hown⟩ := hs
  have c0 := cell_of_one hc
  have hown0 := hown.row
  have hne := ownB_ne hown0 hc (by decide)
  have hlt := lt_of_block hc
  have HC := hid hc
  clear hc
  go_enter Tryd.func40, Tryd.ntmps40
  go_wp2_with (at_builtin; refine wpList_append_own _ rfl _ _ 33 rfl base 41 i0 (.agg #[.string ⟨#[]⟩, .string ⟨#[]⟩]) 2 32 Tryd.underlying33 hi hz0 hz1 hz2 rfl (by decide) _ _ _ rfl (hown0.alloc _) ⟨w.heap.size, 0, none⟩ 1 1 [.string a, .string b] rfl rfl ?c1 ?c2 ?c3 ?c4 ?c5 ?_)
  case c1 =>
    intro j u hj
    match j, hj with
    | 0, hj => simp at hj; subst hj; simp [Addr.add]
    | 1, hj => simp at hj; subst hj; simp [Addr.add]
  case c2 => intro u hu; simp at hu; rcases hu with rfl | rfl <;> rfl
  case c3 => unfold maxLen; omega
  case c4 => omega
  case c5 => simp; omega
  intro v' w2 hown' hgrow _
  obtain ⟨g, cap, rfl⟩ : ∃ g cap, v' = .slice (some ⟨g, 0, none⟩) (xs.length + 1) cap := by
    rcases hown'.2 with ⟨_, h0⟩ | ⟨g, cap, cur, hv, _⟩
    · omega
    · exact ⟨g, cap, hv⟩
  have hb2 : w2.heap[C]? = some (.cells #[v] 33 (0, 0)) := by
    rw [hgrow.block C (by simp; omega) (fun e => hne e.symm), Lib.alloc_old w _ C hlt]
    exact HC.out
  have d0 := cell_of_one hb2
  have f0 := free_of_one hb2
  have HB2 := hid hb2
  have HO := hid (OwnP.of_row hown')
  have HG := hid hgrow
  clear hb2 hown' hgrow
  go_wp2
  go_end0
  refine ⟨rfl, ⟨_, one_setCell HB2.out, ?_⟩, ?_⟩
  · exact ownsRow_setCell_other HO.out (ownB_ne HO.out.row HB2.out (by decide)) _
  · exact (((Below.refl B w).alloc (by omega) _).grown HG.out (by simp; omega) (fun k hk => Nat.le_trans hB (hown0.lt k hk).1)).setCell (p := ⟨C, 0, none⟩) hC _

set_option maxHeartbeats 2000000 in
theorem cloInner (B C base : Nat) (a b : ByteArray) (xs : Ps) (w : World) (hB : B ≤ base) (hC : B ≤ C) (hbase : base ≤ w.heap.size) (hs : Cap w C base xs) (hlen : xs.length + 1 ≤ 4294967297) :
    Calls Tryd.prog 44 #[.string a, .string b, .pointer (some ⟨C, 0, none⟩)] w fun e w' => e = .returned (.tuple #[]) ∧ Cap w' C base (xs ++ [(a, b)]) ∧ Below B w w' := by
  obtain ⟨i0, hi, hz0, hz1, hz2⟩ := info_parts infoPair
  obtain ⟨v, hc, hown⟩ := hs
  have c0 := cell_of_one hc
  have hown0 := hown.row
  have hne := ownB_ne hown0 hc (by decide)
  have hlt := lt_of_block hc
  have HC := hid hc
  clear hc
  go_enter Tryd.func44, Tryd.ntmps44
  go_wp2_with (at_builtin; refine wpList_append_own _ rfl _ _ 33 rfl base 41 i0 (.agg #[.string ⟨#[]⟩, .string ⟨#[]⟩]) 2 32 Tryd.underlying33 hi hz0 hz1 hz2 rfl (by decide) _ _ _ rfl (hown0.alloc _) ⟨w.heap.size, 0, none⟩ 1 1 [.string a, .string b] rfl rfl ?c1 ?c2 ?c3 ?c4 ?c5 ?_)
  case c1 =>
    intro j u hj
    match j, hj with
    | 0, hj => simp at hj; subst hj; simp [Addr.add]
    | 1, hj => simp at hj; subst hj; simp [Addr.add]
  case c2 => intro u hu; simp at hu; rcases hu with rfl | rfl <;> rfl
  case c3 => unfold maxLen; omega
  case c4 => omega
  case c5 => simp; omega
  intro v' w2 hown' hgrow _
  obtain ⟨g, cap, rfl⟩ : ∃ g cap, v' = .slice (some ⟨g, 0, none⟩) (xs.length + 1) cap := by
    rcases hown'.2 with ⟨_, h0⟩ | ⟨g, cap, cur, hv, _⟩
    · omega
    · exact ⟨g, cap, hv⟩
  have hb2 : w2.heap[C]? = some (.cells #[v] 33 (0, 0)) := by
    rw [hgrow.block C (by simp; omega) (fun e => hne e.symm), Lib.alloc_old w _ C hlt]
    exact HC.out
  have d0 := cell_of_one hb2
  have f0 := free_of_one hb2
  have HB2 := hid hb2
  have HO := hid (OwnP.of_row hown')
  have HG := hid hgrow
  clear hb2 hown' hgrow
  go_wp2
  go_end0
  refine ⟨rfl, ⟨_, one_setCell HB2.out, ?_⟩, ?_⟩
  · exact ownsRow_setCell_other HO.out (ownB_ne HO.out.row HB2.out (by decide)) _
  · exact (((Below.refl B w).alloc (by omega) _).grown HG.out (by simp; omega) (fun k hk => Nat.le_trans hB (hown0.lt k hk).1)).setCell (p := ⟨C, 0, none⟩) hC _

set_option maxHeartbeats 2000000 in
theorem cloList (B C base : Nat) (a b : ByteArray) (xs : Ps) (w : World) (hB : B ≤ base) (hC : B ≤ C) (hbase : base ≤ w.heap.size) (hs : Cap w C base xs) (hlen : xs.length + 1 ≤ 4294967297) :
    Calls Tryd.prog 48 #[.string a, .string b, .pointer (some ⟨C, 0, none⟩)] w fun e w' => e = .returned (.tuple #[]) ∧ Cap w' C base (xs ++ [(a, b)]) ∧ Below B w w' := by
  obtain ⟨i0, hi, hz0, hz1, hz2⟩ := info_parts infoPair
  obtain ⟨v, hc, hown⟩ := hs
  have c0 := cell_of_one hc
  have hown0 := hown.row
  have hne := ownB_ne hown0 hc (by decide)
  have hlt := lt_of_block hc
  have HC := hid hc
  clear hc
  go_enter Tryd.func48, Tryd.ntmps48
  go_wp2_with (at_builtin; refine wpList_append_own _ rfl _ _ 33 rfl base 41 i0 (.agg #[.string ⟨#[]⟩, .string ⟨#[]⟩]) 2 32 Tryd.underlying33 hi hz0 hz1 hz2 rfl (by decide) _ _ _ rfl (hown0.alloc _) ⟨w.heap.size, 0, none⟩ 1 1 [.string a, .string b] rfl rfl ?c1 ?c2 ?c3 ?c4 ?c5 ?_)
  case c1 =>
    intro j u hj
    match j, hj with
    | 0, hj => simp at hj; subst hj; simp [Addr.add]
    | 1, hj => simp at hj; subst hj; simp [Addr.add]
  case c2 => intro u hu; simp at hu; rcases hu with rfl | rfl <;> rfl
  case c3 => unfold maxLen; omega
  case c4 => omega
  case c5 => simp; omega
  intro v' w2 hown' hgrow _
  obtain ⟨g, cap, rfl⟩ : ∃ g cap, v' = .slice (some ⟨g, 0, none⟩) (xs.length + 1) cap := by
    rcases hown'.2 with ⟨_, h0⟩ | ⟨g, cap, cur, hv, _⟩
    · omega
    · exact ⟨g, cap, hv⟩
  have hb2 : w2.heap[C]? = some (.cells #[v] 33 (0, 0)) := by
    rw [hgrow.block C (by simp; omega) (fun e => hne e.symm), Lib.alloc_old w _ C hlt]
    exact HC.out
  have d0 := cell_of_one hb2
  have f0 := free_of_one hb2
  have HB2 := hid hb2
  have HO := hid (OwnP.of_row hown')
  have HG := hid hgrow
  clear hb2 hown' hgrow
  go_wp2
  go_end0
  refine ⟨rfl, ⟨_, one_setCell HB2.out, ?_⟩, ?_⟩
  · exact ownsRow_setCell_other HO.out (ownB_ne HO.out.row HB2.out (by decide)) _
  · exact (((Below.refl B w).alloc (by omega) _).grown HG.out (by simp; omega) (fun k hk => Nat.le_trans hB (hown0.lt k hk).1)).setCell (p := ⟨C, 0, none⟩) hC _

set_option maxHeartbeats 2000000 in
theorem cloDict (B C base : Nat) (a b c : ByteArray) (xs : Ts) (w : World) (hB : B ≤ base) (hC : B ≤ C) (hbase : base ≤ w.heap.size) (hs : Cap3 w C base xs) (hlen : xs.length + 1 ≤ 4294967297) :
    Calls Tryd.prog 51 #[.string a, .string b, .string c, .pointer (some ⟨C, 0, none⟩)] w fun e w' => e = .returned (.tuple #[]) ∧ Cap3 w' C base (xs ++ [(a, b, c)]) ∧ Below B w w' := by
  obtain ⟨i0, hi, hz0, hz1, hz2⟩ := info_parts infoMember
  obtain ⟨v, hc, hown⟩ := hs
  have c0 := cell_of_one hc
  have hown0 := hown
  have hne := ownB_ne hown0 hc (by decide)
  have hlt := lt_of_block hc
  have HC := hid hc
  clear hc
  go_enter Tryd.func51, Tryd.ntmps51
  go_wp2_with (at_builtin; refine wpList_append_own _ rfl _ _ 46 rfl base 52 i0 (.agg #[.string ⟨#[]⟩, .string ⟨#[]⟩, .string ⟨#[]⟩]) 3 48 Tryd.underlying46 hi hz0 hz1 hz2 rfl (by decide) _ _ _ rfl (hown0.alloc _) ⟨w.heap.size, 0, none⟩ 1 1 [.string a, .string b, .string c] rfl rfl ?c1 ?c2 ?c3 ?c4 ?c5 ?_)
  case c1 =>
    intro j u hj
    match j, hj with
    | 0, hj => simp at hj; subst hj; simp [Addr.add]
    | 1, hj => simp at hj; subst hj; simp [Addr.add]
    | 2, hj => simp at hj; subst hj; simp [Addr.add]
  case c2 => intro u hu; simp at hu; rcases hu with rfl | rfl | rfl <;> rfl
  case c3 => unfold maxLen; omega
  case c4 => omega
  case c5 => simp; omega
  intro v' w2 hown' hgrow _
  obtain ⟨g, cap, rfl⟩ : ∃ g cap, v' = .slice (some ⟨g, 0, none⟩) (xs.length + 1) cap := by
    rcases hown'.2 with ⟨_, h0⟩ | ⟨g, cap, cur, hv, _⟩
    · omega
    · exact ⟨g, cap, hv⟩
  have hb2 : w2.heap[C]? = some (.cells #[v] 46 (0, 0)) := by
    rw [hgrow.block C (by simp; omega) (fun e => hne e.symm), Lib.alloc_old w _ C hlt]
    exact HC.out
  have d0 := cell_of_one hb2
  have f0 := free_of_one hb2
  have HB2 := hid hb2
  have ho : w2.ownsRow base 52 3 (.slice (some ⟨g, 0, none⟩) (xs.length + 1) cap) (xs ++ [(a, b, c)]).length (flat3 (xs ++ [(a, b, c)])) := by
    rw [← flat3_push, List.length_append]
    exact hown'
  have HO := hid ho
  have HG := hid hgrow
  clear hb2 hown' hgrow ho
  go_wp2
  go_end0
  refine ⟨rfl, ⟨_, one_setCell HB2.out, ?_⟩, ?_⟩
  · exact ownsRow_setCell_other HO.out (ownB_ne HO.out HB2.out (by decide)) _
  · exact (((Below.refl B w).alloc (by omega) _).grown HG.out (by simp; omega) (fun k hk => Nat.le_trans hB (hown0.lt k hk).1)).setCell (p := ⟨C, 0, none⟩) hC _

end Go.Proofs.YtohjnegllfdemaaDoor
