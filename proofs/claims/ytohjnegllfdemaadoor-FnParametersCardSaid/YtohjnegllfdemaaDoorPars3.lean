/-
  The walk of the reference's item.
-/
import Derived.Test.YtohjnegllfdemaaDoorPars2
import Derived.Test.YtohjnegllfdemaaDoorGram4
import Derived.Deep.RegionHeld3
set_option maxRecDepth 100000
namespace Go.Proofs.YtohjnegllfdemaaDoor
open Go.RowKit

/-- Behind an item: the text, and where the parser stands. -/
def ItPost (b : Nat) (s : ByteArray) (k : Nat) (odd : Bool) (w : World) (e : Ending) (w' : World) : Prop :=
  Fr b w w' ∧ ((bare ((bl s).drop k) = none ∧ e = .returned (.string ⟨#[]⟩) ∧ PS w' b s k true odd) ∨
    ∃ (t : ByteArray) (k' : Nat) (odd' : Bool), e = .returned (.string t) ∧ k ≤ k' ∧ k' ≤ s.size ∧ PS w' b s k' false odd' ∧
      (odd' = false → odd = false ∧ ∃ r, bare ((bl s).drop k) = some r ∧ (bl s).drop k' = r ∧ bl t = ahead ((bl s).drop k) r))

/-- What is known of a new bare item's block behind a call. -/
theorem bare_blk {w W w1 : World} (hg : Gr W w1) (h : W.heap[w.heap.size]? = some (.cells #[.int .i64 0, .string ⟨#[]⟩, .string ⟨#[]⟩, .bool false] 23 (0, 0))) :
    Hid (w1.heap[w.heap.size]? = some (.cells #[.int .i64 0, .string ⟨#[]⟩, .string ⟨#[]⟩, .bool false] 23 (0, 0))) ∧
    w1.cell? ⟨w.heap.size, 0, none⟩ = some (.int .i64 0) ∧ w1.cell? ⟨w.heap.size, 1, none⟩ = some (.string ⟨#[]⟩) ∧ w1.cell? ⟨w.heap.size, 2, none⟩ = some (.string ⟨#[]⟩) ∧ w1.cell? ⟨w.heap.size, 3, none⟩ = some (.bool false) ∧
    w1.frozen? ⟨w.heap.size, 0, none⟩ = false ∧ w1.frozen? ⟨w.heap.size, 1, none⟩ = false ∧ w1.frozen? ⟨w.heap.size, 2, none⟩ = false ∧ w1.frozen? ⟨w.heap.size, 3, none⟩ = false := by
  have hz : w1.heap[w.heap.size]? = some (.cells #[.int .i64 0, .string ⟨#[]⟩, .string ⟨#[]⟩, .bool false] 23 (0, 0)) := by
    rw [Below.block hg _ (lt_of_block h)]
    exact h
  refine ⟨hz, ?_, ?_, ?_, ?_, Lib.frozen_of_heap hz 0, Lib.frozen_of_heap hz 1, Lib.frozen_of_heap hz 2, Lib.frozen_of_heap hz 3⟩
  all_goals
    rw [Lib.cell_of_heap hz]
    rfl

theorem bare_blk2 {w W w1 : World} (hg : Gr W w1) {G : Prop} (h : W.heap[w.heap.size]? = some (.cells #[.int .i64 0, .string ⟨#[]⟩, .string ⟨#[]⟩, .bool false] 23 (0, 0))) (K : (Hid (w1.heap[w.heap.size]? = some (.cells #[.int .i64 0, .string ⟨#[]⟩, .string ⟨#[]⟩, .bool false] 23 (0, 0))) ∧
    w1.cell? ⟨w.heap.size, 0, none⟩ = some (.int .i64 0) ∧ w1.cell? ⟨w.heap.size, 1, none⟩ = some (.string ⟨#[]⟩) ∧ w1.cell? ⟨w.heap.size, 2, none⟩ = some (.string ⟨#[]⟩) ∧ w1.cell? ⟨w.heap.size, 3, none⟩ = some (.bool false) ∧
    w1.frozen? ⟨w.heap.size, 0, none⟩ = false ∧ w1.frozen? ⟨w.heap.size, 1, none⟩ = false ∧ w1.frozen? ⟨w.heap.size, 2, none⟩ = false ∧ w1.frozen? ⟨w.heap.size, 3, none⟩ = false) → G) : G := K (bare_blk hg h)

theorem Item_plain (s : ByteArray) (w : World) (hs : s.size ≤ 2147483647) :
    Calls Tryd.prog 30 #[.string s] w fun e w' => (∃ (kind : Int) (t v : ByteArray) (odd ok : Bool), e = .returned (.tuple #[.agg #[.int .i64 kind, .string t, .string v, .bool odd], .bool ok]) ∧ Hid (ItemRel (bl s) kind (bl t) (bl v) odd ok)) ∧ Gr w w' :=
  (Item_any s w hs).mono fun _ _ ⟨⟨kind, t, v, odd, ok, he, hr⟩, hg⟩ => ⟨⟨kind, t, v, odd, ok, he, hid hr⟩, hg⟩

theorem itPost_bad {b k : Nat} {s : ByteArray} {odd : Bool} {w w' : World} (hf : Fr b w w') (hb : bare ((bl s).drop k) = none) (hp : PS w' b s k true odd) : ItPost b s k odd w (.returned (.string ⟨#[]⟩)) w' := ⟨hf, .inl ⟨hb, rfl, hp⟩⟩
theorem itPost_ok {b k : Nat} {s t v : ByteArray} {kind : Int} {odd odd' o2 : Bool} {w w' : World} (hk : k ≤ s.size) (hf : Fr b w w') (hr : ItemRel (bl (s.extract k s.size)) kind (bl t) (bl v) odd' true) (ho : o2 = (odd || odd')) (hp : PS w' b s (k + t.size) false o2) : ItPost b s k odd w (.returned (.string t)) w' := by
  rw [bl_from] at hr
  have hl : ((bl s).drop k).length = s.size - k := by rw [List.length_drop, bl_length]
  rcases rel_bare hr with ⟨h, _⟩ | ⟨_, ht, h⟩
  · cases h
  · rw [bl_length, hl] at ht
    refine ⟨hf, .inr ⟨t, k + t.size, o2, rfl, by omega, by omega, hp, fun h0 => ?_⟩⟩
    subst ho
    simp only [Bool.or_eq_false_iff] at h0
    rcases h with h | ⟨_, r, hb, hta, hrl⟩
    · rw [h] at h0; exact absurd h0.2 (by simp)
    · refine ⟨h0.1, r, hb, ?_, hta⟩
      have hs := suf_drop (bare_suf hb)
      have : t.size = ((bl s).drop k).length - r.length := by rw [← bl_length, hta, ahead, List.length_take]; omega
      rw [List.drop_drop, ← this] at hs
      exact hs

theorem itRel_len {s t v : ByteArray} {k : Nat} {kind : Int} {odd : Bool} (h : ItemRel (bl (s.extract k s.size)) kind (bl t) (bl v) odd true) : t.size ≤ s.size := by
  rw [bl_from] at h
  rcases rel_bare h with ⟨h, _⟩ | ⟨_, h, _⟩
  · cases h
  · rw [bl_length, List.length_drop, bl_length] at h
    omega
theorem PS.other {w : World} {b B k : Nat} {s : ByteArray} {bad odd : Bool} (h : PS w b s k bad odd) (hB : B ≠ b) (j : Nat) (u : Value) : PS (w.setCell ⟨B, j, none⟩ u) b s k bad odd := by
  unfold PS
  rw [heap_setCell_other _ _ _ _ (by simpa using hB.symm)]
  exact h
theorem itRel_no {s t v : ByteArray} {k : Nat} {kind : Int} {odd : Bool} (h : ItemRel (bl (s.extract k s.size)) kind (bl t) (bl v) odd false) : bare ((bl s).drop k) = none := by
  rw [bl_from] at h
  rcases rel_bare h with ⟨_, h⟩ | ⟨h, _⟩
  · exact h
  · cases h

set_option maxHeartbeats 4000000 in
theorem item_any (b k : Nat) (s : ByteArray) (odd : Bool) (w : World) (hs : s.size ≤ 2147483647) (hk : k ≤ s.size) (h : PS w b s k false odd) :
    Calls Tryd.prog 38 #[.pointer (some ⟨b, 0, none⟩)] w fun e w' => ItPost b s k odd w e w' := by
  have HP := hid h
  have c0 := h.c0
  have c1 := h.c1
  have i1 : (k : Int) ≤ (s.size : Int) := by omega
  have i2 : (0 : Int) ≤ (k : Int) := by omega
  have en := World.new_ne w ⟨b, 0, none⟩ c0
  have hsz : (s.extract k s.size).size ≤ 2147483647 := by rw [ByteArray.size_extract]; omega
  clear h
  go_enter Tryd.func38, Tryd.ntmps38
  go_wp2_with fail
  go_region_held3 (fun w' => w'.cell? ⟨b, 0, none⟩ = some (.string s) ∧ w'.cell? ⟨b, 1, none⟩ = some (.int .i64 (k : Nat))) (go_keep)
    (first | (go_at_call 30; refine (Item_plain (s.extract k s.size) _ hsz).mono ?_; rintro e w1 ⟨⟨kind, t, v, odd', ok, rfl, hrel⟩, hg⟩; have k0 : w1.cell? ⟨b, 0, none⟩ = some (.string s) := hg.cell (by simp [*]); have k1 : w1.cell? ⟨b, 1, none⟩ = some (.int .i64 (k : Nat)) := hg.cell (by simp [*]); first | (refine bare_blk2 (w := w) hg ?_ ?_; exact heap_alloc_new w _; rintro ⟨HZ, z0, z1, z2, z3, y0, y1, y2, y3⟩) | skip))
  · have hgw : Gr w w1 := Gr.trans (Gr.refl w).drew hg
    have hHW : PS (w1.alloc (.cells #[.int .i64 kind, .string t, .string v, .bool odd'] 23)) b s k false odd := HP.out.gr (hgw.alloc _)
    have hFR : Fr b w (w1.alloc (.cells #[.int .i64 kind, .string t, .string v, .bool odd'] 23)) := Fr.of_gr (hgw.alloc _)
    have b1 : (w1.alloc (.cells #[.int .i64 kind, .string t, .string v, .bool odd'] 23)).cell? ⟨w1.heap.size, 1, none⟩ = some (.string t) := by rw [Lib.cell_of_heap (heap_alloc_new w1 _)]; rfl
    have b3 : (w1.alloc (.cells #[.int .i64 kind, .string t, .string v, .bool odd'] 23)).cell? ⟨w1.heap.size, 3, none⟩ = some (.bool odd') := by rw [Lib.cell_of_heap (heap_alloc_new w1 _)]; rfl
    have en1 : w1.heap.size ≠ b := by
      have := Nat.lt_of_lt_of_le (lt_of_block HP.out) hgw.size
      omega
    clear k0 k1 hg hgw
    generalize w1.alloc (.cells #[.int .i64 kind, .string t, .string v, .bool odd'] 23) = W at *
    generalize w1.heap.size = B2 at *
    have HW := hid hHW
    have HFR := hid hFR
    clear hHW hFR
    have d0 := HW.out.c0
    have d1 := HW.out.c1
    have d2 := HW.out.c2
    have d3 := HW.out.c3
    have f1 := HW.out.fz 1
    have f2 := HW.out.fz 2
    have f3 := HW.out.fz 3
    cases ok
    · have HBN := hid (itRel_no hrel.out)
      go_wp2_with fail
      go_ret
      exact itPost_bad (HFR.out.set 2 _) HBN.out (HW.out.worse true)
    · have hx0 : (k : Int) + (t.size : Int) ≤ 4294967294 := by
        have h1 := itRel_len hrel.out
        omega
      have hx1 : (0 : Int) ≤ (t.size : Int) := by omega
      cases odd
      · go_wp2_with fail
        go_region
        all_goals
          go_wp2_with fail
          go_ret
          exact itPost_ok hk (Fr.trans ((HFR.out.set 3 _).set 1 _) (Fr.of_gr (Gr.refl _).drew)) hrel.out (o2 := odd') rfl (((HW.out.odder odd').at (k + t.size) ((k : Int) + (t.size : Int)) (by omega)).gr (Gr.refl _).drew)
      · go_wp2_with fail
        go_region
        all_goals
          go_wp2_with fail
          go_ret
          exact itPost_ok hk (Fr.trans ((HFR.out.set 3 _).set 1 _) (Fr.of_gr (Gr.refl _).drew)) hrel.out (o2 := true) rfl (((HW.out.odder true).at (k + t.size) ((k : Int) + (t.size : Int)) (by omega)).gr (Gr.refl _).drew)
  · have hgw : Gr w w1 := Gr.trans ((Gr.refl w).alloc _).drew hg
    have hHW : PS ((((w1.setCell ⟨w.heap.size, 0, none⟩ (.int .i64 kind)).setCell ⟨w.heap.size, 1, none⟩ (.string t)).setCell ⟨w.heap.size, 2, none⟩ (.string v)).setCell ⟨w.heap.size, 3, none⟩ (.bool odd')) b s k false odd := ((((HP.out.gr hgw).other (B := w.heap.size) en 0 (.int .i64 kind)).other (B := w.heap.size) en 1 (.string t)).other (B := w.heap.size) en 2 (.string v)).other (B := w.heap.size) en 3 (.bool odd')
    have hFR : Fr b w ((((w1.setCell ⟨w.heap.size, 0, none⟩ (.int .i64 kind)).setCell ⟨w.heap.size, 1, none⟩ (.string t)).setCell ⟨w.heap.size, 2, none⟩ (.string v)).setCell ⟨w.heap.size, 3, none⟩ (.bool odd')) := Fr.of_gr (b := b) ((((hgw.setCell (p := ⟨w.heap.size, 0, none⟩) (Nat.le_refl _) (.int .i64 kind)).setCell (p := ⟨w.heap.size, 1, none⟩) (Nat.le_refl _) (.string t)).setCell (p := ⟨w.heap.size, 2, none⟩) (Nat.le_refl _) (.string v)).setCell (p := ⟨w.heap.size, 3, none⟩) (Nat.le_refl _) (.bool odd'))
    have hz1 := heap_setCell_same w1 w.heap.size 0 _ _ (.int .i64 kind) HZ.out
    have hz2 := heap_setCell_same _ w.heap.size 1 _ _ (.string t) hz1
    have hz3 := heap_setCell_same _ w.heap.size 2 _ _ (.string v) hz2
    have hz4 := heap_setCell_same _ w.heap.size 3 _ _ (.bool odd') hz3
    have b1 : ((((w1.setCell ⟨w.heap.size, 0, none⟩ (.int .i64 kind)).setCell ⟨w.heap.size, 1, none⟩ (.string t)).setCell ⟨w.heap.size, 2, none⟩ (.string v)).setCell ⟨w.heap.size, 3, none⟩ (.bool odd')).cell? ⟨w.heap.size, 1, none⟩ = some (.string t) := by rw [Lib.cell_of_heap hz4]; rfl
    have b3 : ((((w1.setCell ⟨w.heap.size, 0, none⟩ (.int .i64 kind)).setCell ⟨w.heap.size, 1, none⟩ (.string t)).setCell ⟨w.heap.size, 2, none⟩ (.string v)).setCell ⟨w.heap.size, 3, none⟩ (.bool odd')).cell? ⟨w.heap.size, 3, none⟩ = some (.bool odd') := by rw [Lib.cell_of_heap hz4]; rfl
    have en1 : w.heap.size ≠ b := en
    clear k0 k1 hg hgw HZ z0 z1 z2 z3 y0 y1 y2 y3 hz1 hz2 hz3 hz4
    generalize ((((w1.setCell ⟨w.heap.size, 0, none⟩ (.int .i64 kind)).setCell ⟨w.heap.size, 1, none⟩ (.string t)).setCell ⟨w.heap.size, 2, none⟩ (.string v)).setCell ⟨w.heap.size, 3, none⟩ (.bool odd')) = W at *
    generalize w.heap.size = B2 at *
    have HW := hid hHW
    have HFR := hid hFR
    clear hHW hFR
    have d0 := HW.out.c0
    have d1 := HW.out.c1
    have d2 := HW.out.c2
    have d3 := HW.out.c3
    have f1 := HW.out.fz 1
    have f2 := HW.out.fz 2
    have f3 := HW.out.fz 3
    cases ok
    · have HBN := hid (itRel_no hrel.out)
      go_wp2_with fail
      go_ret
      exact itPost_bad (HFR.out.set 2 _) HBN.out (HW.out.worse true)
    · have hx0 : (k : Int) + (t.size : Int) ≤ 4294967294 := by
        have h1 := itRel_len hrel.out
        omega
      have hx1 : (0 : Int) ≤ (t.size : Int) := by omega
      cases odd
      · go_wp2_with fail
        go_region
        all_goals
          go_wp2_with fail
          go_ret
          exact itPost_ok hk (Fr.trans ((HFR.out.set 3 _).set 1 _) (Fr.of_gr (Gr.refl _).drew)) hrel.out (o2 := odd') rfl (((HW.out.odder odd').at (k + t.size) ((k : Int) + (t.size : Int)) (by omega)).gr (Gr.refl _).drew)
      · go_wp2_with fail
        go_region
        all_goals
          go_wp2_with fail
          go_ret
          exact itPost_ok hk (Fr.trans ((HFR.out.set 3 _).set 1 _) (Fr.of_gr (Gr.refl _).drew)) hrel.out (o2 := true) rfl (((HW.out.odder true).at (k + t.size) ((k : Int) + (t.size : Int)) (by omega)).gr (Gr.refl _).drew)

end Go.Proofs.YtohjnegllfdemaaDoor
