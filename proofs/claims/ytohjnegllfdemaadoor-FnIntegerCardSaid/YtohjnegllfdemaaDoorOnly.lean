/-
  The walk of spec.Only.
-/
import Derived.Test.YtohjnegllfdemaaDoorItem
set_option maxRecDepth 100000
namespace Go.Proofs.YtohjnegllfdemaaDoor
open Go.RowKit

/-- What Only says: 2: left out; 0: none; 1: one. -/
def OnlyPost (s : ByteArray) (kind : Int) (e : Ending) : Prop :=
  ∃ (k : Int) (t v : ByteArray) (odd ok : Bool) (q : Int), e = .returned (.tuple #[.agg #[.int .i64 k, .string t, .string v, .bool odd], .int .i64 q]) ∧ ItemRel (bl s) k (bl t) (bl v) odd ok ∧
    (q = 2 ∨ (q = 0 ∧ odd = false ∧ (ok = false ∨ k ≠ kind ∨ t.size < s.size)) ∨ (q = 1 ∧ odd = false ∧ ok = true ∧ k = kind ∧ s.size ≤ t.size))

set_option maxRecDepth 100000 in
set_option maxHeartbeats 1000000 in
theorem Only_any (s : ByteArray) (kind : Int) (w : World) (hs : s.size ≤ 2147483647) :
    Calls Tryd.prog 13 #[.string s, .int .i64 kind] w fun e w' => OnlyPost s kind e ∧ Gr w w' := by
  have hm : ∃ b : Bool, (s.toList.isEmpty = true ∧ s.size = 0 ∧ b = false) ∨ (s.toList.isEmpty = false ∧ 0 < s.size) := by
    by_cases h0 : 0 < s.size
    · exact ⟨true, .inr ⟨notEmpty h0, h0⟩⟩
    · refine ⟨false, .inl ⟨?_, by omega, rfl⟩⟩
      rw [bl_toList, List.isEmpty_iff]
      exact List.eq_nil_of_length_eq_zero (by rw [bl_length]; omega)
  go_enter Tryd.func13, Tryd.ntmps13
  go_wp2_with fail
  refine (Item_any s _ hs).mono ?_
  rintro e w1 ⟨⟨k, t, v, odd, ok, rfl, hrel⟩, hg⟩
  have HR := hid hrel
  clear hrel
  have c0 := blk_cell hg 0
  have c1 := blk_cell hg 1
  have c2 := blk_cell hg 2
  have c3 := blk_cell hg 3
  have f0 := blk_frozen hg 0
  have f1 := blk_frozen hg 1
  have f2 := blk_frozen hg 2
  have f3 := blk_frozen hg 3
  have hz : w.heap.size < w1.heap.size := by have := hg.size; simp at this; omega
  simp at c0 c1 c2 c3
  unfold BareE
  obtain ⟨_, ⟨hne, h0, _⟩ | ⟨hne, h0⟩⟩ := hm
  · clear h0
    have hkk : (k != kind) = true ∧ k ≠ kind ∨ (k != kind) = false ∧ k = kind := by
      by_cases e : k = kind
      · exact .inr ⟨by rw [bne_eq_false_iff_eq]; exact e, e⟩
      · exact .inl ⟨by rw [bne_iff_ne]; exact e, e⟩
    cases odd
    · cases ok
      · clear hkk
        go_wp2_with (go_at_call 31; refine (among_l _ _ [32, 9] _ (by decide) rfl).mono ?_; rintro e w' ⟨rfl, rfl⟩)
        refine bodyPost_ret (v := .tuple #[.agg #[.int .i64 k, .string t, .string v, .bool false], .int .i64 0]) (by simp [results, Tryd.results13, go_sem, c0, c1, c2, c3, hz]) rfl ⟨⟨k, t, v, false, false, 0, rfl, HR.out, .inr (.inl ⟨rfl, rfl, .inl rfl⟩)⟩, (((((((((Gr.refl w).alloc _).trans hg).setCell (Nat.le_refl _) _).setCell (Nat.le_refl _) _).setCell (Nat.le_refl _) _).setCell (Nat.le_refl _) _).alloc _))⟩
      · rcases hkk with ⟨hk, hk'⟩ | ⟨hk, hk'⟩
        · have HK := hid hk'
          clear hk'
          go_wp2_with (go_at_call 31; refine (among_l _ _ [32, 9] _ (by decide) rfl).mono ?_; rintro e w' ⟨rfl, rfl⟩)
          refine bodyPost_ret (v := .tuple #[.agg #[.int .i64 k, .string t, .string v, .bool false], .int .i64 0]) (by simp [results, Tryd.results13, go_sem, c0, c1, c2, c3, hz]) rfl ⟨⟨k, t, v, false, true, 0, rfl, HR.out, .inr (.inl ⟨rfl, rfl, .inr (.inl HK.out)⟩)⟩, (((((((((Gr.refl w).alloc _).trans hg).setCell (Nat.le_refl _) _).setCell (Nat.le_refl _) _).setCell (Nat.le_refl _) _).setCell (Nat.le_refl _) _).alloc _))⟩
        · have HK := hid hk'
          clear hk'
          by_cases hl : (t.size : Int) < (s.size : Int)
          · go_wp2_with (go_at_call 31; refine (among_l _ _ [32, 9] _ (by decide) rfl).mono ?_; rintro e w' ⟨rfl, rfl⟩)
            refine bodyPost_ret (v := .tuple #[.agg #[.int .i64 k, .string t, .string v, .bool false], .int .i64 0]) (by simp [results, Tryd.results13, go_sem, c0, c1, c2, c3, hz]) rfl ⟨⟨k, t, v, false, true, 0, rfl, HR.out, .inr (.inl ⟨rfl, rfl, .inr (.inr (by omega))⟩)⟩, (((((((((Gr.refl w).alloc _).trans hg).setCell (Nat.le_refl _) _).setCell (Nat.le_refl _) _).setCell (Nat.le_refl _) _).setCell (Nat.le_refl _) _).alloc _))⟩
          · have hl' : (s.size : Int) ≤ (t.size : Int) := by omega
            clear hl
            go_wp2_with (go_at_call 31; refine (among_l _ _ [32, 9] _ (by decide) rfl).mono ?_; rintro e w' ⟨rfl, rfl⟩)
            refine bodyPost_ret (v := .tuple #[.agg #[.int .i64 k, .string t, .string v, .bool false], .int .i64 1]) (by simp [results, Tryd.results13, go_sem, c0, c1, c2, c3, hz]) rfl ⟨⟨k, t, v, false, true, 1, rfl, HR.out, .inr (.inr ⟨rfl, rfl, rfl, HK.out, by omega⟩)⟩, (((((((((Gr.refl w).alloc _).trans hg).setCell (Nat.le_refl _) _).setCell (Nat.le_refl _) _).setCell (Nat.le_refl _) _).setCell (Nat.le_refl _) _).alloc _))⟩
    · clear hkk
      go_wp2_with (go_at_call 31; refine (among_l _ _ [32, 9] _ (by decide) rfl).mono ?_; rintro e w' ⟨rfl, rfl⟩)
      refine bodyPost_ret (v := .tuple #[.agg #[.int .i64 k, .string t, .string v, .bool true], .int .i64 2]) (by simp [results, Tryd.results13, go_sem, c0, c1, c2, c3, hz]) rfl ⟨⟨k, t, v, true, ok, 2, rfl, HR.out, .inl rfl⟩, (((((((((Gr.refl w).alloc _).trans hg).setCell (Nat.le_refl _) _).setCell (Nat.le_refl _) _).setCell (Nat.le_refl _) _).setCell (Nat.le_refl _) _).alloc _))⟩
  · cases a1 : amongB (s[0]).toNat [32, 9]
    · cases a2 : amongB (s[s.size - 1]).toNat [32, 9]
      · skip
        have hkk : (k != kind) = true ∧ k ≠ kind ∨ (k != kind) = false ∧ k = kind := by
          by_cases e : k = kind
          · exact .inr ⟨by rw [bne_eq_false_iff_eq]; exact e, e⟩
          · exact .inl ⟨by rw [bne_iff_ne]; exact e, e⟩
        cases odd
        · cases ok
          · clear hkk
            go_wp2_with (go_at_call 31; refine (among_l _ _ [32, 9] _ (by decide) rfl).mono ?_; rintro e w' ⟨rfl, rfl⟩)
            refine bodyPost_ret (v := .tuple #[.agg #[.int .i64 k, .string t, .string v, .bool false], .int .i64 0]) (by simp [results, Tryd.results13, go_sem, c0, c1, c2, c3, hz]) rfl ⟨⟨k, t, v, false, false, 0, rfl, HR.out, .inr (.inl ⟨rfl, rfl, .inl rfl⟩)⟩, (((((((((Gr.refl w).alloc _).trans hg).setCell (Nat.le_refl _) _).setCell (Nat.le_refl _) _).setCell (Nat.le_refl _) _).setCell (Nat.le_refl _) _).alloc _))⟩
          · rcases hkk with ⟨hk, hk'⟩ | ⟨hk, hk'⟩
            · have HK := hid hk'
              clear hk'
              go_wp2_with (go_at_call 31; refine (among_l _ _ [32, 9] _ (by decide) rfl).mono ?_; rintro e w' ⟨rfl, rfl⟩)
              refine bodyPost_ret (v := .tuple #[.agg #[.int .i64 k, .string t, .string v, .bool false], .int .i64 0]) (by simp [results, Tryd.results13, go_sem, c0, c1, c2, c3, hz]) rfl ⟨⟨k, t, v, false, true, 0, rfl, HR.out, .inr (.inl ⟨rfl, rfl, .inr (.inl HK.out)⟩)⟩, (((((((((Gr.refl w).alloc _).trans hg).setCell (Nat.le_refl _) _).setCell (Nat.le_refl _) _).setCell (Nat.le_refl _) _).setCell (Nat.le_refl _) _).alloc _))⟩
            · have HK := hid hk'
              clear hk'
              by_cases hl : (t.size : Int) < (s.size : Int)
              · go_wp2_with (go_at_call 31; refine (among_l _ _ [32, 9] _ (by decide) rfl).mono ?_; rintro e w' ⟨rfl, rfl⟩)
                refine bodyPost_ret (v := .tuple #[.agg #[.int .i64 k, .string t, .string v, .bool false], .int .i64 0]) (by simp [results, Tryd.results13, go_sem, c0, c1, c2, c3, hz]) rfl ⟨⟨k, t, v, false, true, 0, rfl, HR.out, .inr (.inl ⟨rfl, rfl, .inr (.inr (by omega))⟩)⟩, (((((((((Gr.refl w).alloc _).trans hg).setCell (Nat.le_refl _) _).setCell (Nat.le_refl _) _).setCell (Nat.le_refl _) _).setCell (Nat.le_refl _) _).alloc _))⟩
              · have hl' : (s.size : Int) ≤ (t.size : Int) := by omega
                clear hl
                go_wp2_with (go_at_call 31; refine (among_l _ _ [32, 9] _ (by decide) rfl).mono ?_; rintro e w' ⟨rfl, rfl⟩)
                refine bodyPost_ret (v := .tuple #[.agg #[.int .i64 k, .string t, .string v, .bool false], .int .i64 1]) (by simp [results, Tryd.results13, go_sem, c0, c1, c2, c3, hz]) rfl ⟨⟨k, t, v, false, true, 1, rfl, HR.out, .inr (.inr ⟨rfl, rfl, rfl, HK.out, by omega⟩)⟩, (((((((((Gr.refl w).alloc _).trans hg).setCell (Nat.le_refl _) _).setCell (Nat.le_refl _) _).setCell (Nat.le_refl _) _).setCell (Nat.le_refl _) _).alloc _))⟩
        · clear hkk
          go_wp2_with (go_at_call 31; refine (among_l _ _ [32, 9] _ (by decide) rfl).mono ?_; rintro e w' ⟨rfl, rfl⟩)
          refine bodyPost_ret (v := .tuple #[.agg #[.int .i64 k, .string t, .string v, .bool true], .int .i64 2]) (by simp [results, Tryd.results13, go_sem, c0, c1, c2, c3, hz]) rfl ⟨⟨k, t, v, true, ok, 2, rfl, HR.out, .inl rfl⟩, (((((((((Gr.refl w).alloc _).trans hg).setCell (Nat.le_refl _) _).setCell (Nat.le_refl _) _).setCell (Nat.le_refl _) _).setCell (Nat.le_refl _) _).alloc _))⟩
      · go_wp2_with (go_at_call 31; refine (among_l _ _ [32, 9] _ (by decide) rfl).mono ?_; rintro e w' ⟨rfl, rfl⟩)
        refine bodyPost_ret (v := .tuple #[.agg #[.int .i64 k, .string t, .string v, .bool odd], .int .i64 2]) (by simp [results, Tryd.results13, go_sem, c0, c1, c2, c3, hz]) rfl ⟨⟨k, t, v, odd, ok, 2, rfl, HR.out, .inl rfl⟩, (((((((((Gr.refl w).alloc _).trans hg).setCell (Nat.le_refl _) _).setCell (Nat.le_refl _) _).setCell (Nat.le_refl _) _).setCell (Nat.le_refl _) _).alloc _))⟩
    · go_wp2_with (go_at_call 31; refine (among_l _ _ [32, 9] _ (by decide) rfl).mono ?_; rintro e w' ⟨rfl, rfl⟩)
      refine bodyPost_ret (v := .tuple #[.agg #[.int .i64 k, .string t, .string v, .bool odd], .int .i64 2]) (by simp [results, Tryd.results13, go_sem, c0, c1, c2, c3, hz]) rfl ⟨⟨k, t, v, odd, ok, 2, rfl, HR.out, .inl rfl⟩, (((((((((Gr.refl w).alloc _).trans hg).setCell (Nat.le_refl _) _).setCell (Nat.le_refl _) _).setCell (Nat.le_refl _) _).setCell (Nat.le_refl _) _).alloc _))⟩

end Go.Proofs.YtohjnegllfdemaaDoor
