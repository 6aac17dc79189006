/-
  The walk of the laws' same: where the pairs agree it says so.
-/
import Derived.Test.YtohjnegllfdemaaDoorTold
set_option maxRecDepth 100000
namespace Go.Proofs.YtohjnegllfdemaaDoor
open Go.RowKit

theorem flat_get : ∀ (ps : Ps) (i : Nat) (h : i < ps.length), (flat ps)[i * 2]? = some (.string ps[i].1) ∧ (flat ps)[i * 2 + 1]? = some (.string ps[i].2)
  | [], i, h => by simp at h
  | x :: r, 0, _ => ⟨rfl, rfl⟩
  | x :: r, i + 1, h => by
    have := flat_get r i (by simpa using h)
    rw [show (i + 1) * 2 = i * 2 + 2 from by omega]
    simpa [flat] using this

/-- The cells of a row of pairs. -/
theorem OwnP.cells {w : World} {base : Nat} {T : TypeId} {v : Value} {ps : Ps} (h : OwnP w base T v ps) : (v = .slice none 0 0 ∧ ps = []) ∨
    ∃ g cap, v = .slice (some ⟨g, 0, none⟩) ps.length cap ∧ ∀ (i : Nat) (hi : i < ps.length), w.cell? ⟨g, i * 2, none⟩ = some (.string ps[i].1) ∧ w.cell? ⟨g, i * 2 + 1, none⟩ = some (.string ps[i].2) := by
  obtain ⟨hl, hv | ⟨g, cap, cur, hv, hg, hh, hn, hm, hs, ht⟩⟩ := h
  · exact .inl ⟨hv.1, List.eq_nil_of_length_eq_zero hv.2⟩
  · refine .inr ⟨g, cap, hv, fun i hi => ?_⟩
    have hf := flat_get ps i hi
    rw [← ht, List.getElem?_take, List.getElem?_take, if_pos (by omega), if_pos (by omega)] at hf
    constructor
    · rw [cell_of_row w g _ _ _ _ hh]; simpa using hf.1
    · rw [cell_of_row w g _ _ _ _ hh]; simpa using hf.2

/-- Pairs that agree. -/
def Agree (keys : Bool) (gs ws : Ps) : Prop := gs.length = ws.length ∧ ∀ (i : Nat) (h1 : i < gs.length) (h2 : i < ws.length), gs[i].1 = ws[i].1 ∧ (gs[i].2 = ws[i].2 ∨ (gs[i].2 ≠ ws[i].2 ∧ keys = true ∧ ws[i].2 = ⟨#[]⟩))

set_option maxHeartbeats 2000000 in
theorem same_true (base1 base2 : Nat) (v1 v2 : Value) (keys : Bool) (gs ws : Ps) (w : World) (hs : ws.length ≤ 8589934594) (h1 : OwnP w base1 41 v1 gs) (h2 : OwnP w base2 38 v2 ws) (ha : Agree keys gs ws) :
    Calls Tryd.prog 18 #[v1, v2, .bool keys] w fun e w' => e = .returned (.bool true) ∧ Gr w w' := by
  obtain ⟨hlen, hag⟩ := ha
  rcases h1.cells with ⟨rfl, rfl⟩ | ⟨g1, cap1, rfl, k1⟩
  · obtain rfl : ws = [] := List.eq_nil_of_length_eq_zero hlen.symm
    rcases h2.cells with ⟨rfl, _⟩ | ⟨g2, cap2, rfl, k2⟩
    all_goals
      clear h1 h2 hag hlen
      go_enter Tryd.func18, Tryd.ntmps18
      go_wp2_with fail
      refine wp_loop_rounds 1 ?_
      rw [rounds_succ]
      go_wp2_with fail
      go_ret
      exact ⟨rfl, Gr.refl _⟩
  · rcases h2.cells with ⟨rfl, rfl⟩ | ⟨g2, cap2, rfl, k2⟩
    · obtain rfl : gs = [] := List.eq_nil_of_length_eq_zero hlen
      clear h1 h2 hag hlen k1
      go_enter Tryd.func18, Tryd.ntmps18
      go_wp2_with fail
      refine wp_loop_rounds 1 ?_
      rw [rounds_succ]
      go_wp2_with fail
      go_ret
      exact ⟨rfl, Gr.refl _⟩
    have K1 := hid k1
    have K2 := hid k2
    have HAG := hid hag
    have HLEN := hid hlen
    have q0 : ((gs.length : Int) != (ws.length : Int)) = false := by rw [bne_eq_false_iff_eq]; omega
    clear k1 k2 hag h1 h2 hlen
    go_enter Tryd.func18, Tryd.ntmps18
    go_wp2_with fail
    clear q0
    go_loopw [16] (fun i wr => ∃ k : Nat, k ≤ ws.length ∧ i = .int .i64 k ∧ Hid (Gr w wr)) (fun i _ => ws.length - (intOf i).toNat)
    case atStart => exact ⟨0, Nat.zero_le _, rfl, hid (Gr.refl _)⟩
    case round =>
      obtain ⟨k, hk, rfl, hg⟩ := hrel
      by_cases hlt : k < ws.length
      · have hlt1 : k < gs.length := by have := HLEN.out; omega
        have a0 := hg.out.cell (K1.out k hlt1).1
        have a1 := hg.out.cell (K1.out k hlt1).2
        have b0 := hg.out.cell (K2.out k hlt).1
        have b1 := hg.out.cell (K2.out k hlt).2
        obtain ⟨e1, e2⟩ := HAG.out k hlt1 hlt
        have hltI : (k : Int) < (ws.length : Int) := by omega
        have hltJ : (k : Int) < (gs.length : Int) := by omega
        have i0 : (0 : Int) ≤ (k : Int) := by omega
        rw [e1] at a0
        rcases e2 with e2 | ⟨e2, rfl, e3⟩
        · rw [e2] at a1
          generalize ws[k].1 = x at *
          generalize ws[k].2 = y at *
          clear e1 e2
          go_wp2_with fail
          have A0 := ((Gr.refl wr).alloc (.cells #[.string x, .string y] 38)).cell a0
          have A1 := ((Gr.refl wr).alloc (.cells #[.string x, .string y] 38)).cell a1
          have C0 : (wr.alloc (.cells #[.string x, .string y] 38)).cell? ⟨wr.heap.size, 0, none⟩ = some (.string x) := by rw [Lib.cell_of_heap (heap_alloc_new wr _)]; rfl
          have C1 : (wr.alloc (.cells #[.string x, .string y] 38)).cell? ⟨wr.heap.size, 1, none⟩ = some (.string y) := by rw [Lib.cell_of_heap (heap_alloc_new wr _)]; rfl
          have HGW := hid (hg.out.alloc (.cells #[.string x, .string y] 38))
          clear a0 a1 b0 b1
          generalize wr.alloc (.cells #[.string x, .string y] 38) = W at *
          generalize wr.heap.size = B2 at *
          go_quiet (fail)
          go_wp2_with fail
          go_roundw
          case rel => exact ⟨k + 1, by omega, by go_num, hid (HGW.out.drewN _)⟩
          case measure => simp [intOf]; omega
        · rw [e3] at b1 e2
          generalize gs[k].2 = z at *
          generalize ws[k].1 = x at *
          have ez : z.toList.isEmpty = false := by
            rw [List.isEmpty_eq_false_iff, bl_toList]
            intro e
            exact e2 (bl_empty e)
          have ez2 : ¬ z.toList = [] := by intro e; rw [e] at ez; cases ez
          clear e1 e2 e3
          go_wp2_with fail
          have A0 := ((Gr.refl wr).alloc (.cells #[.string x, .string ⟨#[]⟩] 38)).cell a0
          have A1 := ((Gr.refl wr).alloc (.cells #[.string x, .string ⟨#[]⟩] 38)).cell a1
          have C0 : (wr.alloc (.cells #[.string x, .string ⟨#[]⟩] 38)).cell? ⟨wr.heap.size, 0, none⟩ = some (.string x) := by rw [Lib.cell_of_heap (heap_alloc_new wr _)]; rfl
          have C1 : (wr.alloc (.cells #[.string x, .string ⟨#[]⟩] 38)).cell? ⟨wr.heap.size, 1, none⟩ = some (.string ⟨#[]⟩) := by rw [Lib.cell_of_heap (heap_alloc_new wr _)]; rfl
          have HGW := hid (hg.out.alloc (.cells #[.string x, .string ⟨#[]⟩] 38))
          clear a0 a1 b0 b1
          generalize wr.alloc (.cells #[.string x, .string ⟨#[]⟩] 38) = W at *
          generalize wr.heap.size = B2 at *
          go_quiet (fail)
          go_wp2_with fail
          go_roundw
          case rel => exact ⟨k + 1, by omega, by go_num, hid (HGW.out.drewN _)⟩
          case measure => simp [intOf]; omega
      · go_wp2_with fail
        go_ret
        exact ⟨rfl, hg.out⟩

end Go.Proofs.YtohjnegllfdemaaDoor
