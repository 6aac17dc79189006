/-
  The walk of the law FnListJoins.
-/
import Derived.Test.YtohjnegllfdemaaDoorLawL
import Derived.Test.YtohjnegllfdemaaDoorCut2
set_option maxRecDepth 100000
namespace Go.Proofs.YtohjnegllfdemaaDoor
open Go.RowKit

theorem psL_inj : ∀ {xs ys : Ps}, psL xs = psL ys → xs = ys
  | [], [], _ => rfl
  | [], _ :: _, h => by simp [psL] at h
  | _ :: _, [], h => by simp [psL] at h
  | (a, b) :: xs, (c, d) :: ys, h => by
    simp only [psL, List.map_cons, List.cons.injEq, Prod.mk.injEq] at h
    rw [bl_inj h.1.1, bl_inj h.1.2, psL_inj (xs := xs) (ys := ys) h.2]
theorem psL_append (xs ys : Ps) : psL (xs ++ ys) = psL xs ++ psL ys := by simp [psL]
theorem flat_append (xs ys : Ps) : flat (xs ++ ys) = flat xs ++ flat ys := by
  induction xs with
  | nil => rfl
  | cons x r ih => simp only [List.cons_append, flat, ih]
theorem flat_one : ∀ (xs : Ps), ∀ u ∈ flat xs, u.oneCell' = true
  | [], u, h => by cases h
  | x :: r, u, h => by
    simp only [flat, List.mem_cons] at h
    rcases h with rfl | rfl | h
    · rfl
    · rfl
    · exact flat_one r u h

/-- What impl's functions give, as one row. -/
theorem imp_one {R : Option (List (Bs × Bs))} {w w' : World} {e : Ending} (h : ImpPost R w e w') : Gr w w' ∧ ∃ (v : Value) (ok : Bool), e = .returned (.tuple #[v, .bool ok]) ∧ (ok = true → ∃ ps, R = some (psL ps) ∧ OwnP w' w.heap.size 41 v ps) ∧ (ok = false → R = none) := by
  obtain ⟨hg, ⟨hn, v, he⟩ | ⟨v, ps, hr, he, ho⟩⟩ := h
  · exact ⟨hg, v, false, he, (fun h => by cases h), fun _ => hn⟩
  · exact ⟨hg, v, true, he, fun _ => ⟨ps, hr, ho⟩, (fun h => by cases h)⟩
/-- What the reference's List gives, as one row. -/
theorem slis_one {s : ByteArray} {w w' : World} {e : Ending} (h : SLisPost s w e w') : Gr w w' ∧ ∃ (v : Value) (q : Int), e = .returned (.tuple #[v, .int .i64 q]) ∧ ((q != 1) = true ∨ (q = 1 ∧ ∃ ps, lis (bl s) = some (psL ps) ∧ no40 ps ∧ ps.length ≤ s.size + 1)) := by
  obtain ⟨hg, v, ps, base, q, he, _, hl, rfl | ⟨rfl, _⟩ | ⟨rfl, h1, h2⟩⟩ := h
  · exact ⟨hg, v, _, he, .inl rfl⟩
  · exact ⟨hg, v, _, he, .inl rfl⟩
  · exact ⟨hg, v, _, he, .inr ⟨rfl, ps, h1, h2, hl⟩⟩

theorem row_cells {w : World} {base : Nat} {T : TypeId} {v : Value} {zs : Ps} {n : Nat} {xs : List Value} (h : w.ownsRow base T 2 v n xs) (hn : n = zs.length) (hx : xs = flat zs) (h0 : 0 < zs.length) :
    ∃ g cap, v = .slice (some ⟨g, 0, none⟩) zs.length cap ∧ ∀ (i : Nat) (hi : i < zs.length), w.cell? ⟨g, i * 2, none⟩ = some (.string zs[i].1) ∧ w.cell? ⟨g, i * 2 + 1, none⟩ = some (.string zs[i].2) := by
  subst hn hx
  rcases OwnP.cells h with ⟨_, rfl⟩ | h
  · simp at h0
  · exact h

set_option maxHeartbeats 4000000 in
theorem lawJoins_walk (a b : ByteArray) (_ha : a.size ≤ maxLen) (_hb : b.size ≤ maxLen) (w : World) (hT : Lib.Utf8Tabs 0 1 w) :
    Calls Tryd.prog 8 #[.string a, .string b] w fun e w' => e = .returned (.bool true) ∧ Gr w w' := by
  have HT := hid hT
  clear hT
  by_cases hza : a.size ≤ 2147483647
  case neg =>
    go_enter Tryd.func8, Tryd.ntmps8
    go_wp2_with fail
    go_ret
    exact ⟨rfl, Gr.refl _⟩
  by_cases hzb : b.size ≤ 2147483647
  case neg =>
    go_enter Tryd.func8, Tryd.ntmps8
    go_wp2_with fail
    go_ret
    exact ⟨rfl, Gr.refl _⟩
  go_enter Tryd.func8, Tryd.ntmps8
  go_wp2_with fail
  refine (specList_any a _ hza).mono ?_
  intro e w1 h
  obtain ⟨hg1, v1, q1, rfl, hq1⟩ := slis_one h
  have HG1 := hid hg1
  have HQ1 := hid hq1
  clear h hg1 hq1
  go_wp2_with fail
  refine (specList_any b _ hzb).mono ?_
  intro e w2 h
  obtain ⟨hg2, v2, q2, rfl, hq2⟩ := slis_one h
  have HG2 := hid (HG1.out.trans hg2)
  have HT2 := hid (Utf8Tabs_below HT.out HG2.out)
  have HQ2 := hid hq2
  clear h hg2 hq2
  go_wp2_with fail
  refine (implList_any a _ (by omega) HT2.out).mono ?_
  intro e w3 h
  obtain ⟨hg3, v3, o3, rfl, hx, hxn⟩ := imp_one h
  have HG3 := hid (HG2.out.trans hg3)
  have HT3 := hid (Utf8Tabs_below HT2.out hg3)
  have HX := hid hx
  have HXN := hid hxn
  clear h hg3 hx hxn
  go_wp2_with fail
  refine (implList_any b _ (by omega) HT3.out).mono ?_
  intro e w4 h
  obtain ⟨hg4, v4, o4, rfl, hy, hyn⟩ := imp_one h
  have HG34 := hid hg4
  have HG4 := hid (HG3.out.trans hg4)
  have HT4 := hid (Utf8Tabs_below HT3.out hg4)
  have HY := hid hy
  have HYN := hid hyn
  clear h hg4 hy hyn
  rcases HQ1.out with q1n | ⟨rfl, ws1, hl1, hn1, hw1⟩
  case inl =>
    go_wp2_with fail
    refine (works_any _).mono ?_
    rintro e w5 ⟨rfl, hg5⟩
    go_wp2_with fail
    go_ret
    exact ⟨rfl, HG4.out.trans hg5⟩
  rcases HQ2.out with q2n | ⟨rfl, ws2, hl2, hn2, hw2⟩
  case inl =>
    go_wp2_with fail
    refine (works_any _).mono ?_
    rintro e w5 ⟨rfl, hg5⟩
    go_wp2_with fail
    go_ret
    exact ⟨rfl, HG4.out.trans hg5⟩
  cases o3
  case false => exact absurd (hl1.symm.trans (HXN.out rfl)) (by simp)
  cases o4
  case false => exact absurd (hl2.symm.trans (HYN.out rfl)) (by simp)
  obtain ⟨xs, hxl, hxo⟩ := HX.out rfl
  obtain ⟨ys, hyl, hyo⟩ := HY.out rfl
  obtain rfl : ws1 = xs := psL_inj (Option.some.inj (hl1.symm.trans hxl))
  obtain rfl : ws2 = ys := psL_inj (Option.some.inj (hl2.symm.trans hyl))
  have HL1 := hid hl1
  have HL2 := hid hl2
  have HN1 := hid hn1
  have HOX := hid (hxo.gr HG34.out)
  have HOY := hid hyo
  clear hxl hyl hxo hyo hl1 hl2 hn1 hn2 HX HY HXN HYN HQ1 HQ2 HT3 HT2 HT
  rcases HOX.out.cells with ⟨rfl, rfl⟩ | ⟨gx, capx, rfl, _⟩
  case inl =>
    go_wp2_with fail
    refine (works_any _).mono ?_
    rintro e w5 ⟨rfl, hg5⟩
    go_wp2_with fail
    go_ret
    exact ⟨rfl, HG4.out.trans hg5⟩
  by_cases hx0 : ws1.length = 0
  case pos =>
    have q : ((ws1.length : Int) == 0) = true := eqT (n := 0) hx0
    go_wp2_with fail
    refine (works_any _).mono ?_
    rintro e w5 ⟨rfl, hg5⟩
    go_wp2_with fail
    go_ret
    exact ⟨rfl, HG4.out.trans hg5⟩
  have qx : ((ws1.length : Int) == 0) = false := eqF (n := 0) hx0
  rcases HOY.out.cells with ⟨rfl, rfl⟩ | ⟨gy, capy, rfl, _⟩
  case inl =>
    go_wp2_with fail
    refine (works_any _).mono ?_
    rintro e w5 ⟨rfl, hg5⟩
    go_wp2_with fail
    go_ret
    exact ⟨rfl, HG4.out.trans hg5⟩
  by_cases hy0 : ws2.length = 0
  case pos =>
    have q : ((ws2.length : Int) == 0) = true := eqT (n := 0) hy0
    go_wp2_with fail
    refine (works_any _).mono ?_
    rintro e w5 ⟨rfl, hg5⟩
    go_wp2_with fail
    go_ret
    exact ⟨rfl, HG4.out.trans hg5⟩
  have qy : ((ws2.length : Int) == 0) = false := eqF (n := 0) hy0
  have HJ := hid (show lis (bl (a ++ ⟨#[44, 32]⟩ ++ b)) = some (psL (ws1 ++ ws2)) by
    rw [bl_append, bl_append, psL_append, List.append_assoc]
    refine lis_joins HL1.out HL2.out ?_ ?_ HN1.out
    · intro e
      have := congrArg List.length e
      rw [psL_length] at this
      exact hx0 this
    · intro e
      have := congrArg List.length e
      rw [psL_length] at this
      exact hy0 this)
  obtain ⟨i0, hi, hz0, hz1, hz2⟩ := info_parts infoPair
  go_wp2_with fail
  refine (implList_any _ _ (by
    have h2 : (⟨#[44, 32]⟩ : ByteArray).size = 2 := rfl
    rw [ByteArray.size_append, ByteArray.size_append]
    omega) HT4.out).mono ?_
  intro e w5 h
  obtain ⟨hg5, v5, o5, rfl, hz, hzn⟩ := imp_one h
  cases o5
  case false => exact absurd (HJ.out.symm.trans (hzn rfl)) (by simp)
  obtain ⟨zs, hzl, hzo⟩ := hz rfl
  obtain rfl : ws1 ++ ws2 = zs := psL_inj (Option.some.inj (HJ.out.symm.trans hzl))
  have HG5 := hid (HG4.out.trans hg5)
  have HX5 := hid (HOX.out.gr hg5)
  have HY5 := hid (HOY.out.gr hg5)
  have hlen : (ws1 ++ ws2).length = ws1.length + ws2.length := List.length_append
  have HZC := hzo.cells
  clear h hg5 hz hzn hzl hzo HOX HOY HJ HT4 HL1 HL2 HN1 HG1 HG2 HG3 HG34
  rcases HZC with ⟨_, hnil⟩ | ⟨gz, capz, rfl, k5⟩
  case inl =>
    rw [hnil] at hlen
    simp at hlen
    omega
  have K5 := hid k5
  generalize hzs : ws1 ++ ws2 = zs at *
  have HZS := hid hzs
  have qlen : ((zs.length : Int) != (ws1.length : Int) + (ws2.length : Int)) = false := by rw [bne_eq_false_iff_eq]; omega
  have HLEN := hid hlen
  have hl1 : ws1.length ≤ 2147483648 := by omega
  have hl2 : ws2.length ≤ 2147483648 := by omega
  have hzl : zs.length ≤ 4294967296 := by omega
  clear k5 hzs hlen
  go_wp2_with fail
  clear qlen
  go_loopw [93] (fun i wr => ∃ k : Nat, k ≤ zs.length ∧ i = .int .i64 k ∧ Hid (Gr w5 wr)) (fun i _ => zs.length - (intOf i).toNat)
  case atStart => exact ⟨0, Nat.zero_le _, rfl, hid (Gr.refl _)⟩
  case round =>
    obtain ⟨k, hk, rfl, hg⟩ := hrel
    by_cases hlt : k < zs.length
    case neg =>
      go_wp2_with fail
      refine (works_any _).mono ?_
      rintro e w6 ⟨rfl, hg6⟩
      go_wp2_with fail
      go_ret
      exact ⟨rfl, (HG5.out.trans hg.out).trans hg6⟩
    have a0 := hg.out.cell (K5.out k hlt).1
    have a1 := hg.out.cell (K5.out k hlt).2
    have hltI : (k : Int) < (zs.length : Int) := by omega
    have i1 : (0 : Int) ≤ (k : Int) := by omega
    have hxr := HX5.out.gr hg.out
    have hyr := HY5.out.gr hg.out
    generalize hx : zs[k].1 = x at *
    generalize hy : zs[k].2 = y at *
    have HKX := hid hx
    have HKY := hid hy
    clear hx hy
    have HXR := hid hxr
    have HYR := hid hyr
    clear hxr hyr
    have made := World.ownsRow_made (base := wr.heap.size + 1) (e := 41) (size := 2) (wr.alloc (.cells #[.string x, .string y] 41)) #[] 0 (by simp) (by decide) rfl
    rw [show (wr.alloc (.cells #[.string x, .string y] 41)).heap.size = wr.heap.size + 1 from by simp] at made
    have cx := ((HXR.out.alloc (.cells #[.string x, .string y] 41)).alloc (.cells #[] 41)).row.cells (g := gx) rfl
    have MADE := hid made
    have CX := hid cx
    clear made cx
    go_wp2_with (first
      | (at_builtin; refine wpList_append_own _ rfl _ _ 33 rfl (wr.heap.size + 1) 41 i0 (.agg #[.string ⟨#[]⟩, .string ⟨#[]⟩]) 2 32 Tryd.underlying33 hi hz0 hz1 hz2 rfl (by decide) _ _ _ rfl hown1 ⟨gy, 0, none⟩ ws2.length capy (flat ws2) rfl HY7.out.row.1 (HY7.out.row.cells rfl) (flat_one ws2) (by unfold maxLen; omega) (by omega) hsz7 ?_; intro v8 w8 hown2 hgrow2 _; have hg8 := Gr.grown HG7.out (by rw [show (wr.alloc (.cells #[.string x, .string y] 41)).heap.size = wr.heap.size + 1 from by simp]; exact hown1) hgrow2; obtain ⟨g2, cap2, rfl, k8⟩ := row_cells hown2 (zs := zs) (by have := HLEN.out; omega) (by rw [← HZS.out, flat_append]; rfl) (by omega); have b0 := (k8 k hlt).1; have b1 := (k8 k hlt).2; rw [HKX.out] at b0; rw [HKY.out] at b1; have m0 : (w8.alloc (.cells #[.string x, .string y] 41)).cell? ⟨wr.heap.size, 0, none⟩ = some (.string x) := (hg8.alloc _).cell (by rw [Lib.cell_of_heap (heap_alloc_new wr _)]; rfl); have m1 : (w8.alloc (.cells #[.string x, .string y] 41)).cell? ⟨wr.heap.size, 1, none⟩ = some (.string y) := (hg8.alloc _).cell (by rw [Lib.cell_of_heap (heap_alloc_new wr _)]; rfl); have HG8 := hid hg8; clear hg8 k8 hown2 hgrow2 hown1)
      | (at_builtin; refine wpList_append_own _ rfl _ _ 33 rfl (wr.heap.size + 1) 41 i0 (.agg #[.string ⟨#[]⟩, .string ⟨#[]⟩]) 2 32 Tryd.underlying33 hi hz0 hz1 hz2 rfl (by decide) _ 0 [] rfl MADE.out ⟨gx, 0, none⟩ ws1.length capx (flat ws1) rfl HXR.out.row.1 CX.out (flat_one ws1) (by unfold maxLen; omega) (by omega) (by simp <;> omega) ?_; intro v7 w7 hown1 hgrow1 _; have HG7 := hid (show Gr (wr.alloc (.cells #[.string x, .string y] 41)) w7 from Gr.grown ((Gr.refl _).alloc (.cells #[] 41)) (by rw [show (wr.alloc (.cells #[.string x, .string y] 41)).heap.size = wr.heap.size + 1 from by simp]; exact MADE.out) hgrow1); have HY7 := hid ((HYR.out.alloc (.cells #[.string x, .string y] 41)).gr HG7.out); have hsz7 : wr.heap.size + 1 ≤ w7.heap.size := (by have := HG7.out.size; simpa using this)))
    go_roundw
    case rel => exact ⟨k + 1, by omega, by go_num, hid ((hg.out.trans ((Gr.refl wr).alloc _)).trans (HG8.out.alloc _))⟩
    case measure => simp [intOf]; omega

end Go.Proofs.YtohjnegllfdemaaDoor
