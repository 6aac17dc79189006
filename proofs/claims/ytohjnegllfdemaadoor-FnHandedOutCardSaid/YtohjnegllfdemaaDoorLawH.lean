/-
  The walk of the law FnHandedOut.
-/
import Derived.Test.YtohjnegllfdemaaDoorLawJ
import Derived.Test.YtohjnegllfdemaaDoorLawN
set_option maxRecDepth 100000
namespace Go.Proofs.YtohjnegllfdemaaDoor
open Go.RowKit

theorem lis_small : ∀ (n : Nat) (l : Bs) (xs : List (Bs × Bs)), l.length ≤ n → lisT l = some xs → ∀ x ∈ xs, x.1.length ≤ n ∧ x.2.length ≤ n := by
  intro n
  induction n with
  | zero =>
    intro l xs hn h
    obtain rfl : l = [] := List.eq_nil_of_length_eq_zero (by omega)
    cases h
  | succ n ih =>
    intro l xs hn h
    rw [lisT_step] at h
    split at h
    · cases h
    · rename_i r1 hm
      have l1 := mem_lt hm
      split at h
      · cases h
      · rename_i zs r2 hp
        have l2 := par_len hp
        have hfirst : (ahead l r1).length ≤ n + 1 ∧ (ahead r1 r2).length ≤ n + 1 := by
          simp only [ahead, List.length_take]
          omega
        split at h
        · cases h
          intro x hx
          rw [List.mem_singleton] at hx
          subst hx
          exact hfirst
        · rename_i d r3 hs
          have l3 := skip_le wsB r2
          rw [hs] at l3
          split at h
          · split at h
            · cases h
            · rename_i e r4 hs2
              have l4 := skip_le wsB r3
              rw [hs2] at l4
              obtain ⟨zs2, hz, he⟩ := Option.map_eq_some_iff.1 h
              subst he
              intro x hx
              rcases List.mem_cons.1 hx with rfl | hx
              · exact hfirst
              · have := ih (e :: r4) zs2 (by simp only [List.length_cons] at *; omega) hz x hx
                omega
          · cases h

/-- What a list hands out: each piece by itself. -/
theorem lis_each {l : Bs} {xs : List (Bs × Bs)} (h : lis l = some xs) (x : Bs × Bs) (hx : x ∈ xs) :
    x.1.length ≤ l.length ∧ x.2.length ≤ l.length ∧ parR x.2 ≠ none ∧ ((itmR x.1 ≠ none ∧ innR x.1 = none) ∨ (itmR x.1 = none ∧ innR x.1 ≠ none)) := by
  have hl : l ≠ [] := by
    rintro rfl
    cases h
    cases hx
  rw [lis_open hl] at h
  obtain ⟨h1, h2⟩ := lis_small _ _ _ (Nat.le_refl _) h x hx
  obtain ⟨⟨zs, h3⟩, h4⟩ := lis_out _ _ _ (Nat.le_refl _) h x hx
  refine ⟨h1, h2, ?_, ?_⟩
  · unfold parR
    rw [h3]
    simp
  · rcases h4 with ⟨h4, h5⟩ | ⟨h4, ys, h5⟩
    · exact .inl ⟨by rw [itmR_all h4 (show par [] = some ([], []) from rfl)]; simp, innR_none h5⟩
    · exact .inr ⟨itmR_nobare h4, by rw [innR_all h5]; simp⟩

theorem psL_mem (ps : Ps) (i : Nat) (h : i < ps.length) : (bl ps[i].1, bl ps[i].2) ∈ psL ps := List.mem_map.2 ⟨ps[i], List.getElem_mem h, rfl⟩

/-- What impl's functions say. -/
theorem imp_ok {R : Option (List (Bs × Bs))} {w w' : World} {e : Ending} (h : ImpPost R w e w') : Gr w w' ∧ ∃ (v : Value) (ok : Bool), e = .returned (.tuple #[v, .bool ok]) ∧ (R ≠ none → ok = true) ∧ (R = none → ok = false) := by
  obtain ⟨hg, ⟨hn, v, he⟩ | ⟨v, ps, hr, he, ho⟩⟩ := h
  · exact ⟨hg, v, false, he, fun h => absurd hn h, fun _ => rfl⟩
  · exact ⟨hg, v, true, he, fun _ => rfl, fun h => by rw [hr] at h; cases h⟩

set_option maxHeartbeats 4000000 in
theorem lawHanded_walk (s : ByteArray) (_hs : s.size ≤ maxLen) (w : World) (hT : Lib.Utf8Tabs 0 1 w) :
    Calls Tryd.prog 10 #[.string s] w fun e w' => e = .returned (.bool true) ∧ Gr w w' := by
  have HT := hid hT
  clear hT
  by_cases hz : s.size ≤ 2147483647
  case neg =>
    go_enter Tryd.func10, Tryd.ntmps10
    go_wp2_with fail
    go_ret
    exact ⟨rfl, Gr.refl _⟩
  go_enter Tryd.func10, Tryd.ntmps10
  go_wp2_with fail
  refine (implList_any s _ (by omega) HT.out).mono ?_
  intro e w1 h
  obtain ⟨hg1, v1, o1, rfl, hx, _⟩ := imp_one h
  have HG1 := hid hg1
  have HT1 := hid (Utf8Tabs_below HT.out hg1)
  have HX := hid hx
  clear h hg1 hx
  go_wp2_with fail
  refine (specList_any s _ hz).mono ?_
  intro e w2 h
  obtain ⟨hg2, v2, q2, rfl, hq2⟩ := slis_one h
  have HG12 := hid hg2
  have HG2 := hid (HG1.out.trans hg2)
  have HT2 := hid (Utf8Tabs_below HT1.out hg2)
  have HQ2 := hid hq2
  clear h hg2 hq2
  cases o1
  case false =>
    go_wp2_with fail
    refine (works_any _).mono ?_
    rintro e w5 ⟨rfl, hg5⟩
    go_wp2_with fail
    go_ret
    exact ⟨rfl, HG2.out.trans hg5⟩
  rcases HQ2.out with q2n | ⟨rfl, ws, hl1, _, hw1⟩
  case inl =>
    go_wp2_with fail
    refine (works_any _).mono ?_
    rintro e w5 ⟨rfl, hg5⟩
    go_wp2_with fail
    go_ret
    exact ⟨rfl, HG2.out.trans hg5⟩
  obtain ⟨xs, hxl, hxo⟩ := HX.out rfl
  obtain rfl : ws = xs := psL_inj (Option.some.inj (hl1.symm.trans hxl))
  have HL := hid hl1
  have HXC := (hxo.gr HG12.out).cells
  clear hxl hl1 hxo HX HQ2 HT1 HG12 HG1
  rcases HXC with ⟨rfl, rfl⟩ | ⟨gx, capx, rfl, k2⟩
  case inl =>
    go_wp2_with fail
    refine wp_loop_rounds 1 ?_
    rw [rounds_succ]
    go_wp2_with fail
    refine (works_any _).mono ?_
    rintro e w5 ⟨rfl, hg5⟩
    go_wp2_with fail
    go_ret
    exact ⟨rfl, HG2.out.trans hg5⟩
  have K2 := hid k2
  have hwl : ws.length ≤ 2147483648 := by omega
  clear k2
  go_wp2_with fail
  go_loopw [37] (fun i wr => ∃ k : Nat, k ≤ ws.length ∧ i = .int .i64 k ∧ Hid (Gr w2 wr)) (fun i _ => ws.length - (intOf i).toNat)
  case atStart => exact ⟨0, Nat.zero_le _, rfl, hid (Gr.refl _)⟩
  case round =>
    obtain ⟨k, hk, rfl, hg⟩ := hrel
    by_cases hlt : k < ws.length
    case neg =>
      go_wp2_with fail
      refine (works_any _).mono ?_
      rintro e w6 ⟨rfl, hg6⟩
      go_wp2_with fail
      go_ret
      exact ⟨rfl, (HG2.out.trans hg.out).trans hg6⟩
    have a0 := hg.out.cell (K2.out k hlt).1
    have a1 := hg.out.cell (K2.out k hlt).2
    have hltI : (k : Int) < (ws.length : Int) := by omega
    have i1 : (0 : Int) ≤ (k : Int) := by omega
    have heach := lis_each HL.out _ (psL_mem ws k hlt)
    generalize ws[k].1 = x at *
    generalize ws[k].2 = y at *
    obtain ⟨hx1, hy1, hpar, hitm⟩ := heach
    simp only [bl_length] at hx1 hy1
    have HPAR := hid hpar
    have HITM := hid hitm
    have hB := Gr.refl wr
    have HT3 := hid (Utf8Tabs_below HT2.out (hg.out.alloc (.cells #[.string x, .string y] 41)))
    have HNEW := hid (heap_alloc_new wr (.cells #[.string x, .string y] 41))
    clear hpar hitm hB
    go_wp2_with fail
    refine (implParameters_any y _ (by omega) HT3.out).mono ?_
    intro e w3 h
    obtain ⟨hg3, v3, o3, rfl, ho3, _⟩ := imp_ok h
    obtain rfl := ho3 HPAR.out
    have HT4 := hid (Utf8Tabs_below HT3.out hg3)
    have HNEW3 := hid (blk_of hg3 HNEW.out)
    have HG3 := hid (Gr.trans ((Gr.refl wr).alloc (.cells #[.string x, .string y] 41)) hg3)
    have x0 : w3.cell? ⟨wr.heap.size, 0, none⟩ = some (.string x) := by rw [Lib.cell_of_heap HNEW3.out]; rfl
    clear h hg3 ho3 a0 a1
    go_wp2_with fail
    refine (implItem_any x _ (by omega) HT4.out).mono ?_
    intro e w4 h
    obtain ⟨hg4, v4, o4, rfl, ho4, ho4'⟩ := imp_ok h
    have HT5 := hid (Utf8Tabs_below HT4.out hg4)
    have HG4 := hid (HG3.out.trans hg4)
    have x1 : w4.cell? ⟨wr.heap.size, 0, none⟩ = some (.string x) := hg4.cell x0
    have HO4 := hid (And.intro ho4 ho4')
    clear h hg4 ho4 ho4' x0
    go_wp2_with fail
    refine (implInner_any x _ (by omega) HT5.out).mono ?_
    intro e w5 h
    obtain ⟨hg5, v5, o5, rfl, ho5, ho5'⟩ := imp_ok h
    have HG5 := hid (HG4.out.trans hg5)
    have hne : (o4 = true ∧ o5 = false) ∨ (o4 = false ∧ o5 = true) := by
      rcases HITM.out with ⟨h1, h2⟩ | ⟨h1, h2⟩
      · exact .inl ⟨HO4.out.1 h1, ho5' h2⟩
      · exact .inr ⟨HO4.out.2 h1, ho5 h2⟩
    clear h hg5 ho5 ho5' x1 HO4
    rcases hne with ⟨rfl, rfl⟩ | ⟨rfl, rfl⟩
    all_goals
      go_wp2_with fail
      go_roundw
      case rel => exact ⟨k + 1, by omega, by go_num, hid (hg.out.trans HG5.out)⟩
      case measure => simp [intOf]; omega

end Go.Proofs.YtohjnegllfdemaaDoor
