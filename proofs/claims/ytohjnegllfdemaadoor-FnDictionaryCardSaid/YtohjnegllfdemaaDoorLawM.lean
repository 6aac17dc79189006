/-
  The walk of the law FnDictionary.
-/
import Derived.Test.YtohjnegllfdemaaDoorSDic
import Derived.Test.YtohjnegllfdemaaDoorLawI
set_option maxRecDepth 100000
namespace Go.Proofs.YtohjnegllfdemaaDoor
open Go.RowKit

theorem specDict_any (s : ByteArray) (w : World) (hs : s.size ≤ 2147483647) :
    Calls Tryd.prog 25 #[.string s] w fun e w' => SDicPost s w e w' := by
  by_cases h0 : 0 < s.size
  · exact specDict_some s w hs h0
  · obtain rfl := bl_empty (a := s) (List.eq_nil_of_length_eq_zero (by rw [bl_length]; omega))
    exact specDict_empty w

theorem flat3_get : ∀ (ps : Ts) (i : Nat) (h : i < ps.length), (flat3 ps)[i * 3]? = some (.string ps[i].1) ∧ (flat3 ps)[i * 3 + 1]? = some (.string ps[i].2.1) ∧ (flat3 ps)[i * 3 + 2]? = some (.string ps[i].2.2)
  | [], i, h => by simp at h
  | x :: r, 0, _ => ⟨rfl, rfl, rfl⟩
  | x :: r, i + 1, h => by
    have := flat3_get r i (by simpa using h)
    rw [show (i + 1) * 3 = i * 3 + 3 from by omega]
    simpa [flat3] using this
theorem flat4_get : ∀ (ps : List Mt) (i : Nat) (h : i < ps.length), (flat4 ps)[i * 4]? = some (.string ps[i].1) ∧ (flat4 ps)[i * 4 + 1]? = some (.string ps[i].2.1) ∧ (flat4 ps)[i * 4 + 2]? = some (.string ps[i].2.2.1) ∧ (flat4 ps)[i * 4 + 3]? = some (.bool ps[i].2.2.2)
  | [], i, h => by simp at h
  | x :: r, 0, _ => ⟨rfl, rfl, rfl, rfl⟩
  | x :: r, i + 1, h => by
    have := flat4_get r i (by simpa using h)
    rw [show (i + 1) * 4 = i * 4 + 4 from by omega]
    simpa [flat4] using this

/-- The cells of a row. -/
theorem row_at {w : World} {base n m : Nat} {T : TypeId} {v : Value} {xs : List Value} (h : w.ownsRow base T m v n xs) : (v = .slice none 0 0 ∧ n = 0) ∨
    ∃ g cap, v = .slice (some ⟨g, 0, none⟩) n cap ∧ ∀ (i : Nat) (u : Value), i < n * m → xs[i]? = some u → w.cell? ⟨g, i, none⟩ = some u := by
  obtain ⟨hl, hv | ⟨g, cap, cur, hv, hg, hh, hn, hm, hs, ht⟩⟩ := h
  · exact .inl hv
  · refine .inr ⟨g, cap, hv, fun i u hi hu => ?_⟩
    rw [← ht, List.getElem?_take, if_pos hi] at hu
    rw [cell_of_row w g _ _ _ _ hh]
    simpa using hu

theorem tsL_get (ps : Ts) (i : Nat) (h : i < ps.length) : (tsL ps)[i]? = some (bl ps[i].1, bl ps[i].2.1, bl ps[i].2.2) := by simp [tsL, h]
theorem dL_get (ms : List Mt) (i : Nat) (h : i < ms.length) : (dL ms)[i]? = some (dM ms[i]) := by simp [dL, h]

/-- What agrees. -/
def AgreeD (ps : Ts) (ms : List Mt) : Prop := ps.length = ms.length ∧ ∀ (i : Nat) (h1 : i < ps.length) (h2 : i < ms.length), ps[i].1 = ms[i].1 ∧ ps[i].2.2 = ms[i].2.2.1 ∧ (ms[i].2.2.2 = true ∨ (ms[i].2.2.2 = false ∧ ps[i].2.1 = ms[i].2.1))
theorem agreeD_of {ps : Ts} {ms : List Mt} (h : tsL ps = (dL ms).map dOf) : AgreeD ps ms := by
  have hl : ps.length = ms.length := by rw [← tsL_length, h, List.length_map, dL_length]
  refine ⟨hl, fun i h1 h2 => ?_⟩
  have e1 := tsL_get ps i h1
  have e2 := dL_get ms i h2
  rw [h, List.getElem?_map, e2, Option.map_some, Option.some.injEq] at e1
  simp only [dOf, dM, Prod.mk.injEq] at e1
  obtain ⟨e1, e3, e4⟩ := e1
  refine ⟨(bl_inj e1).symm, (bl_inj e4).symm, ?_⟩
  cases hb : ms[i].2.2.2
  · rw [hb] at e3
    exact .inr ⟨rfl, (bl_inj e3).symm⟩
  · exact .inl rfl

set_option maxHeartbeats 4000000 in
theorem lawDict_walk (s : ByteArray) (_hs : s.size ≤ maxLen) (w : World) (hT : Lib.Utf8Tabs 0 1 w) :
    Calls Tryd.prog 9 #[.string s] w fun e w' => e = .returned (.bool true) ∧ Gr w w' := by
  have HT := hid hT
  clear hT
  by_cases hz : s.size ≤ 2147483647
  case neg =>
    go_enter Tryd.func9, Tryd.ntmps9
    go_wp2_with fail
    go_ret
    exact ⟨rfl, Gr.refl _⟩
  go_enter Tryd.func9, Tryd.ntmps9
  go_wp2_with fail
  refine (specDict_any s _ hz).mono ?_
  rintro e w1 ⟨hg1, v, ms, base, q, rfl, ho, hwl, hq⟩
  have HT1 := hid (Utf8Tabs_below HT.out hg1)
  have HG1 := hid hg1
  have HO := hid ho
  clear hg1 ho
  rcases hq with rfl | ⟨rfl, hn⟩ | ⟨rfl, hp⟩
  · go_wp2_with fail
    refine (works_any _).mono ?_
    rintro e w2 ⟨rfl, hg2⟩
    go_wp2_with fail
    go_ret
    exact ⟨rfl, HG1.out.trans hg2⟩
  · have HN := hid hn
    clear hn
    go_wp2_with fail
    refine (implDict_any s _ (by omega) HT1.out).mono ?_
    rintro e w2 ⟨hg2, ⟨_, v2, rfl⟩ | ⟨v2, ys2, ps2, hx, _⟩⟩
    · have HG2 := hid (HG1.out.trans hg2)
      clear hg2
      go_wp2_with fail
      refine (works_any _).mono ?_
      rintro e w3 ⟨rfl, hg3⟩
      go_wp2_with fail
      go_ret
      exact ⟨rfl, HG2.out.trans hg3⟩
    · rw [HN.out] at hx
      cases hx
  have HN := hid hp
  clear hp
  go_wp2_with fail
  refine (implDict_any s _ (by omega) HT1.out).mono ?_
  rintro e w2 ⟨hg2, ⟨hx, _⟩ | ⟨v2, ys2, ps2, hx, hps, rfl, ho2⟩⟩
  · rw [HN.out] at hx
    cases hx
  obtain rfl := Option.some.inj (HN.out.symm.trans hx)
  obtain ⟨hlen, hag⟩ := agreeD_of hps
  have HAG := hid hag
  have HO1 := HO.out.gr hg2
  have HG2 := hid (HG1.out.trans hg2)
  have hq0 : ((ps2.length : Int) != (ms.length : Int)) = false := by rw [bne_eq_false_iff_eq]; omega
  clear hg2 hx hps hag HN HO HT1
  rcases row_at HO1 with ⟨rfl, hm0⟩ | ⟨g2, cap2, rfl, k2⟩
  · rcases row_at ho2 with ⟨rfl, _⟩ | ⟨g1, cap1, rfl, k1⟩
    all_goals
      clear HO1 ho2
      have hp0 : ps2.length = 0 := by omega
      rw [hp0, hm0] at hq0
      go_wp2_with fail
      refine wp_loop_rounds 1 ?_
      rw [rounds_succ]
      go_wp2_with fail
      refine (works_any _).mono ?_
      rintro e w5 ⟨rfl, hg5⟩
      go_wp2_with fail
      go_ret
      exact ⟨rfl, HG2.out.trans hg5⟩
  rcases row_at ho2 with ⟨rfl, hp0⟩ | ⟨g1, cap1, rfl, k1⟩
  · clear HO1 ho2
    have hm0 : ms.length = 0 := by omega
    rw [hp0, hm0] at hq0
    rw [hm0]
    go_wp2_with fail
    refine wp_loop_rounds 1 ?_
    rw [rounds_succ]
    go_wp2_with fail
    refine (works_any _).mono ?_
    rintro e w5 ⟨rfl, hg5⟩
    go_wp2_with fail
    go_ret
    exact ⟨rfl, HG2.out.trans hg5⟩
  have K1 := hid k1
  have K2 := hid k2
  have HLEN := hid hlen
  have hml : ms.length ≤ 2147483648 := by omega
  have hpl : ps2.length ≤ 2147483648 := by omega
  clear k1 k2 HO1 ho2 hlen
  go_wp2_with fail
  clear hq0
  go_loopw [44] (fun i wr => ∃ k : Nat, k ≤ ms.length ∧ i = .int .i64 k ∧ Hid (Gr w2 wr)) (fun i _ => ms.length - (intOf i).toNat)
  case atStart => exact ⟨0, Nat.zero_le _, rfl, hid (Gr.refl _)⟩
  case round =>
    obtain ⟨k, hk, rfl, hg⟩ := hrel
    by_cases hlt : k < ms.length
    case neg =>
      go_wp2_with fail
      refine (works_any _).mono ?_
      rintro e w6 ⟨rfl, hg6⟩
      go_wp2_with fail
      go_ret
      exact ⟨rfl, (HG2.out.trans hg.out).trans hg6⟩
    have hlt1 : k < ps2.length := by have := HLEN.out; omega
    obtain ⟨f0, f1, f2⟩ := flat3_get ps2 k hlt1
    obtain ⟨e0, e1, e2, e3⟩ := flat4_get ms k hlt
    have a0 := hg.out.cell (K1.out _ _ (by omega) f0)
    have a1 := hg.out.cell (K1.out _ _ (by omega) f1)
    have a2 := hg.out.cell (K1.out _ _ (by omega) f2)
    have b0 := hg.out.cell (K2.out _ _ (by omega) e0)
    have b1 := hg.out.cell (K2.out _ _ (by omega) e1)
    have b2 := hg.out.cell (K2.out _ _ (by omega) e2)
    have b3 := hg.out.cell (K2.out _ _ (by omega) e3)
    obtain ⟨h1, h2, h3⟩ := HAG.out k hlt1 hlt
    have hltI : (k : Int) < (ms.length : Int) := by omega
    have hltJ : (k : Int) < (ps2.length : Int) := by omega
    have i0 : (0 : Int) ≤ (k : Int) := by omega
    rw [h1] at a0
    rw [h2] at a2
    clear f0 f1 f2 e0 e1 e2 e3 h1 h2
    rcases h3 with h3 | ⟨h3, h4⟩
    · generalize ps2[k].2.1 = z at *
      rw [h3] at b3
      clear h3
      generalize ms[k].1 = x at *
      generalize ms[k].2.2.1 = y at *
      generalize ms[k].2.1 = u at *
      go_wp2_with fail
      have A0 := ((Gr.refl wr).alloc (.cells #[.string x, .string u, .string y, .bool true] 50)).cell a0
      have A1 := ((Gr.refl wr).alloc (.cells #[.string x, .string u, .string y, .bool true] 50)).cell a1
      have A2 := ((Gr.refl wr).alloc (.cells #[.string x, .string u, .string y, .bool true] 50)).cell a2
      have C0 : (wr.alloc (.cells #[.string x, .string u, .string y, .bool true] 50)).cell? ⟨wr.heap.size, 0, none⟩ = some (.string x) := by rw [Lib.cell_of_heap (heap_alloc_new wr _)]; rfl
      have C1 : (wr.alloc (.cells #[.string x, .string u, .string y, .bool true] 50)).cell? ⟨wr.heap.size, 1, none⟩ = some (.string u) := by rw [Lib.cell_of_heap (heap_alloc_new wr _)]; rfl
      have C2 : (wr.alloc (.cells #[.string x, .string u, .string y, .bool true] 50)).cell? ⟨wr.heap.size, 2, none⟩ = some (.string y) := by rw [Lib.cell_of_heap (heap_alloc_new wr _)]; rfl
      have C3 : (wr.alloc (.cells #[.string x, .string u, .string y, .bool true] 50)).cell? ⟨wr.heap.size, 3, none⟩ = some (.bool true) := by rw [Lib.cell_of_heap (heap_alloc_new wr _)]; rfl
      have HGW := hid (hg.out.alloc (.cells #[.string x, .string u, .string y, .bool true] 50))
      clear a0 a1 a2 b0 b1 b2 b3
      generalize wr.alloc (.cells #[.string x, .string u, .string y, .bool true] 50) = W at *
      generalize wr.heap.size = B2 at *
      go_quiet (fail)
      go_wp2_with fail
      go_roundw
      case rel => exact ⟨k + 1, by omega, by go_num, hid (HGW.out.drewN _)⟩
      case measure => simp [intOf]; omega
    · rw [h4] at a1
      clear h4
      rw [h3] at b3
      clear h3
      generalize ms[k].1 = x at *
      generalize ms[k].2.2.1 = y at *
      generalize ms[k].2.1 = u at *
      go_wp2_with fail
      have A0 := ((Gr.refl wr).alloc (.cells #[.string x, .string u, .string y, .bool false] 50)).cell a0
      have A1 := ((Gr.refl wr).alloc (.cells #[.string x, .string u, .string y, .bool false] 50)).cell a1
      have A2 := ((Gr.refl wr).alloc (.cells #[.string x, .string u, .string y, .bool false] 50)).cell a2
      have C0 : (wr.alloc (.cells #[.string x, .string u, .string y, .bool false] 50)).cell? ⟨wr.heap.size, 0, none⟩ = some (.string x) := by rw [Lib.cell_of_heap (heap_alloc_new wr _)]; rfl
      have C1 : (wr.alloc (.cells #[.string x, .string u, .string y, .bool false] 50)).cell? ⟨wr.heap.size, 1, none⟩ = some (.string u) := by rw [Lib.cell_of_heap (heap_alloc_new wr _)]; rfl
      have C2 : (wr.alloc (.cells #[.string x, .string u, .string y, .bool false] 50)).cell? ⟨wr.heap.size, 2, none⟩ = some (.string y) := by rw [Lib.cell_of_heap (heap_alloc_new wr _)]; rfl
      have C3 : (wr.alloc (.cells #[.string x, .string u, .string y, .bool false] 50)).cell? ⟨wr.heap.size, 3, none⟩ = some (.bool false) := by rw [Lib.cell_of_heap (heap_alloc_new wr _)]; rfl
      have HGW := hid (hg.out.alloc (.cells #[.string x, .string u, .string y, .bool false] 50))
      clear a0 a1 a2 b0 b1 b2 b3
      generalize wr.alloc (.cells #[.string x, .string u, .string y, .bool false] 50) = W at *
      generalize wr.heap.size = B2 at *
      go_quiet (fail)
      go_wp2_with fail
      go_roundw
      case rel => exact ⟨k + 1, by omega, by go_num, hid (HGW.out.drewN _)⟩
      case measure => simp [intOf]; omega

end Go.Proofs.YtohjnegllfdemaaDoor
