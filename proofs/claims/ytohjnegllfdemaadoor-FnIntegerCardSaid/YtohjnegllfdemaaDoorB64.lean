/-
  The walk of spec.base64.
-/
import Derived.Test.YtohjnegllfdemaaDoorSTok
set_option maxRecDepth 100000
namespace Go.Proofs.YtohjnegllfdemaaDoor
open Go.RowKit

theorem among_l (n : Nat) (s : ByteArray) (l : Bs) (w : World) (hs : s.size ≤ maxLen) (hl : bl s = l) :
    Calls Tryd.prog 31 #[.int .u8 n, .string s] w fun e w' => e = .returned (.bool (amongB n l)) ∧ w = w' := by
  subst hl
  exact among_any n s w hs

/-- A slice of bytes of the call's own, whatever it holds. -/
def OwnI (w : World) (base : Nat) (v : Value) : Prop := ∃ xs : List Int, w.ownsRow base 5 1 v xs.length (xs.map (Value.int .u8))
theorem OwnI.nil (w : World) (base : Nat) : OwnI w base (.slice none 0 0) := ⟨[], World.ownsRow_nil _ _ _ _⟩
theorem OwnI.gr {w w' : World} {base : Nat} {v : Value} (h : OwnI w base v) (k : Gr w w') : OwnI w' base v := by
  obtain ⟨xs, h⟩ := h
  refine ⟨xs, World.ownsRow.kept h (row := none) ⟨k.os, k.tape, k.output, k.size, fun i hi _ => k.block i hi⟩ ?_⟩
  cases v.ownBlock with
  | none => exact .inl rfl
  | some b => exact .inr (by simp)
theorem ownI_string {w : World} {base : Nat} {v : Value} (h : OwnI w base v) : ∃ t : ByteArray, (convert 80 9 v).run Tryd.prog w = .ok (.string t) w := by
  obtain ⟨xs, hl, hv | ⟨g, cap, cur, hv, hg, hh, hn, hm, hs, ht⟩⟩ := h
  · obtain ⟨rfl, h0⟩ := hv
    refine ⟨⟨#[]⟩, ?_⟩
    rw [run_convert_bytes_string _ _ _ _ _ _ _ Tryd.underlying80 Tryd.underlying5 Tryd.underlying9]
    rfl
  · subst hv
    have hcell : ∀ i, i < xs.length → w.cell? ⟨g, 0 + i, none⟩ = some (.int .u8 (xs.getD i 0)) := by
      intro i hi
      have h1 : (cur.toList.take (xs.length * 1))[i]? = some (.int .u8 (xs[i])) := by rw [ht]; simp [hi]
      rw [List.getElem?_take, if_pos (by omega)] at h1
      simp only [World.cell?, hh]
      simpa [hi] using h1
    exact ⟨_, run_convert_bytes_arg w 80 5 Tryd.underlying80 Tryd.underlying5 g 0 xs.length cap xs rfl hcell 9 Tryd.underlying9⟩
theorem OwnI.drewN {w : World} {base : Nat} {v : Value} (h : OwnI w base v) (n : Nat) : OwnI (w.drewN n) base v := h.gr ((Gr.refl w).drewN n)

/-- The same, of at most so many bytes. -/
def OwnN (w : World) (base : Nat) (v : Value) (n : Nat) : Prop := ∃ xs : List Int, xs.length ≤ n ∧ w.ownsRow base 5 1 v xs.length (xs.map (Value.int .u8))
theorem OwnN.nil (w : World) (base : Nat) : OwnN w base (.slice none 0 0) 0 := ⟨[], Nat.le_refl _, World.ownsRow_nil _ _ _ _⟩
theorem OwnN.toI {w : World} {base : Nat} {v : Value} {n : Nat} (h : OwnN w base v n) : OwnI w base v := let ⟨xs, _, h⟩ := h; ⟨xs, h⟩
theorem OwnN.gr {w w' : World} {base : Nat} {v : Value} {n : Nat} (h : OwnN w base v n) (k : Gr w w') : OwnN w' base v n := by
  obtain ⟨xs, hn, h⟩ := h
  refine ⟨xs, hn, World.ownsRow.kept h (row := none) ⟨k.os, k.tape, k.output, k.size, fun i hi _ => k.block i hi⟩ ?_⟩
  cases v.ownBlock with
  | none => exact .inl rfl
  | some b => exact .inr (by simp)

def alph : Bs := [65, 66, 67, 68, 69, 70, 71, 72, 73, 74, 75, 76, 77, 78, 79, 80, 81, 82, 83, 84, 85, 86, 87, 88, 89, 90, 97, 98, 99, 100, 101, 102, 103, 104, 105, 106, 107, 108, 109, 110, 111, 112, 113, 114, 115, 116, 117, 118, 119, 120, 121, 122, 48, 49, 50, 51, 52, 53, 54, 55, 56, 57, 43, 47]
def alphS : ByteArray := ⟨alph.toArray⟩
theorem b64B_eq : ∀ n, n < 256 → b64B n = (n == 61 || amongB n alph) := by
  have h : ∀ n : Fin 256, b64B n.1 = (n.1 == 61 || amongB n.1 alph) := by decide +kernel
  exact fun n hn => h ⟨n, hn⟩

/-- Each byte has a mark. -/
def allB (p : Nat → Bool) (l : Bs) : Bool := l.all fun c => p c.toNat
theorem allB_step (p : Nat → Bool) (s : ByteArray) (k : Nat) (R : Bool) (h : k < s.size) (hr : allB p ((bl s).drop k) = R) :
    (p (s[k]).toNat = true ∧ allB p ((bl s).drop (k + 1)) = R) ∨ (p (s[k]).toNat = false ∧ R = false) := by
  rw [bl_get s k h] at hr
  simp only [allB, List.all_cons] at hr
  cases hp : p (s[k]).toNat
  · rw [hp] at hr
    exact .inr ⟨rfl, by simpa using hr.symm⟩
  · rw [hp] at hr
    exact .inl ⟨rfl, by simpa [allB] using hr⟩

/-- What base64 gives: where nothing is left out, whether each byte is one of base64's. -/
def B64Post (w : World) (R : Bool) (e : Ending) (w' : World) : Prop :=
  ∃ (v : Value) (ok odd : Bool), e = .returned (.tuple #[v, .bool ok, .bool odd]) ∧ OwnI w' w.heap.size v ∧ (odd = false → ok = R) ∧ (odd = true → ok = true)

set_option maxHeartbeats 4000000 in
set_option maxRecDepth 100000 in
theorem base64_any (s : ByteArray) (w : World) (hs : s.size ≤ 2147483647) :
    Calls Tryd.prog 80 #[.string s] w fun e w' => B64Post w (allB b64B (bl s)) e w' ∧ Gr w w' := by
  obtain ⟨R, hR⟩ : ∃ R, allB b64B (bl s) = R := ⟨_, rfl⟩
  rw [hR]
  have HR : Hid (allB b64B ((bl s).drop 0) = R) := hid hR
  clear hR
  obtain ⟨i0, hi, hz0, hz1, hz2⟩ := info_parts info8
  go_enter Tryd.func80, Tryd.ntmps80
  go_wp2
  go_loop [2, 5, 15] (fun v pd i => ∃ k p : Nat, k ≤ s.size ∧ p ≤ k ∧ i = .int .i64 k ∧ pd = .int .i64 p ∧ v = .slice none 0 0 ∧ Hid (allB b64B ((bl s).drop k) = R)) (fun _ _ i => s.size - (intOf i).toNat)
  case atStart => exact ⟨0, 0, Nat.zero_le _, Nat.zero_le _, rfl, rfl, rfl, HR⟩
  case round =>
    obtain ⟨k, p, hk, hp, rfl, rfl, rfl, hr⟩ := hrel
    by_cases hlt : k < s.size
    · have hb := b64B_eq (s[k]).toNat (s[k]).toNat_lt
      cases h1 : (((s[k]).toNat : Int) == 61)
      · have e1 : ((s[k]).toNat == 61) = false := by rw [← h1, Bool.eq_iff_iff]; simp; omega
        rw [e1, Bool.false_or] at hb
        cases h2 : amongB (s[k]).toNat alph
        · rw [h2] at hb
          have hR2 : R = false := by
            rcases allB_step b64B s k R hlt hr.out with ⟨h, _⟩ | ⟨_, h⟩
            · rw [hb] at h; cases h
            · exact h
          have HR2 := hid hR2
          clear hb e1 hR2
          go_wp2_with (go_at_call 31; refine (among_l _ _ alph _ (by decide) rfl).mono ?_; rintro e w' ⟨rfl, rfl⟩)
          go_ret3
          exact ⟨⟨_, _, _, rfl, OwnI.nil _ _, fun _ => HR2.out.symm, fun h => by cases h⟩, Gr.refl _⟩
        · rw [h2] at hb
          have hN : allB b64B ((bl s).drop (k + 1)) = R := by
            rcases allB_step b64B s k R hlt hr.out with ⟨_, h⟩ | ⟨h, _⟩
            · exact h
            · rw [hb] at h; cases h
          have HN := hid hN
          clear hb e1 hN
          by_cases hp0 : 0 < p
          · go_wp2_with (go_at_call 31; refine (among_l _ _ alph _ (by decide) rfl).mono ?_; rintro e w' ⟨rfl, rfl⟩)
            go_ret3
            exact ⟨⟨_, _, _, rfl, OwnI.nil _ _, (fun h => by cases h), fun _ => rfl⟩, Gr.refl _⟩
          · go_wp2_with (go_at_call 31; refine (among_l _ _ alph _ (by decide) rfl).mono ?_; rintro e w' ⟨rfl, rfl⟩)
            go_round
            case rel => exact ⟨k + 1, p, by omega, by omega, by go_num, rfl, rfl, HN⟩
            case measure => simp [intOf]; omega
      · have e1 : ((s[k]).toNat == 61) = true := by rw [← h1, Bool.eq_iff_iff]; simp; omega
        rw [e1, Bool.true_or] at hb
        have hN : allB b64B ((bl s).drop (k + 1)) = R := by
          rcases allB_step b64B s k R hlt hr.out with ⟨_, h⟩ | ⟨h, _⟩
          · exact h
          · rw [hb] at h; cases h
        have HN := hid hN
        clear hb e1 hN
        go_wp2
        go_round
        case rel => exact ⟨k + 1, p + 1, by omega, by omega, by go_num, by go_num, rfl, HN⟩
        case measure => simp [intOf]; omega
    · have hRt : R = true := by
        rw [← hr.out, bl_end s k hlt]
        rfl
      have HRt := hid hRt
      clear hRt hr HR
      by_cases hmod : (s.size : Int) % 4 = 0
      · by_cases hp2 : 2 < p
        · go_wp2_with fail
          go_ret3
          exact ⟨⟨_, _, _, rfl, OwnI.nil _ _, (fun h => by cases h), fun _ => rfl⟩, Gr.refl _⟩
        · have hp2d : decide (2 < (p : Int)) = false := by simp; omega
          go_wp2_with fail
          have Hm := hid hmod
          clear hmod hlt
          go_loopw [2, 7] (fun v i wr => ∃ j : Nat, 4 * j ≤ s.size ∧ i = .int .i64 (4 * (j : Int)) ∧ OwnN wr w.heap.size v (3 * j) ∧ Gr w wr) (fun _ i _ => s.size - (intOf i).toNat)
          case atStart => exact ⟨0, Nat.zero_le _, rfl, OwnN.nil _ _, Gr.refl _⟩
          case round =>
            obtain ⟨j, hj, rfl, hown, hg⟩ := hrel
            by_cases hlt : 4 * j < s.size
            · obtain ⟨wo, rfl⟩ : ∃ wo : World, wo = wr := ⟨_, rfl⟩
              have hjd : decide (4 * (j : Int) < (s.size : Int)) = true := by simp; omega
              have hj4 : 4 * j + 4 ≤ s.size := by have := Hm.out; omega
              go_wp2_with fail
              go_loopw [8, 49] (fun n c wr => ∃ (k : Nat) (x : Int), k ≤ 4 ∧ c = .int .i64 k ∧ n = .int .i64 x ∧ Gr wo wr) (fun _ c _ => 4 - (intOf c).toNat)
              case atStart => exact ⟨0, 0, by omega, rfl, rfl, Gr.refl _⟩
              case round =>
                obtain ⟨k, x, hk4, rfl, rfl, hg2⟩ := hrel
                by_cases hk : k < 4
                · go_wp2_with fail
                  go_loopw [8, 54] (fun n c wr => ∃ (q : Nat) (x : Int), q ≤ 64 ∧ c = .int .i64 q ∧ n = .int .i64 x ∧ Gr wo wr) (fun _ c _ => 64 - (intOf c).toNat)
                  case atStart => exact ⟨0, _, by omega, rfl, rfl, hg2⟩
                  case round =>
                    obtain ⟨q, x, hq4, rfl, rfl, hg3⟩ := hrel
                    by_cases hq : q < 64
                    · have e0 : IntKind.i64.wrap (4 * (j : Int) + (k : Int)) = 4 * (j : Int) + (k : Int) := IntWalk.i64_in _ (by omega)
                      have e1 : (0 : Int) ≤ 4 * (j : Int) + (k : Int) := by omega
                      have e2 : (4 * (j : Int) + (k : Int)) < (s.size : Int) := by omega
                      have e3 : (4 * (j : Int) + (k : Int)).toNat = 4 * j + k := by omega
                      go_wp2_with fail
                      go_quiet (fail)
                      clear e0
                      go_wp2_with fail
                      all_goals
                        go_roundw
                        case rel => exact ⟨q + 1, _, by omega, by go_num, rfl, hg3.drewN _⟩
                        case measure => simp [intOf]; omega
                    · go_wp2_with fail
                      go_roundw
                      case rel => exact ⟨k + 1, _, by omega, by go_num, rfl, hg3⟩
                      case measure => simp [intOf]; omega
                · cases hl : (4 * (j : Int) + 4 == (s.size : Int))
                  · have hg4 := hg.trans hg2
                    go_wp2_with fail
                    · go_ret3
                      exact ⟨⟨_, _, _, rfl, OwnI.nil _ _, (fun h => by cases h), fun _ => rfl⟩, hg4⟩
                    · rename_i hbb
                      clear hbb
                      go_loopw [2, 87] (fun v c wr => ∃ q : Nat, q ≤ 3 ∧ c = .int .i64 q ∧ OwnN wr w.heap.size v (3 * j + q) ∧ Gr w wr) (fun _ c _ => 3 - (intOf c).toNat)
                      case atStart => exact ⟨0, by omega, rfl, hown.gr hg2, hg4⟩
                      case round =>
                        obtain ⟨q, hq, rfl, ⟨xs, hxs, hown0⟩, hg5⟩ := hrel
                        by_cases hqm : q < 3
                        · have hqi : (q : Int) < (3 : Int) := by omega
                          have b3 : xs.length + 1 ≤ maxLen := by unfold maxLen; omega
                          have b4 : (xs.length + 1) * 1 ≤ 140737488355328 := by omega
                          have b5 := hg5.size
                          go_wp2_with (at_builtin; (refine wpList_append_own _ rfl _ _ 80 rfl w.heap.size 5 i0 (.int .u8 0) 1 1 Tryd.underlying80 hi hz0 hz1 hz2 rfl (by decide) _ _ _ rfl (hown0.alloc _) ⟨wr.heap.size, 0, none⟩ 1 1 [.int .u8 _] rfl rfl (cell_one_new _ _ _) (by intro u hu; simp at hu; subst hu; rfl) b3 b4 (by simp; omega) ?_); intro v' w1 hown' hgrow _)
                          go_roundw
                          case rel => exact ⟨q + 1, by omega, by go_num, ⟨xs ++ [_], by simp; omega, by simpa using hown'⟩, (hg5.alloc _).grown (hown0.alloc _) hgrow⟩
                          case measure => simp [intOf]; omega
                        · have hqi : (3 : Int) ≤ (q : Int) := by omega
                          go_wp2_with fail
                          go_roundw
                          case rel => exact ⟨j + 1, by omega, by go_num, ⟨xs, by omega, hown0⟩, hg5⟩
                          case measure => simp [intOf]; omega
                  · have hg4 := hg.trans hg2
                    go_wp2_with fail
                    · go_ret3
                      exact ⟨⟨_, _, _, rfl, OwnI.nil _ _, (fun h => by cases h), fun _ => rfl⟩, hg4⟩
                    · rename_i hbb
                      clear hbb
                      go_loopw [2, 87] (fun v c wr => ∃ q : Nat, q ≤ (3 - p) ∧ c = .int .i64 q ∧ OwnN wr w.heap.size v (3 * j + q) ∧ Gr w wr) (fun _ c _ => (3 - p) - (intOf c).toNat)
                      case atStart => exact ⟨0, by omega, rfl, hown.gr hg2, hg4⟩
                      case round =>
                        obtain ⟨q, hq, rfl, ⟨xs, hxs, hown0⟩, hg5⟩ := hrel
                        by_cases hqm : q < (3 - p)
                        · have hqi : (q : Int) < (3 : Int) - (p : Int) := by omega
                          have b3 : xs.length + 1 ≤ maxLen := by unfold maxLen; omega
                          have b4 : (xs.length + 1) * 1 ≤ 140737488355328 := by omega
                          have b5 := hg5.size
                          go_wp2_with (at_builtin; (refine wpList_append_own _ rfl _ _ 80 rfl w.heap.size 5 i0 (.int .u8 0) 1 1 Tryd.underlying80 hi hz0 hz1 hz2 rfl (by decide) _ _ _ rfl (hown0.alloc _) ⟨wr.heap.size, 0, none⟩ 1 1 [.int .u8 _] rfl rfl (cell_one_new _ _ _) (by intro u hu; simp at hu; subst hu; rfl) b3 b4 (by simp; omega) ?_); intro v' w1 hown' hgrow _)
                          go_roundw
                          case rel => exact ⟨q + 1, by omega, by go_num, ⟨xs ++ [_], by simp; omega, by simpa using hown'⟩, (hg5.alloc _).grown (hown0.alloc _) hgrow⟩
                          case measure => simp [intOf]; omega
                        · have hqi : (3 : Int) - (p : Int) ≤ (q : Int) := by omega
                          go_wp2_with fail
                          go_roundw
                          case rel => exact ⟨j + 1, by omega, by go_num, ⟨xs, by omega, hown0⟩, hg5⟩
                          case measure => simp [intOf]; omega
            · go_wp2_with fail
              go_ret3
              exact ⟨⟨_, _, _, rfl, hown.toI, (fun _ => HRt.out.symm), fun h => by cases h⟩, hg⟩
      · go_wp2_with fail
        go_ret3
        exact ⟨⟨_, _, _, rfl, OwnI.nil _ _, (fun h => by cases h), fun _ => rfl⟩, Gr.refl _⟩

end Go.Proofs.YtohjnegllfdemaaDoor
