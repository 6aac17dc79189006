/-
  The walk of spec.bytes.
-/
import Derived.Test.YtohjnegllfdemaaDoorB64
set_option maxRecDepth 100000
namespace Go.Proofs.YtohjnegllfdemaaDoor
open Go.RowKit

theorem bytT_cut (pre r : Bs) (h : allB (fun n => !(n == 58)) pre = true) : bytT (pre ++ 58 :: r) = if allB b64B pre then some r else none := by
  induction pre with
  | nil => simp [bytT, allB]
  | cons c t ih =>
    simp only [allB, List.all_cons, Bool.and_eq_true] at h
    have hc : c ≠ 58 := by
      rintro rfl
      simp at h
    have ih' := ih h.2
    simp only [List.cons_append, bytT, if_neg hc, ih']
    cases hb : b64B c.toNat <;> simp [allB, hb]
theorem bytT_open (l : Bs) (h : allB (fun n => !(n == 58)) l = true) : bytT l = none := by
  induction l with
  | nil => rfl
  | cons c t ih =>
    simp only [allB, List.all_cons, Bool.and_eq_true] at h
    have hc : c ≠ 58 := by
      rintro rfl
      simp at h
    simp only [bytT, if_neg hc]
    split
    · exact ih h.2
    · rfl

theorem nc_step (s : ByteArray) (k : Nat) (hk1 : 1 ≤ k) (h : k < s.size) (hr : allB (fun n => !(n == 58)) (((bl s).drop 1).take (k - 1)) = true) (hc : (s[k]).toNat ≠ 58) :
    allB (fun n => !(n == 58)) (((bl s).drop 1).take (k + 1 - 1)) = true := by
  obtain ⟨j, rfl⟩ : ∃ j, k = j + 1 := ⟨k - 1, by omega⟩
  have hg := bl_get s (j + 1) h
  have hd : ((bl s).drop 1)[j]? = some s[j + 1] := by
    rw [List.getElem?_drop, Nat.add_comm]
    have := congrArg (·[0]?) hg
    simpa using this
  simp only [Nat.add_sub_cancel] at hr ⊢
  rw [List.take_add_one, hd]
  unfold allB at hr ⊢
  rw [List.all_append, hr]
  simpa using hc

theorem nc_cut (s : ByteArray) (k : Nat) (hk1 : 1 ≤ k) (h : k < s.size) (hc : (s[k]).toNat = 58) : (bl s).drop 1 = ((bl s).drop 1).take (k - 1) ++ 58 :: (bl s).drop (k + 1) := by
  have h1 : ((bl s).drop 1).drop (k - 1) = 58 :: (bl s).drop (k + 1) := by
    rw [List.drop_drop, show 1 + (k - 1) = k from by omega, bl_get s k h, (u8_eq (n := 58) (by decide)).2 hc]
    rfl
  rw [← h1, List.take_append_drop]

/-- What bytes gives: where nothing is left out, what the scanner of byte sequences says. -/
def BytesPost (s : ByteArray) (w : World) (e : Ending) (w' : World) : Prop :=
  ∃ (n : Nat) (v : Value) (ok odd : Bool), e = .returned (.tuple #[.int .i64 n, v, .bool ok, .bool odd]) ∧ n ≤ s.size ∧ OwnI w' w.heap.size v ∧
    (odd = false → match byt (bl s) with | some r => ok = true ∧ n = s.size - r.length ∧ r.length ≤ s.size | none => ok = false) ∧ (odd = true → ok = true)

theorem bytesPost_none (s : ByteArray) (w w' : World) (h : byt (bl s) = none) : BytesPost s w (.returned (.tuple #[.int .i64 0, .slice none 0 0, .bool false, .bool false])) w' :=
  ⟨0, _, _, _, rfl, Nat.zero_le _, OwnI.nil _ _, (fun _ => by rw [h]), fun h => by cases h⟩

theorem bytesPost_at (s : ByteArray) (w w' : World) (k : Nat) (v : Value) (ok odd : Bool) (hk1 : 1 ≤ k) (hk : k < s.size) (h0 : byt (bl s) = bytT ((bl s).drop 1)) (hc : (s[k]).toNat = 58)
    (hn : allB (fun n => !(n == 58)) (((bl s).drop 1).take (k - 1)) = true) (hv : OwnI w' w.heap.size v) (hok : odd = false → ok = allB b64B (bl (s.extract 1 k))) (hok2 : odd = true → ok = true) :
    BytesPost s w (.returned (.tuple #[.int .i64 ((k : Int) + 1), v, .bool ok, .bool odd])) w' := by
  refine ⟨k + 1, v, ok, odd, rfl, by omega, hv, fun ho => ?_, hok2⟩
  rw [h0, nc_cut s k hk1 hk hc, bytT_cut _ _ hn]
  have hx := hok ho
  rw [bl_extract] at hx
  have hl : ((bl s).drop (k + 1)).length = s.size - (k + 1) := by rw [List.length_drop, bl_length]
  cases hb : allB b64B (List.take (k - 1) (List.drop 1 (bl s)))
  · rw [hb] at hx
    simpa using hx
  · rw [hb] at hx
    simp only [if_true]
    exact ⟨hx, by omega, by omega⟩

set_option maxHeartbeats 1000000 in
theorem bytes_any (s : ByteArray) (w : World) (hs : s.size ≤ 2147483647) :
    Calls Tryd.prog 59 #[.string s] w fun e w' => BytesPost s w e w' ∧ Gr w w' := by
  by_cases h0 : 0 < s.size
  · have hne : s.toList.isEmpty = false := notEmpty h0
    cases h58 : (((s[0]).toNat : Int) != 58)
    · have hb : byt (bl s) = bytT ((bl s).drop 1) := by
        have hc : (s[0]).toNat = 58 := by have := bne_eq_false_iff_eq.1 h58; omega
        have hg := bl_get s 0 h0
        rw [List.drop_zero] at hg
        have hc' : s[0] = 58 := (u8_eq (n := 58) (by decide)).2 hc
        rw [hg, byt, if_pos hc']
        rfl
      have Hb := hid hb
      clear hb
      go_enter Tryd.func59, Tryd.ntmps59
      go_wp2
      clear h58
      go_loop [2] (fun i => ∃ k : Nat, 1 ≤ k ∧ k ≤ s.size ∧ i = .int .i64 k ∧ Hid (allB (fun n => !(n == 58)) (((bl s).drop 1).take (k - 1)) = true)) (fun i => s.size - (intOf i).toNat)
      case atStart => exact ⟨1, Nat.le_refl _, by omega, rfl, rfl⟩
      case round =>
        obtain ⟨k, hk1, hk, rfl, hr⟩ := hrel
        by_cases hlt : k < s.size
        · cases h2 : (((s[k]).toNat : Int) == 58)
          · have hc : (s[k]).toNat ≠ 58 := by have := beq_eq_false_iff_ne.1 h2; omega
            have HN := hid (nc_step s k hk1 hlt hr.out hc)
            clear hc
            go_wp2
            go_round
            case rel => exact ⟨k + 1, by omega, by omega, by go_num, HN⟩
            case measure => simp [intOf]; omega
          · have hc : (s[k]).toNat = 58 := by have := beq_iff_eq.1 h2; omega
            have HC := hid hc
            clear hc
            go_wp2_with fail
            have hsz : (s.extract 1 k).size ≤ 2147483647 := by rw [← bl_length, bl_extract, List.length_take, List.length_drop, bl_length]; omega
            refine (base64_any _ _ hsz).mono ?_
            rintro e w1 ⟨⟨v, ok, odd, rfl, hv, hok, hok2⟩, hg⟩
            have HOK := hid hok
            have HOK2 := hid hok2
            clear hok hok2
            go_wp2_with fail
            refine bodyPost_ret (v := .tuple #[.int .i64 ((k : Int) + 1), v, .bool ok, .bool odd]) (by simp [results, Tryd.results59, go_sem]) rfl ⟨bytesPost_at s w _ k v ok odd hk1 hlt Hb.out HC.out hr.out hv HOK.out HOK2.out, hg⟩
        · have hn : byt (bl s) = none := by
            rw [Hb.out]
            refine bytT_open _ ?_
            have := hr.out
            rwa [List.take_of_length_le (by rw [List.length_drop, bl_length]; omega)] at this
          have HN := hid hn
          clear hn
          go_wp2_with fail
          exact bodyPost_ret (v := .tuple #[.int .i64 0, .slice none 0 0, .bool false, .bool false]) (by simp [results, Tryd.results59, go_sem]) rfl ⟨bytesPost_none s w _ HN.out, Gr.refl _⟩
    · have hb : byt (bl s) = none := by
        have hc : (s[0]).toNat ≠ 58 := by have := bne_iff_ne.1 h58; omega
        have hg := bl_get s 0 h0
        rw [List.drop_zero] at hg
        have hc' : ¬ s[0] = 58 := fun e => hc ((u8_eq (n := 58) (by decide)).1 e)
        rw [hg, byt, if_neg hc']
      have HN := hid hb
      clear hb
      go_enter Tryd.func59, Tryd.ntmps59
      go_wp2_with fail
      exact bodyPost_ret (v := .tuple #[.int .i64 0, .slice none 0 0, .bool false, .bool false]) (by simp [results, Tryd.results59, go_sem]) rfl ⟨bytesPost_none s w _ HN.out, Gr.refl _⟩
  · have hl : bl s = [] := List.eq_nil_of_length_eq_zero (by rw [bl_length]; omega)
    have hne : s.toList.isEmpty = true := by rw [bl_toList, hl]; rfl
    have HN := hid (show byt (bl s) = none by rw [hl]; rfl)
    clear hl
    go_enter Tryd.func59, Tryd.ntmps59
    go_wp2_with fail
    exact bodyPost_ret (v := .tuple #[.int .i64 0, .slice none 0 0, .bool false, .bool false]) (by simp [results, Tryd.results59, go_sem]) rfl ⟨bytesPost_none s w _ HN.out, Gr.refl _⟩

end Go.Proofs.YtohjnegllfdemaaDoor
