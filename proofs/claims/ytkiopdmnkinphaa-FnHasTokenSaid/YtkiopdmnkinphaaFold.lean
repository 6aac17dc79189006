/-
  The walk of fold.
-/
import Derived.Test.YtkiopdmnkinphaaTrim
import Derived.Deep.QuietTactic
import Derived.BigQuiet
import Derived.Laws.IdiomStrings
import Derived.Laws.BytesArg
import Derived.Laws.BytesString
import Derived.Lib.SlBytesConst
set_option maxRecDepth 100000
namespace Go.Proofs.Ytkiopdmnkinphaa
open Go.RowKit

/-- '[]byte(s)': a new row that holds the bytes. -/
theorem conv_bytes (w : World) (s : ByteArray) : ∃ (cap : Nat) (C : Array Value),
    (convert 9 35 (.string s)).run Try.prog w = .ok (.slice (some ⟨w.heap.size, 0, none⟩) s.size cap) (w.drew.alloc (.cells C 5 (C.size, C.size + 1))) ∧
    C.toList.take (bl s).length = (bl s).map fun c => Value.int .u8 c.toNat := by
  refine ⟨_, _, run_bytes_of_string w _ _ _ s Try.underlying9 Try.underlying35 Try.underlying5, ?_⟩
  unfold bytesRow bl
  simp

/-- A row of bytes in a block. -/
def Cells8 (w : World) (b : Nat) (l : Bs) : Prop := ∀ (i : Nat) (h : i < l.length), w.cell? ⟨b, i, none⟩ = some (.int .u8 (l[i]'h).toNat)
theorem cells8_alloc (w : World) (C : Array Value) (e : TypeId) (fz : Nat × Nat) (l : Bs) (hC : C.toList.take l.length = l.map fun c => Value.int .u8 c.toNat) : Cells8 (w.alloc (.cells C e fz)) w.heap.size l := by
  intro i hi
  have h1 : (C.toList.take l.length)[i]? = some (.int .u8 (l[i]'hi).toNat) := by rw [hC]; simp [hi]
  rw [List.getElem?_take, if_pos hi] at h1
  simp only [World.cell?]
  rw [heap_alloc_new]
  simpa using h1
theorem cells8_string {w : World} {b : Nat} {s : ByteArray} {len cap : Nat} (h : Cells8 w b (bl s)) (hlen : len = (bl s).length) :
    (convert 35 9 (.slice (some ⟨b, 0, none⟩) len cap)).run Try.prog w = .ok (.string s) w := by
  subst hlen
  rw [run_convert_bytes_arg w 35 5 Try.underlying35 Try.underlying5 b 0 (bl s).length cap ((bl s).map fun c => ((c.toNat : Nat) : Int)) (by simp) (fun i hi => by
    have := h i hi
    simpa [hi] using this) 9 Try.underlying9]
  have : strOfNums ((bl s).map fun c => ((c.toNat : Nat) : Int)) = s := by
    apply bl_inj
    show (strOfNums _).data.toList = _
    rw [strOfNums_data, List.map_map]
    have hf : ((fun n : Int => UInt8.ofNat n.toNat) ∘ fun c : UInt8 => ((c.toNat : Nat) : Int)) = id := by funext c; simp
    rw [hf, List.map_id]
  rw [this]

/-- The row while it is being folded: k of its bytes are done. -/
def half (l : Bs) (k : Nat) : Bs := (l.take k).map lowU ++ l.drop k
theorem half_length (l : Bs) (k : Nat) (h : k ≤ l.length) : (half l k).length = l.length := by simp [half]; omega
theorem half_zero (l : Bs) : half l 0 = l := by simp [half]
theorem half_end (s : ByteArray) (k : Nat) (h : ¬ k < s.size) : half (bl s) k = (bl s).map lowU := by
  rw [half, bl_end s k h, List.append_nil, List.take_of_length_le (by rw [bl_length]; omega)]
theorem half_at (s : ByteArray) (k : Nat) (h : k < s.size) : half (bl s) k = ((bl s).take k).map lowU ++ s[k] :: (bl s).drop (k + 1) := by rw [half, bl_get s k h]
theorem half_next (s : ByteArray) (k : Nat) (h : k < s.size) : half (bl s) (k + 1) = ((bl s).take k).map lowU ++ lowU s[k] :: (bl s).drop (k + 1) := by
  have hg := bl_get s k h
  have : (bl s)[k]? = some s[k] := by
    have := congrArg (·[0]?) hg
    simpa using this
  rw [half, List.take_add_one, this]
  simp
theorem half_keep (s : ByteArray) (k : Nat) (h : k < s.size) (hu : uppB (s[k]).toNat = false) : half (bl s) (k + 1) = half (bl s) k := by
  rw [half_at s k h, half_next s k h]
  simp [lowU, hu]
theorem half_cell (s : ByteArray) (k : Nat) (h : k < s.size) (w : World) (b : Nat) (hc : Cells8 w b (half (bl s) k)) : w.cell? ⟨b, k, none⟩ = some (.int .u8 (s[k]).toNat) := by
  have hl : ((bl s).take k).length = k := by rw [List.length_take, bl_length]; omega
  have h1 := hc k (by rw [half_length _ _ (by rw [bl_length]; omega), bl_length]; exact h)
  rw [h1]
  have : (half (bl s) k)[k]? = some s[k] := by
    rw [half_at s k h, List.getElem?_append_right (by rw [List.length_map, hl]; exact Nat.le_refl _), List.length_map, hl, Nat.sub_self]
    rfl
  rw [List.getElem?_eq_some_iff] at this
  obtain ⟨_, e⟩ := this
  rw [e]
theorem half_set (s : ByteArray) (k : Nat) (h : k < s.size) (w : World) (b : Nat) (hc : Cells8 w b (half (bl s) k)) (x : Int) (hx : x = ((lowU s[k]).toNat : Int)) :
    Cells8 (w.setCell ⟨b, k, none⟩ (.int .u8 x)) b (half (bl s) (k + 1)) := by
  have hl : ((bl s).take k).length = k := by rw [List.length_take, bl_length]; omega
  subst hx
  intro i hi
  rw [half_length _ _ (by rw [bl_length]; omega), bl_length] at hi
  have hj : (half (bl s) (k + 1))[i]? = if i = k then some (lowU s[k]) else (half (bl s) k)[i]? := by
    rw [half_next s k h, half_at s k h]
    by_cases h1 : i < k
    · rw [if_neg (by omega), List.getElem?_append_left (by rw [List.length_map, hl]; exact h1), List.getElem?_append_left (by rw [List.length_map, hl]; exact h1)]
    · rw [List.getElem?_append_right (by rw [List.length_map, hl]; omega), List.getElem?_append_right (by rw [List.length_map, hl]; omega), List.length_map, hl]
      by_cases h2 : i = k
      · subst h2; simp
      · rw [if_neg h2]
        obtain ⟨d, hd⟩ : ∃ d, i - k = d + 1 := ⟨i - k - 1, by omega⟩
        rw [hd, List.getElem?_cons_succ, List.getElem?_cons_succ]
  have hi2 : i < (half (bl s) k).length := by rw [half_length _ _ (by rw [bl_length]; omega), bl_length]; exact hi
  by_cases hik : i = k
  · subst hik
    rw [if_pos rfl, List.getElem?_eq_some_iff] at hj
    obtain ⟨_, e⟩ := hj
    rw [e]
    exact World.cell?_setCell_same _ _ _ (half_cell s i h w b hc)
  · rw [if_neg hik, List.getElem?_eq_getElem hi2, List.getElem?_eq_some_iff] at hj
    obtain ⟨_, e⟩ := hj
    rw [e]
    have hne : (⟨b, i, none⟩ : Addr) ≠ ⟨b, k, none⟩ := by
      intro e
      injection e with _ e2
      exact hik e2
    rw [← hc i hi2]
    exact World.cell?_setCell_other _ _ _ _ (Ne.symm hne)

theorem Gr.setCell {a b : World} (h : Gr a b) {p : Addr} (hp : a.heap.size ≤ p.block) (u : Value) : Gr a (b.setCell p u) := Below.setCell h hp u

theorem asc_yes (s : ByteArray) (k : Nat) (h : k < s.size) (R : Bool) (hr : asc ((bl s).drop k) = R) (hc : (s[k]).toNat < 128) : asc ((bl s).drop (k + 1)) = R := all_yes _ s k h R hr (by simpa using hc)
theorem asc_no (s : ByteArray) (k : Nat) (h : k < s.size) (R : Bool) (hr : asc ((bl s).drop k) = R) (hc : ¬ (s[k]).toNat < 128) : R = false := all_no _ s k h R hr (by simpa using hc)
theorem asc_end (s : ByteArray) (k : Nat) (h : ¬ k < s.size) (R : Bool) (hr : asc ((bl s).drop k) = R) : R = true := all_end _ s k h R hr

/-- None of the first n cells of a block is one that a string shares. -/
def Free (w : World) (b n : Nat) : Prop := ∀ j, j < n → w.frozen? ⟨b, j, none⟩ = false
theorem free_alloc (w : World) (C : Array Value) (e : TypeId) (s : ByteArray) (hC : C.toList.take (bl s).length = (bl s).map fun c => Value.int .u8 c.toNat) : Free (w.alloc (.cells C e (C.size, C.size + 1))) w.heap.size s.size := by
  intro j hj
  have h1 := congrArg List.length hC
  rw [List.length_take, List.length_map, bl_length, Array.length_toList] at h1
  rw [World.frozen?_alloc_mark]
  have : decide (C.size ≤ j) = false := by simp; omega
  rw [this]
  rfl
theorem Free.set {w : World} {b n : Nat} (h : Free w b n) (a : Addr) (v : Value) : Free (w.setCell a v) b n := fun j hj => by
  rw [World.frozen?_setCell]
  exact h j hj

/-- What fold gives. -/
def FoldPost (s : ByteArray) (e : Ending) : Prop :=
  ∃ (t : ByteArray) (b : Bool), e = .returned (.tuple #[.string t, .bool b]) ∧ (if b then some (bl t) else none) = foldP (bl s)

set_option maxHeartbeats 1000000 in
theorem fold_any (s : ByteArray) (w : World) (hs : s.size ≤ maxLen) :
    Calls Try.prog 16 #[.string s] w fun e w' => FoldPost s e ∧ Gr w w' := by
  unfold maxLen at hs
  obtain ⟨cap, C, hcv, hC⟩ := conv_bytes w s
  have HC := hid hC
  clear hC
  obtain ⟨R, hR⟩ : ∃ R, R = asc (bl s) := ⟨_, rfl⟩
  have HR := hid hR.symm
  clear hR
  go_enter Try.func16, Try.ntmps16
  go_wp2
  go_loopw [11] (fun i wr => ∃ k : Nat, k ≤ s.size ∧ i = .int .i64 k ∧ Hid (asc ((bl s).drop k) = R) ∧ Cells8 wr w.heap.size (half (bl s) k) ∧ Free wr w.heap.size s.size ∧ Gr w wr) (fun i _ => s.size - (intOf i).toNat)
  case atStart => exact ⟨0, Nat.zero_le _, rfl, HR, (half_zero (bl s)).symm ▸ cells8_alloc w.drew C _ _ (bl s) HC.out, free_alloc w.drew C _ s HC.out, (Gr.refl _).drew.alloc _⟩
  case round =>
    obtain ⟨k, hk, rfl, hr, hcs, hfr, hg⟩ := hrel
    by_cases hlt : k < s.size
    · have hcell := half_cell s k hlt wr w.heap.size hcs
      by_cases h1 : (s[k]).toNat < 128
      · have HX := hid (asc_yes s k hlt R hr.out h1)
        cases hu : uppB (s[k]).toNat
        · have hcs' := (half_keep s k hlt hu).symm ▸ hcs
          have hu2 : ¬ 65 ≤ (s[k]).toNat ∨ ¬ (s[k]).toNat ≤ 90 := by
            simp only [uppB, Bool.and_eq_false_iff, decide_eq_false_iff_not] at hu
            exact hu
          by_cases h2 : 65 ≤ (s[k]).toNat <;> by_cases h3 : (s[k]).toNat ≤ 90 <;> (try omega)
          all_goals
            clear hu2
            go_wp2
            go_roundw
            case rel => exact ⟨k + 1, by omega, by go_num, HX, hcs', hfr, hg⟩
            case measure => simp [intOf]; omega
        · have hu2 : 65 ≤ (s[k]).toNat ∧ (s[k]).toNat ≤ 90 := by
            simp only [uppB, Bool.and_eq_true, decide_eq_true_eq] at hu
            exact hu
          obtain ⟨h2, h3⟩ := hu2
          have hv : ((s[k]).toNat : Int) + 97 - 65 = ((lowU s[k]).toNat : Int) := by
            rw [lowU_toNat, lowN, if_pos hu]
            omega
          have hcs' := half_set s k hlt wr w.heap.size hcs _ rfl
          have hfz := hfr k hlt
          go_wp2
          go_roundw
          case rel => exact ⟨k + 1, by omega, by go_num, HX, hcs', hfr.set _ _, hg.setCell (Nat.le_refl _) _⟩
          case measure => simp [intOf]; omega
      · have HX := hid (asc_no s k hlt R hr.out h1)
        go_wp2
        go_ret2
        exact ⟨⟨_, _, rfl, by simp [foldP, HR.out, HX.out]⟩, hg⟩
    · have HX := hid (asc_end s k hlt R hr.out)
      have hm := half_end s k hlt
      rw [hm] at hcs
      have hst := cells8_string (w := wr) (b := w.heap.size) (s := ⟨((bl s).map lowU).toArray⟩) (len := s.size) (cap := cap) hcs (by simp [bl])
      go_wp2
      go_ret2
      exact ⟨⟨_, _, rfl, by rw [foldP, HR.out, HX.out]; rfl⟩, hg⟩
end Go.Proofs.Ytkiopdmnkinphaa
