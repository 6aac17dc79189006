/-
  The walks of ParseString, ParseToken, ParseByteSequence, and of the thin functions over them.
-/
import Derived.Test.YtohjnegllfdemaaByt
import Derived.Laws.BytesArg
import Derived.Laws.BytesString
namespace Go.Proofs.Ytohjnegllfdemaa
open Go.RowKit

theorem cells8_string {w : World} {b : Nat} {s : ByteArray} {len cap : Nat} (h : Cells8 w b (bl s)) (hlen : len = (bl s).length) :
    (convert 32 9 (.slice (some ⟨b, 0, none⟩) len cap)).run Try.prog w = .ok (.string s) w := by
  subst hlen
  rw [run_convert_bytes_arg w 32 5 Try.underlying32 Try.underlying5 b 0 (bl s).length cap ((bl s).map fun c => ((c.toNat : Nat) : Int)) (by simp) (fun i hi => by
    have := h i hi
    simpa [hi] using this) 9 Try.underlying9]
  have : strOfNums ((bl s).map fun c => ((c.toNat : Nat) : Int)) = s := by
    apply bl_inj
    show (strOfNums _).data.toList = _
    rw [strOfNums_data, List.map_map]
    have hf : ((fun n : Int => UInt8.ofNat n.toNat) ∘ fun c : UInt8 => ((c.toNat : Nat) : Int)) = id := by funext c; simp
    rw [hf, List.map_id]
  rw [this]

theorem tail_ne {t : ByteArray} {r : Bs} (ht : bl t = r) (hr : r ≠ []) : t.toList.isEmpty = false ∧ ¬ t.toList = [] := by
  rw [bl_toList, ht]
  exact ⟨by rw [List.isEmpty_eq_false_iff]; exact hr, hr⟩

set_option maxHeartbeats 1000000 in
theorem parseString_no (s : ByteArray) (w : World) (hs : s.size ≤ maxLen) (h : str (bl s) ≠ some []) :
    Calls Try.prog 16 #[.string s] w fun e w' => e = .returned (.tuple #[.string ⟨#[]⟩, .bool false]) ∧ Gr w w' := by
  cases hx : str (bl s) with
  | none =>
    go_enter Try.func16, Try.ntmps16
    go_wp2_with fail
    refine (consumeString_none s _ hs hx).mono ?_
    rintro e w' ⟨⟨c, t, rfl⟩, hg⟩
    go_wp2_with fail
    go_ret2
    exact ⟨rfl, hg⟩
  | some r =>
    have hr : r ≠ [] := fun e => h (by rw [hx, e])
    clear h
    go_enter Try.func16, Try.ntmps16
    go_wp2_with fail
    refine (consumeString_some s r _ hs hx).mono ?_
    rintro e w' ⟨⟨c, t, rfl, _, ht⟩, hg⟩
    obtain ⟨hn, hn2⟩ := tail_ne ht hr
    clear ht hr
    go_wp2_with fail
    go_ret2
    exact ⟨rfl, hg⟩

set_option maxHeartbeats 1000000 in
theorem parseString_yes (s : ByteArray) (w : World) (hs : s.size ≤ maxLen) (h2 : 2 ≤ s.size) (hx : str (bl s) = some []) :
    Calls Try.prog 16 #[.string s] w fun e w' => e = .returned (.tuple #[.string (s.extract 1 (s.size - 1)), .bool true]) ∧ Gr w w' := by
  have hs' := hs
  unfold maxLen at hs'
  go_enter Try.func16, Try.ntmps16
  go_wp2_with fail
  refine (consumeString_some s [] _ hs hx).mono ?_
  rintro e w1 ⟨⟨c, t, rfl, _, ht⟩, hg⟩
  obtain rfl := bl_empty ht
  clear ht hx
  have q1 : (1 : Int) ≤ (s.size : Int) - 1 := by omega
  have q2 : ((s.size : Int) - 1).toNat = s.size - 1 := by omega
  go_wp2_with fail
  go_ret2
  exact ⟨rfl, hg⟩

theorem implText_no (s : ByteArray) (w : World) (hs : s.size ≤ maxLen) (h : str (bl s) ≠ some []) :
    Calls Try.prog 10 #[.string s] w fun e w' => e = .returned (.tuple #[.string ⟨#[]⟩, .bool false]) ∧ Gr w w' := by
  go_enter Try.func10, Try.ntmps10
  go_wp2_with fail
  refine (parseString_no s _ hs h).mono ?_
  rintro e w' ⟨rfl, hg⟩
  go_wp2_with fail
  go_ret2
  exact ⟨rfl, hg⟩
theorem implText_yes (s : ByteArray) (w : World) (hs : s.size ≤ maxLen) (h2 : 2 ≤ s.size) (hx : str (bl s) = some []) :
    Calls Try.prog 10 #[.string s] w fun e w' => e = .returned (.tuple #[.string (s.extract 1 (s.size - 1)), .bool true]) ∧ Gr w w' := by
  go_enter Try.func10, Try.ntmps10
  go_wp2_with fail
  refine (parseString_yes s _ hs h2 hx).mono ?_
  rintro e w' ⟨rfl, hg⟩
  go_wp2_with fail
  go_ret2
  exact ⟨rfl, hg⟩

set_option maxHeartbeats 1000000 in
theorem parseToken_no (s : ByteArray) (w : World) (hs : s.size ≤ maxLen) (h : tok (bl s) ≠ some []) :
    Calls Try.prog 18 #[.string s] w fun e w' => e = .returned (.tuple #[.string ⟨#[]⟩, .bool false]) ∧ Gr w w' := by
  cases hx : tok (bl s) with
  | none =>
    go_enter Try.func18, Try.ntmps18
    go_wp2_with fail
    refine (consumeToken_none s _ hs hx).mono ?_
    rintro e w' ⟨⟨c, t, rfl⟩, hg⟩
    go_wp2_with fail
    go_ret2
    exact ⟨rfl, hg⟩
  | some r =>
    have hr : r ≠ [] := fun e => h (by rw [hx, e])
    clear h
    go_enter Try.func18, Try.ntmps18
    go_wp2_with fail
    refine (consumeToken_some s r _ hs hx).mono ?_
    rintro e w' ⟨⟨c, t, rfl, _, ht⟩, hg⟩
    obtain ⟨hn, hn2⟩ := tail_ne ht hr
    clear ht hr
    go_wp2_with fail
    go_ret2
    exact ⟨rfl, hg⟩

set_option maxHeartbeats 1000000 in
theorem parseToken_yes (s : ByteArray) (w : World) (hs : s.size ≤ maxLen) (hx : tok (bl s) = some []) :
    Calls Try.prog 18 #[.string s] w fun e w' => e = .returned (.tuple #[.string s, .bool true]) ∧ Gr w w' := by
  go_enter Try.func18, Try.ntmps18
  go_wp2_with fail
  refine (consumeToken_some s [] _ hs hx).mono ?_
  rintro e w1 ⟨⟨c, t, rfl, _, ht⟩, hg⟩
  obtain rfl := bl_empty ht
  clear ht hx
  go_wp2_with fail
  go_ret2
  exact ⟨rfl, hg⟩

theorem implToken_no (s : ByteArray) (w : World) (hs : s.size ≤ maxLen) (h : tok (bl s) ≠ some []) :
    Calls Try.prog 12 #[.string s] w fun e w' => e = .returned (.tuple #[.string ⟨#[]⟩, .bool false]) ∧ Gr w w' := by
  go_enter Try.func12, Try.ntmps12
  go_wp2_with fail
  refine (parseToken_no s _ hs h).mono ?_
  rintro e w' ⟨rfl, hg⟩
  go_wp2_with fail
  go_ret2
  exact ⟨rfl, hg⟩
theorem implToken_yes (s : ByteArray) (w : World) (hs : s.size ≤ maxLen) (hx : tok (bl s) = some []) :
    Calls Try.prog 12 #[.string s] w fun e w' => e = .returned (.tuple #[.string s, .bool true]) ∧ Gr w w' := by
  go_enter Try.func12, Try.ntmps12
  go_wp2_with fail
  refine (parseToken_yes s _ hs hx).mono ?_
  rintro e w' ⟨rfl, hg⟩
  go_wp2_with fail
  go_ret2
  exact ⟨rfl, hg⟩

set_option maxHeartbeats 1000000 in
theorem parseByteSequence_no (s : ByteArray) (w : World) (hs : s.size ≤ maxLen) (h : byt (bl s) ≠ some []) :
    Calls Try.prog 17 #[.string s] w fun e w' => e = .returned (.tuple #[.slice none 0 0, .bool false]) ∧ Gr w w' := by
  cases hx : byt (bl s) with
  | none =>
    go_enter Try.func17, Try.ntmps17
    go_wp2_with fail
    refine (consumeByteSequence_none s _ hs hx).mono ?_
    rintro e w' ⟨⟨c, t, rfl⟩, hg⟩
    go_wp2_with fail
    go_ret2
    exact ⟨rfl, hg⟩
  | some r =>
    have hr : r ≠ [] := fun e => h (by rw [hx, e])
    clear h
    go_enter Try.func17, Try.ntmps17
    go_wp2_with fail
    refine (consumeByteSequence_some s r _ hs hx).mono ?_
    rintro e w' ⟨⟨c, t, rfl, _, ht⟩, hg⟩
    obtain ⟨hn, hn2⟩ := tail_ne ht hr
    clear ht hr
    go_wp2_with fail
    go_ret2
    exact ⟨rfl, hg⟩

set_option maxHeartbeats 1000000 in
theorem parseByteSequence_yes (s : ByteArray) (w : World) (hs : s.size ≤ maxLen) (h2 : 2 ≤ s.size) (hx : byt (bl s) = some []) :
    Calls Try.prog 17 #[.string s] w fun e w' => (∃ v : Value, e = .returned (.tuple #[v, .bool true]) ∧ ∀ W, Gr w' W → (convert 32 9 v).run Try.prog W = .ok (.string (s.extract 1 (s.size - 1))) W) ∧ Gr w w' := by
  have hs' := hs
  unfold maxLen at hs'
  go_enter Try.func17, Try.ntmps17
  go_wp2_with fail
  refine (consumeByteSequence_some s [] _ hs hx).mono ?_
  rintro e w1 ⟨⟨c, t, rfl, _, ht⟩, hg⟩
  obtain rfl := bl_empty ht
  clear ht hx
  have q1 : (1 : Int) ≤ (s.size : Int) - 1 := by omega
  have q2 : ((s.size : Int) - 1).toNat = s.size - 1 := by omega
  obtain ⟨cap, C, hcv, hC⟩ := conv_bytes w1 (s.extract 1 (s.size - 1))
  have HC := hid hC
  clear hC
  go_wp2_with fail
  go_ret2
  refine ⟨⟨_, rfl, fun W hW => ?_⟩, (hg.alloc _).drew⟩
  have hcl := (cells8_alloc w1 C 5 (C.size, C.size + 1) (bl (s.extract 1 (s.size - 1))) HC.out).gr ((Gr.refl _).drew.trans hW)
  exact cells8_string hcl (by rw [bl_extract, List.length_take, List.length_drop, bl_length]; omega)

theorem implBytes_no (s : ByteArray) (w : World) (hs : s.size ≤ maxLen) (h : byt (bl s) ≠ some []) :
    Calls Try.prog 11 #[.string s] w fun e w' => e = .returned (.tuple #[.slice none 0 0, .bool false]) ∧ Gr w w' := by
  go_enter Try.func11, Try.ntmps11
  go_wp2_with fail
  refine (parseByteSequence_no s _ hs h).mono ?_
  rintro e w' ⟨rfl, hg⟩
  go_wp2_with fail
  go_ret2
  exact ⟨rfl, hg⟩
theorem implBytes_yes (s : ByteArray) (w : World) (hs : s.size ≤ maxLen) (h2 : 2 ≤ s.size) (hx : byt (bl s) = some []) :
    Calls Try.prog 11 #[.string s] w fun e w' => (∃ v : Value, e = .returned (.tuple #[v, .bool true]) ∧ ∀ W, Gr w' W → (convert 32 9 v).run Try.prog W = .ok (.string (s.extract 1 (s.size - 1))) W) ∧ Gr w w' := by
  go_enter Try.func11, Try.ntmps11
  go_wp2_with fail
  refine (parseByteSequence_yes s _ hs h2 hx).mono ?_
  rintro e w' ⟨⟨v, rfl, hv⟩, hg⟩
  go_wp2_with fail
  go_ret2
  exact ⟨⟨v, rfl, hv⟩, hg⟩

end Go.Proofs.Ytohjnegllfdemaa
