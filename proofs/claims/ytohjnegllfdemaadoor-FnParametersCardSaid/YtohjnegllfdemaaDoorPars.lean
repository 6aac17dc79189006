/-
  The reference's parser: its state in memory; the walks of next, blanks, item, key.
-/
import Derived.Test.YtohjnegllfdemaaDoorImp
import Derived.Deep.LoopGhost
import Derived.StillTailTactics
set_option maxRecDepth 100000
namespace Go.Proofs.YtohjnegllfdemaaDoor
open Go.RowKit

/-- The number of the byte at the head; 0 at the end. -/
def hdN : Bs → Nat
  | [] => 0
  | c :: _ => c.toNat

/-- The parser in block b. -/
def PS (w : World) (b : Nat) (s : ByteArray) (k : Nat) (bad odd : Bool) : Prop := w.heap[b]? = some (.cells #[.string s, .int .i64 (k : Nat), .bool bad, .bool odd] 63 (0, 0))
theorem PS.gr {w w' : World} {b k : Nat} {s : ByteArray} {bad odd : Bool} (h : PS w b s k bad odd) (g : Gr w w') : PS w' b s k bad odd := by
  unfold PS
  rw [Below.block g _ (lt_of_block h)]
  exact h
theorem PS.c0 {w : World} {b k : Nat} {s : ByteArray} {bad odd : Bool} (h : PS w b s k bad odd) : w.cell? ⟨b, 0, none⟩ = some (.string s) := by rw [cell_of_row w b _ _ _ _ h]; rfl
theorem PS.c1 {w : World} {b k : Nat} {s : ByteArray} {bad odd : Bool} (h : PS w b s k bad odd) : w.cell? ⟨b, 1, none⟩ = some (.int .i64 (k : Nat)) := by rw [cell_of_row w b _ _ _ _ h]; rfl
theorem PS.c2 {w : World} {b k : Nat} {s : ByteArray} {bad odd : Bool} (h : PS w b s k bad odd) : w.cell? ⟨b, 2, none⟩ = some (.bool bad) := by rw [cell_of_row w b _ _ _ _ h]; rfl
theorem PS.c3 {w : World} {b k : Nat} {s : ByteArray} {bad odd : Bool} (h : PS w b s k bad odd) : w.cell? ⟨b, 3, none⟩ = some (.bool odd) := by rw [cell_of_row w b _ _ _ _ h]; rfl
theorem PS.fz {w : World} {b k : Nat} {s : ByteArray} {bad odd : Bool} (h : PS w b s k bad odd) (j : Nat) : w.frozen? ⟨b, j, none⟩ = false := Lib.frozen_of_heap h j
theorem PS.at {w : World} {b k : Nat} {s : ByteArray} {bad odd : Bool} (h : PS w b s k bad odd) (n : Nat) (x : Int) (hx : x = (n : Int)) : PS (w.setCell ⟨b, 1, none⟩ (.int .i64 x)) b s n bad odd := by
  subst hx
  unfold PS
  rw [heap_setCell_same _ _ _ _ _ _ h]
  rfl
theorem PS.worse {w : World} {b k : Nat} {s : ByteArray} {bad odd : Bool} (h : PS w b s k bad odd) (x : Bool) : PS (w.setCell ⟨b, 2, none⟩ (.bool x)) b s k x odd := by
  unfold PS
  rw [heap_setCell_same _ _ _ _ _ _ h]
  rfl
theorem PS.odder {w : World} {b k : Nat} {s : ByteArray} {bad odd : Bool} (h : PS w b s k bad odd) (x : Bool) : PS (w.setCell ⟨b, 3, none⟩ (.bool x)) b s k bad x := by
  unfold PS
  rw [heap_setCell_same _ _ _ _ _ _ h]
  rfl

/-- Only block b has turned, and what is new. -/
def Fr (b : Nat) (w w' : World) : Prop := w.grownBy w' (some b)
theorem Fr.refl (b : Nat) (w : World) : Fr b w w := ⟨rfl, rfl, rfl, Nat.le_refl _, fun _ _ _ => rfl⟩
theorem Fr.trans {b : Nat} {x y z : World} (h : Fr b x y) (k : Fr b y z) : Fr b x z :=
  ⟨k.os.trans h.os, k.tape.trans h.tape, k.output.trans h.output, Nat.le_trans h.size k.size, fun i hi hn => (k.block i (Nat.lt_of_lt_of_le hi h.size) hn).trans (h.block i hi hn)⟩
theorem Fr.of_gr {b : Nat} {w w' : World} (h : Gr w w') : Fr b w w' := ⟨h.os, h.tape, h.output, h.size, fun i hi _ => h.block i hi⟩
theorem Fr.set {b : Nat} {x y : World} (h : Fr b x y) (j : Nat) (u : Value) : Fr b x (y.setCell ⟨b, j, none⟩ u) :=
  ⟨h.os, h.tape, h.output, by simpa [World.setCell] using h.size, fun i hi hn => (Below.heap_setCell y ⟨b, j, none⟩ u i (fun e => hn (by rw [e]))).trans (h.block i hi hn)⟩
theorem Fr.size {b : Nat} {w w' : World} (h : Fr b w w') : w.heap.size ≤ w'.heap.size := World.grownBy.size h
theorem Fr.below {b B : Nat} {w w' : World} (h : Fr b w w') (hB : B ≤ b) (hw : B ≤ w.heap.size) : Below B w w' :=
  ⟨h.os, h.tape, h.output, h.size, fun i hi => h.block i (Nat.lt_of_lt_of_le hi hw) (by simp; omega)⟩
theorem Fr.heap {b : Nat} {w w' : World} (h : Fr b w w') {i : Nat} {o : Obj} (hi : w.heap[i]? = some o) (hn : i ≠ b) : w'.heap[i]? = some o := by
  rw [h.block i (lt_of_block hi) (by simpa using hn)]
  exact hi
theorem OwnP.fr {w w' : World} {base b : Nat} {T : TypeId} {v : Value} {xs : Ps} (h : OwnP w base T v xs) (k : Fr b w w') (hb : v.ownBlock ≠ some b) : OwnP w' base T v xs :=
  World.ownsRow.kept h k (.inr hb)

theorem drop_lt {s : ByteArray} {k : Nat} (h : hdN ((bl s).drop k) ≠ 0) : k < s.size := by
  by_cases hk : k < s.size
  · exact hk
  · rw [bl_end s k hk] at h
    exact absurd rfl h
theorem hdN_at {s : ByteArray} {k : Nat} (h : k < s.size) : hdN ((bl s).drop k) = (s[k]).toNat := by rw [bl_get s k h]; rfl

set_option maxHeartbeats 1000000 in
theorem next_q (b k : Nat) (s : ByteArray) (bad odd : Bool) (w : World) (_hs : s.size ≤ 2147483647) (hk : k ≤ s.size) (h : PS w b s k bad odd) :
    Calls Tryd.prog 41 #[.pointer (some ⟨b, 0, none⟩)] w fun e w' => e = .returned (.int .u8 (hdN ((bl s).drop k) : Nat)) ∧ ∃ n, w' = w.drewN n := by
  have c0 := h.c0
  have c1 := h.c1
  clear h
  by_cases hlt : k < s.size
  · have HV := hid (hdN_at hlt)
    have q1 : (((k : Nat) : Int) == (s.size : Int)) = false := by rw [beq_eq_false_iff_ne]; omega
    go_enter Tryd.func41, Tryd.ntmps41
    go_wp2
    go_quiet (fail)
    go_wp2
    go_quiet (fail)
    go_wp2
    go_ret
    exact ⟨by rw [HV.out]; rfl, _, by rw [World.drewN_drewN]⟩
  · have HV := hid (show hdN ((bl s).drop k) = 0 by rw [bl_end s k hlt]; rfl)
    have q1 : (((k : Nat) : Int) == (s.size : Int)) = true := by rw [beq_iff_eq]; omega
    go_enter Tryd.func41, Tryd.ntmps41
    go_wp2
    go_quiet (fail)
    go_wp2
    go_ret
    exact ⟨by rw [HV.out]; rfl, _, rfl⟩

theorem next_any (b k : Nat) (s : ByteArray) (bad odd : Bool) (w : World) (hs : s.size ≤ 2147483647) (hk : k ≤ s.size) (h : PS w b s k bad odd) :
    Calls Tryd.prog 41 #[.pointer (some ⟨b, 0, none⟩)] w fun e w' => e = .returned (.int .u8 (hdN ((bl s).drop k) : Nat)) ∧ PS w' b s k bad odd ∧ Gr w w' :=
  (next_q b k s bad odd w hs hk h).mono fun _ _ ⟨he, n, hw⟩ => by
    subst hw
    exact ⟨he, h.gr ((Gr.refl w).drewN n), (Gr.refl w).drewN n⟩

theorem skip_cons_yes {p : Nat → Bool} {s : ByteArray} {k : Nat} {R : Bs} (hlt : k < s.size) (hr : skip p ((bl s).drop k) = R) (hp : p (hdN ((bl s).drop k)) = true) : skip p ((bl s).drop (k + 1)) = R := by
  rw [hdN_at hlt] at hp
  exact skip_next p s k R hlt hr hp
theorem skip_cons_no {p : Nat → Bool} {s : ByteArray} {k : Nat} {R : Bs} (hr : skip p ((bl s).drop k) = R) (hp : p (hdN ((bl s).drop k)) = false) : (bl s).drop k = R := by
  by_cases hlt : k < s.size
  · rw [hdN_at hlt] at hp
    exact skip_stop p s k R hlt hr hp
  · exact skip_end p s k R hlt hr

/-- Behind blanks: where the parser stands. -/
def BlPost (b : Nat) (s : ByteArray) (k : Nat) (bad odd : Bool) (p : Nat → Bool) (tabs : Bool) (w w' : World) : Prop :=
  ∃ k', k ≤ k' ∧ k' ≤ s.size ∧ (bl s).drop k' = skip p ((bl s).drop k) ∧ PS w' b s k' bad (odd || (!tabs && hdN ((bl s).drop k') == 9)) ∧ Fr b w w'
theorem blPost_at {b k k' : Nat} {s : ByteArray} {bad odd x : Bool} {p : Nat → Bool} {tabs : Bool} {w w' : World} {R : Bs} (h1 : k ≤ k') (h2 : k' ≤ s.size) (h3 : (bl s).drop k' = R) (hr : skip p ((bl s).drop k) = R) (hx : x = (odd || (!tabs && hdN ((bl s).drop k') == 9))) (hp : PS w' b s k' bad x) (hf : Fr b w w') : BlPost b s k bad odd p tabs w w' :=
  ⟨k', h1, h2, h3.trans hr.symm, by rw [← hx]; exact hp, hf⟩

set_option maxHeartbeats 2000000 in
theorem blanks_no (b k : Nat) (s : ByteArray) (bad odd : Bool) (w : World) (hs : s.size ≤ 2147483647) (hk : k ≤ s.size) (h : PS w b s k bad odd) :
    Calls Tryd.prog 67 #[.pointer (some ⟨b, 0, none⟩), .bool false] w fun e w' => e = .returned (.tuple #[]) ∧ BlPost b s k bad odd spB false w w' := by
  obtain ⟨R, hR⟩ : ∃ R, skip spB ((bl s).drop k) = R := ⟨_, rfl⟩
  have HR := hid hR
  have HP := hid h
  clear hR h
  go_enter Tryd.func67, Tryd.ntmps67
  go_wp2_with fail
  go_loopg [] (s.size - k) (fun g wr => ∃ j : Nat, k ≤ j ∧ j ≤ s.size ∧ s.size - j ≤ g ∧ Hid (PS wr b s j bad odd) ∧ Hid (skip spB ((bl s).drop j) = R) ∧ Hid (Fr b w wr))
  case atStart => exact ⟨k, Nat.le_refl _, hk, Nat.le_refl _, HP, HR, hid (Fr.refl _ _)⟩
  case round =>
    clear HP
    obtain ⟨j, hkj, hjs, hjg, hps, hr, hf⟩ := hrel
    go_wp2_with fail
    refine (next_any b j s bad odd _ hs hjs hps.out).mono ?_
    rintro e w1 ⟨rfl, hp1, hg1⟩
    by_cases hb : hdN ((bl s).drop j) = 32
    · have hlt : j < s.size := drop_lt (by omega)
      have HN := hid (skip_cons_yes hlt hr.out (by rw [hb]; rfl))
      have c := hp1.c1
      have f := hp1.fz 1
      have HP1 := hid hp1
      have q : ((hdN ((bl s).drop j) : Int) == 32) = true := eqT hb
      have HF1 := hid (hf.out.trans (Fr.of_gr hg1))
      clear hp1 hg1 hb
      go_wp2_with fail
      go_roundg (s.size - (j + 1))
      case measure => omega
      case rel => exact ⟨j + 1, by omega, by omega, Nat.le_refl _, hid (HP1.out.at (j + 1) _ (by omega)), HN, hid (HF1.out.set 1 _)⟩
    · have q : ((hdN ((bl s).drop j) : Int) == 32) = false := eqF hb
      have HE := hid (skip_cons_no hr.out (show spB (hdN ((bl s).drop j)) = false by simpa [spB] using hb))
      have HP1 := hid hp1
      have c3 := hp1.c3
      have f3 := hp1.fz 3
      have HF1 := hid (hf.out.trans (Fr.of_gr hg1))
      clear hp1 hg1 hb
      cases odd
      · go_wp2_with fail
        refine (next_any b j s bad false _ hs hjs HP1.out).mono ?_
        rintro e w2 ⟨rfl, hp2, hg2⟩
        have HP2 := hid hp2
        have d3 := hp2.c3
        have g3 := hp2.fz 3
        have HF2 := hid (HF1.out.trans (Fr.of_gr hg2))
        clear hp2 hg2
        cases h9 : ((hdN ((bl s).drop j) : Int) == 9)
        · have H9 := hid (natF' (n := 9) h9)
          go_wp2_with fail
          go_end0
          exact ⟨rfl, blPost_at hkj hjs HE.out HR.out (x := false) (by rw [H9.out]; rfl) (HP2.out.odder false) (HF2.out.set 3 _)⟩
        · have H9 := hid (natT' (n := 9) h9)
          go_wp2_with fail
          go_end0
          exact ⟨rfl, blPost_at hkj hjs HE.out HR.out (x := true) (by rw [H9.out]; rfl) (HP2.out.odder true) (HF2.out.set 3 _)⟩
      · go_wp2_with fail
        go_end0
        exact ⟨rfl, blPost_at hkj hjs HE.out HR.out (x := true) rfl (HP1.out.odder true) (HF1.out.set 3 _)⟩

set_option maxHeartbeats 2000000 in
theorem blanks_yes (b k : Nat) (s : ByteArray) (bad odd : Bool) (w : World) (hs : s.size ≤ 2147483647) (hk : k ≤ s.size) (h : PS w b s k bad odd) :
    Calls Tryd.prog 67 #[.pointer (some ⟨b, 0, none⟩), .bool true] w fun e w' => e = .returned (.tuple #[]) ∧ BlPost b s k bad odd wsB true w w' := by
  obtain ⟨R, hR⟩ : ∃ R, skip wsB ((bl s).drop k) = R := ⟨_, rfl⟩
  have HR := hid hR
  have HP := hid h
  clear hR h
  go_enter Tryd.func67, Tryd.ntmps67
  go_wp2_with fail
  go_loopg [] (s.size - k) (fun g wr => ∃ j : Nat, k ≤ j ∧ j ≤ s.size ∧ s.size - j ≤ g ∧ Hid (PS wr b s j bad odd) ∧ Hid (skip wsB ((bl s).drop j) = R) ∧ Hid (Fr b w wr))
  case atStart => exact ⟨k, Nat.le_refl _, hk, Nat.le_refl _, HP, HR, hid (Fr.refl _ _)⟩
  case round =>
    clear HP
    obtain ⟨j, hkj, hjs, hjg, hps, hr, hf⟩ := hrel
    go_wp2_with fail
    refine (next_any b j s bad odd _ hs hjs hps.out).mono ?_
    rintro e w1 ⟨rfl, hp1, hg1⟩
    by_cases hb : hdN ((bl s).drop j) = 32
    · have hlt : j < s.size := drop_lt (by omega)
      have HN := hid (skip_cons_yes hlt hr.out (by rw [hb]; rfl))
      have c := hp1.c1
      have f := hp1.fz 1
      have HP1 := hid hp1
      have q : ((hdN ((bl s).drop j) : Int) == 32) = true := eqT hb
      have HF1 := hid (hf.out.trans (Fr.of_gr hg1))
      clear hp1 hg1 hb
      go_wp2_with fail
      go_roundg (s.size - (j + 1))
      case measure => omega
      case rel => exact ⟨j + 1, by omega, by omega, Nat.le_refl _, hid (HP1.out.at (j + 1) _ (by omega)), HN, hid (HF1.out.set 1 _)⟩
    · have q : ((hdN ((bl s).drop j) : Int) == 32) = false := eqF hb
      have HP1 := hid hp1
      have HF1 := hid (hf.out.trans (Fr.of_gr hg1))
      clear hp1 hg1
      go_wp2_with fail
      refine (next_any b j s bad odd _ hs hjs HP1.out).mono ?_
      rintro e w2 ⟨rfl, hp2, hg2⟩
      have c := hp2.c1
      have f := hp2.fz 1
      have c3 := hp2.c3
      have f3 := hp2.fz 3
      have HP2 := hid hp2
      have HF2 := hid (HF1.out.trans (Fr.of_gr hg2))
      clear hp2 hg2
      by_cases hb9 : hdN ((bl s).drop j) = 9
      · have hlt : j < s.size := drop_lt (by omega)
        have HN := hid (skip_cons_yes hlt hr.out (by rw [hb9]; rfl))
        have q9 : ((hdN ((bl s).drop j) : Int) == 9) = true := eqT hb9
        clear hb hb9
        go_wp2_with fail
        go_roundg (s.size - (j + 1))
        case measure => omega
        case rel => exact ⟨j + 1, by omega, by omega, Nat.le_refl _, hid (HP2.out.at (j + 1) _ (by omega)), HN, hid (HF2.out.set 1 _)⟩
      · have HE := hid (skip_cons_no hr.out (show wsB (hdN ((bl s).drop j)) = false by simp [wsB, hb, hb9]))
        have q9 : ((hdN ((bl s).drop j) : Int) == 9) = false := eqF hb9
        clear hb hb9
        cases odd
        all_goals
          go_wp2_with fail
          go_end0
        · exact ⟨rfl, blPost_at hkj hjs HE.out HR.out (x := false) rfl (HP2.out.odder false) (HF2.out.set 3 _)⟩
        · exact ⟨rfl, blPost_at hkj hjs HE.out HR.out (x := true) rfl (HP2.out.odder true) (HF2.out.set 3 _)⟩

/-- Behind a key: the text, and where the parser stands. -/
def KeyPost (b : Nat) (s : ByteArray) (k : Nat) (odd : Bool) (w : World) (e : Ending) (w' : World) : Prop :=
  Fr b w w' ∧ match key ((bl s).drop k) with
    | none => e = .returned (.string ⟨#[]⟩) ∧ PS w' b s k true odd
    | some r => ∃ (t : ByteArray) (k' : Nat), e = .returned (.string t) ∧ k ≤ k' ∧ k' ≤ s.size ∧ (bl s).drop k' = r ∧ bl t = ahead ((bl s).drop k) r ∧ PS w' b s k' false odd

theorem ahead_mid (s : ByteArray) (k k' : Nat) (r : Bs) (h1 : k ≤ k') (h2 : k' ≤ s.size) (h : (bl s).drop k' = r) : bl (s.extract k k') = ahead ((bl s).drop k) r := by
  rw [bl_extract, ahead, ← h, List.length_drop, List.length_drop, bl_length]
  congr 1
  omega

end Go.Proofs.YtohjnegllfdemaaDoor
