/-
  Several texts in one: Pars, Pars2, Pars3.
-/
import Derived.Test.YtohjnegllfdemaaDoorImp
import Derived.Deep.LoopGhost
import Derived.StillTailTactics
import Derived.Test.YtohjnegllfdemaaDoorGram4
import Derived.Deep.RegionHeld3
set_option maxRecDepth 100000
namespace Go.Proofs.YtohjnegllfdemaaDoor
open Go.RowKit

/-!
  The reference's parser: its state in memory; the walks of next, blanks, item, key.
-/
/-- The number of the byte at the head; 0 at the end. -/
def hdN : Bs → Nat
  | [] => 0
  | c :: _ => c.toNat

/-- The parser in block b. -/
def PS (w : World) (b : Nat) (s : ByteArray) (k : Nat) (bad odd : Bool) : Prop := w.heap[b]? = some (.cells #[.string s, .int .i64 (k : Nat), .bool bad, .bool odd] 63 (0, 0))
theorem PS.gr {w w' : World} {b k : Nat} {s : ByteArray} {bad odd : Bool} (h : PS w b s k bad odd) (g : Gr w w') : PS w' b s k bad odd := by
  unfold PS
  rw [Below.block g _ (lt_of_block h)]
  exact h
theorem PS.c0 {w : World} {b k : Nat} {s : ByteArray} {bad odd : Bool} (h : PS w b s k bad odd) : w.cell? ⟨b, 0, none⟩ = some (.string s) := by rw [cell_of_row w b _ _ _ _ h]; rfl
theorem PS.c1 {w : World} {b k : Nat} {s : ByteArray} {bad odd : Bool} (h : PS w b s k bad odd) : w.cell? ⟨b, 1, none⟩ = some (.int .i64 (k : Nat)) := by rw [cell_of_row w b _ _ _ _ h]; rfl
theorem PS.c2 {w : World} {b k : Nat} {s : ByteArray} {bad odd : Bool} (h : PS w b s k bad odd) : w.cell? ⟨b, 2, none⟩ = some (.bool bad) := by rw [cell_of_row w b _ _ _ _ h]; rfl
theorem PS.c3 {w : World} {b k : Nat} {s : ByteArray} {bad odd : Bool} (h : PS w b s k bad odd) : w.cell? ⟨b, 3, none⟩ = some (.bool odd) := by rw [cell_of_row w b _ _ _ _ h]; rfl
theorem PS.fz {w : World} {b k : Nat} {s : ByteArray} {bad odd : Bool} (h : PS w b s k bad odd) (j : Nat) : w.frozen? ⟨b, j, none⟩ = false := Lib.frozen_of_heap h j
theorem PS.at {w : World} {b k : Nat} {s : ByteArray} {bad odd : Bool} (h : PS w b s k bad odd) (n : Nat) (x : Int) (hx : x = (n : Int)) : PS (w.setCell ⟨b, 1, none⟩ (.int .i64 x)) b s n bad odd := by
  subst hx
  unfold PS
  rw [heap_setCell_same _ _ _ _ _ _ h]
  rfl
theorem PS.worse {w : World} {b k : Nat} {s : ByteArray} {bad odd : Bool} (h : PS w b s k bad odd) (x : Bool) : PS (w.setCell ⟨b, 2, none⟩ (.bool x)) b s k x odd := by
  unfold PS
  rw [heap_setCell_same _ _ _ _ _ _ h]
  rfl
theorem PS.odder {w : World} {b k : Nat} {s : ByteArray} {bad odd : Bool} (h : PS w b s k bad odd) (x : Bool) : PS (w.setCell ⟨b, 3, none⟩ (.bool x)) b s k bad x := by
  unfold PS
  rw [heap_setCell_same _ _ _ _ _ _ h]
  rfl

/-- Only block b has turned, and what is new. -/
def Fr (b : Nat) (w w' : World) : Prop := w.grownBy w' (some b)
theorem Fr.refl (b : Nat) (w : World) : Fr b w w := ⟨rfl, rfl, rfl, Nat.le_refl _, fun _ _ _ => rfl⟩
theorem Fr.trans {b : Nat} {x y z : World} (h : Fr b x y) (k : Fr b y z) : Fr b x z :=
  ⟨k.os.trans h.os, k.tape.trans h.tape, k.output.trans h.output, Nat.le_trans h.size k.size, fun i hi hn => (k.block i (Nat.lt_of_lt_of_le hi h.size) hn).trans (h.block i hi hn)⟩
theorem Fr.of_gr {b : Nat} {w w' : World} (h : Gr w w') : Fr b w w' := ⟨h.os, h.tape, h.output, h.size, fun i hi _ => h.block i hi⟩
theorem Fr.set {b : Nat} {x y : World} (h : Fr b x y) (j : Nat) (u : Value) : Fr b x (y.setCell ⟨b, j, none⟩ u) :=
  ⟨h.os, h.tape, h.output, by simpa [World.setCell] using h.size, fun i hi hn => (Below.heap_setCell y ⟨b, j, none⟩ u i (fun e => hn (by rw [e]))).trans (h.block i hi hn)⟩
theorem Fr.size {b : Nat} {w w' : World} (h : Fr b w w') : w.heap.size ≤ w'.heap.size := World.grownBy.size h
theorem Fr.below {b B : Nat} {w w' : World} (h : Fr b w w') (hB : B ≤ b) (hw : B ≤ w.heap.size) : Below B w w' :=
  ⟨h.os, h.tape, h.output, h.size, fun i hi => h.block i (Nat.lt_of_lt_of_le hi hw) (by simp; omega)⟩
theorem Fr.heap {b : Nat} {w w' : World} (h : Fr b w w') {i : Nat} {o : Obj} (hi : w.heap[i]? = some o) (hn : i ≠ b) : w'.heap[i]? = some o := by
  rw [h.block i (lt_of_block hi) (by simpa using hn)]
  exact hi
theorem OwnP.fr {w w' : World} {base b : Nat} {T : TypeId} {v : Value} {xs : Ps} (h : OwnP w base T v xs) (k : Fr b w w') (hb : v.ownBlock ≠ some b) : OwnP w' base T v xs :=
  World.ownsRow.kept h k (.inr hb)

theorem drop_lt {s : ByteArray} {k : Nat} (h : hdN ((bl s).drop k) ≠ 0) : k < s.size := by
  by_cases hk : k < s.size
  · exact hk
  · rw [bl_end s k hk] at h
    exact absurd rfl h
theorem hdN_at {s : ByteArray} {k : Nat} (h : k < s.size) : hdN ((bl s).drop k) = (s[k]).toNat := by rw [bl_get s k h]; rfl

set_option maxHeartbeats 1000000 in
theorem next_q (b k : Nat) (s : ByteArray) (bad odd : Bool) (w : World) (_hs : s.size ≤ 2147483647) (hk : k ≤ s.size) (h : PS w b s k bad odd) :
    Calls Tryd.prog 41 #[.pointer (some ⟨b, 0, none⟩)] w fun e w' => e = .returned (.int .u8 (hdN ((bl s).drop k) : Nat)) ∧ ∃ n, w' = w.drewN n := by
  have c0 := h.c0
  have c1 := h.c1
  clear h
  by_cases hlt : k < s.size
  · have HV := hid (hdN_at hlt)
    have q1 : (((k : Nat) : Int) == (s.size : Int)) = false := by rw [beq_eq_false_iff_ne]; omega
    go_enter Tryd.func41, Tryd.ntmps41
    go_wp2
    go_quiet (fail)
    go_wp2
    go_quiet (fail)
    go_wp2
    go_ret
    exact ⟨by rw [HV.out]; rfl, _, by rw [World.drewN_drewN]⟩
  · have HV := hid (show hdN ((bl s).drop k) = 0 by rw [bl_end s k hlt]; rfl)
    have q1 : (((k : Nat) : Int) == (s.size : Int)) = true := by rw [beq_iff_eq]; omega
    go_enter Tryd.func41, Tryd.ntmps41
    go_wp2
    go_quiet (fail)
    go_wp2
    go_ret
    exact ⟨by rw [HV.out]; rfl, _, rfl⟩

theorem next_any (b k : Nat) (s : ByteArray) (bad odd : Bool) (w : World) (hs : s.size ≤ 2147483647) (hk : k ≤ s.size) (h : PS w b s k bad odd) :
    Calls Tryd.prog 41 #[.pointer (some ⟨b, 0, none⟩)] w fun e w' => e = .returned (.int .u8 (hdN ((bl s).drop k) : Nat)) ∧ PS w' b s k bad odd ∧ Gr w w' :=
  (next_q b k s bad odd w hs hk h).mono fun _ _ ⟨he, n, hw⟩ => by
    subst hw
    exact ⟨he, h.gr ((Gr.refl w).drewN n), (Gr.refl w).drewN n⟩

theorem skip_cons_yes {p : Nat → Bool} {s : ByteArray} {k : Nat} {R : Bs} (hlt : k < s.size) (hr : skip p ((bl s).drop k) = R) (hp : p (hdN ((bl s).drop k)) = true) : skip p ((bl s).drop (k + 1)) = R := by
  rw [hdN_at hlt] at hp
  exact skip_next p s k R hlt hr hp
theorem skip_cons_no {p : Nat → Bool} {s : ByteArray} {k : Nat} {R : Bs} (hr : skip p ((bl s).drop k) = R) (hp : p (hdN ((bl s).drop k)) = false) : (bl s).drop k = R := by
  by_cases hlt : k < s.size
  · rw [hdN_at hlt] at hp
    exact skip_stop p s k R hlt hr hp
  · exact skip_end p s k R hlt hr

/-- Behind blanks: where the parser stands. -/
def BlPost (b : Nat) (s : ByteArray) (k : Nat) (bad odd : Bool) (p : Nat → Bool) (tabs : Bool) (w w' : World) : Prop :=
  ∃ k', k ≤ k' ∧ k' ≤ s.size ∧ (bl s).drop k' = skip p ((bl s).drop k) ∧ PS w' b s k' bad (odd || (!tabs && hdN ((bl s).drop k') == 9)) ∧ Fr b w w'
theorem blPost_at {b k k' : Nat} {s : ByteArray} {bad odd x : Bool} {p : Nat → Bool} {tabs : Bool} {w w' : World} {R : Bs} (h1 : k ≤ k') (h2 : k' ≤ s.size) (h3 : (bl s).drop k' = R) (hr : skip p ((bl s).drop k) = R) (hx : x = (odd || (!tabs && hdN ((bl s).drop k') == 9))) (hp : PS w' b s k' bad x) (hf : Fr b w w') : BlPost b s k bad odd p tabs w w' :=
  ⟨k', h1, h2, h3.trans hr.symm, by rw [← hx]; exact hp, hf⟩

set_option maxHeartbeats 2000000 in
theorem blanks_no (b k : Nat) (s : ByteArray) (bad odd : Bool) (w : World) (hs : s.size ≤ 2147483647) (hk : k ≤ s.size) (h : PS w b s k bad odd) :
    Calls Tryd.prog 67 #[.pointer (some ⟨b, 0, none⟩), .bool false] w fun e w' => e = .returned (.tuple #[]) ∧ BlPost b s k bad odd spB false w w' := by
  obtain ⟨R, hR⟩ : ∃ R, skip spB ((bl s).drop k) = R := ⟨_, rfl⟩
  have HR := hid hR
  have HP := hid h
  clear hR h
  go_enter Tryd.func67, Tryd.ntmps67
  go_wp2_with fail
  go_loopg [] (s.size - k) (fun g wr => ∃ j : Nat, k ≤ j ∧ j ≤ s.size ∧ s.size - j ≤ g ∧ Hid (PS wr b s j bad odd) ∧ Hid (skip spB ((bl s).drop j) = R) ∧ Hid (Fr b w wr))
  case atStart => exact ⟨k, Nat.le_refl _, hk, Nat.le_refl _, HP, HR, hid (Fr.refl _ _)⟩
  case round =>
    clear HP
    obtain ⟨j, hkj, hjs, hjg, hps, hr, hf⟩ := hrel
    go_wp2_with fail
    refine (next_any b j s bad odd _ hs hjs hps.out).mono ?_
    rintro e w1 ⟨rfl, hp1, hg1⟩
    by_cases hb : hdN ((bl s).drop j) = 32
    · have hlt : j < s.size := drop_lt (by omega)
      have HN := hid (skip_cons_yes hlt hr.out (by rw [hb]; rfl))
      have c := hp1.c1
      have f := hp1.fz 1
      have HP1 := hid hp1
      have q : ((hdN ((bl s).drop j) : Int) == 32) = true := eqT hb
      have HF1 := hid (hf.out.trans (Fr.of_gr hg1))
      clear hp1 hg1 hb
      go_wp2_with fail
      go_roundg (s.size - (j + 1))
      case measure => omega
      case rel => exact ⟨j + 1, by omega, by omega, Nat.le_refl _, hid (HP1.out.at (j + 1) _ (by omega)), HN, hid (HF1.out.set 1 _)⟩
    · have q : ((hdN ((bl s).drop j) : Int) == 32) = false := eqF hb
      have HE := hid (skip_cons_no hr.out (show spB (hdN ((bl s).drop j)) = false by simpa [spB] using hb))
      have HP1 := hid hp1
      have c3 := hp1.c3
      have f3 := hp1.fz 3
      have HF1 := hid (hf.out.trans (Fr.of_gr hg1))
      clear hp1 hg1 hb
      cases odd
      · go_wp2_with fail
        refine (next_any b j s bad false _ hs hjs HP1.out).mono ?_
        rintro e w2 ⟨rfl, hp2, hg2⟩
        have HP2 := hid hp2
        have d3 := hp2.c3
        have g3 := hp2.fz 3
        have HF2 := hid (HF1.out.trans (Fr.of_gr hg2))
        clear hp2 hg2
        cases h9 : ((hdN ((bl s).drop j) : Int) == 9)
        · have H9 := hid (natF' (n := 9) h9)
          go_wp2_with fail
          go_end0
          exact ⟨rfl, blPost_at hkj hjs HE.out HR.out (x := false) (by rw [H9.out]; rfl) (HP2.out.odder false) (HF2.out.set 3 _)⟩
        · have H9 := hid (natT' (n := 9) h9)
          go_wp2_with fail
          go_end0
          exact ⟨rfl, blPost_at hkj hjs HE.out HR.out (x := true) (by rw [H9.out]; rfl) (HP2.out.odder true) (HF2.out.set 3 _)⟩
      · go_wp2_with fail
        go_end0
        exact ⟨rfl, blPost_at hkj hjs HE.out HR.out (x := true) rfl (HP1.out.odder true) (HF1.out.set 3 _)⟩

set_option maxHeartbeats 2000000 in
theorem blanks_yes (b k : Nat) (s : ByteArray) (bad odd : Bool) (w : World) (hs : s.size ≤ 2147483647) (hk : k ≤ s.size) (h : PS w b s k bad odd) :
    Calls Tryd.prog 67 #[.pointer (some ⟨b, 0, none⟩), .bool true] w fun e w' => e = .returned (.tuple #[]) ∧ BlPost b s k bad odd wsB true w w' := by
  obtain ⟨R, hR⟩ : ∃ R, skip wsB ((bl s).drop k) = R := ⟨_, rfl⟩
  have HR := hid hR
  have HP := hid h
  clear hR h
  go_enter Tryd.func67, Tryd.ntmps67
  go_wp2_with fail
  go_loopg [] (s.size - k) (fun g wr => ∃ j : Nat, k ≤ j ∧ j ≤ s.size ∧ s.size - j ≤ g ∧ Hid (PS wr b s j bad odd) ∧ Hid (skip wsB ((bl s).drop j) = R) ∧ Hid (Fr b w wr))
  case atStart => exact ⟨k, Nat.le_refl _, hk, Nat.le_refl _, HP, HR, hid (Fr.refl _ _)⟩
  case round =>
    clear HP
    obtain ⟨j, hkj, hjs, hjg, hps, hr, hf⟩ := hrel
    go_wp2_with fail
    refine (next_any b j s bad odd _ hs hjs hps.out).mono ?_
    rintro e w1 ⟨rfl, hp1, hg1⟩
    by_cases hb : hdN ((bl s).drop j) = 32
    · have hlt : j < s.size := drop_lt (by omega)
      have HN := hid (skip_cons_yes hlt hr.out (by rw [hb]; rfl))
      have c := hp1.c1
      have f := hp1.fz 1
      have HP1 := hid hp1
      have q : ((hdN ((bl s).drop j) : Int) == 32) = true := eqT hb
      have HF1 := hid (hf.out.trans (Fr.of_gr hg1))
      clear hp1 hg1 hb
      go_wp2_with fail
      go_roundg (s.size - (j + 1))
      case measure => omega
      case rel => exact ⟨j + 1, by omega, by omega, Nat.le_refl _, hid (HP1.out.at (j + 1) _ (by omega)), HN, hid (HF1.out.set 1 _)⟩
    · have q : ((hdN ((bl s).drop j) : Int) == 32) = false := eqF hb
      have HP1 := hid hp1
      have HF1 := hid (hf.out.trans (Fr.of_gr hg1))
      clear hp1 hg1
      go_wp2_with fail
      refine (next_any b j s bad odd _ hs hjs HP1.out).mono ?_
      rintro e w2 ⟨rfl, hp2, hg2⟩
      have c := hp2.c1
      have f := hp2.fz 1
      have c3 := hp2.c3
      have f3 := hp2.fz 3
      have HP2 := hid hp2
      have HF2 := hid (HF1.out.trans (Fr.of_gr hg2))
      clear hp2 hg2
      by_cases hb9 : hdN ((bl s).drop j) = 9
      · have hlt : j < s.size := drop_lt (by omega)
        have HN := hid (skip_cons_yes hlt hr.out (by rw [hb9]; rfl))
        have q9 : ((hdN ((bl s).drop j) : Int) == 9) = true := eqT hb9
        clear hb hb9
        go_wp2_with fail
        go_roundg (s.size - (j + 1))
        case measure => omega
        case rel => exact ⟨j + 1, by omega, by omega, Nat.le_refl _, hid (HP2.out.at (j + 1) _ (by omega)), HN, hid (HF2.out.set 1 _)⟩
      · have HE := hid (skip_cons_no hr.out (show wsB (hdN ((bl s).drop j)) = false by simp [wsB, hb, hb9]))
        have q9 : ((hdN ((bl s).drop j) : Int) == 9) = false := eqF hb9
        clear hb hb9
        cases odd
        all_goals
          go_wp2_with fail
          go_end0
        · exact ⟨rfl, blPost_at hkj hjs HE.out HR.out (x := false) rfl (HP2.out.odder false) (HF2.out.set 3 _)⟩
        · exact ⟨rfl, blPost_at hkj hjs HE.out HR.out (x := true) rfl (HP2.out.odder true) (HF2.out.set 3 _)⟩

/-- Behind a key: the text, and where the parser stands. -/
def KeyPost (b : Nat) (s : ByteArray) (k : Nat) (odd : Bool) (w : World) (e : Ending) (w' : World) : Prop :=
  Fr b w w' ∧ match key ((bl s).drop k) with
    | none => e = .returned (.string ⟨#[]⟩) ∧ PS w' b s k true odd
    | some r => ∃ (t : ByteArray) (k' : Nat), e = .returned (.string t) ∧ k ≤ k' ∧ k' ≤ s.size ∧ (bl s).drop k' = r ∧ bl t = ahead ((bl s).drop k) r ∧ PS w' b s k' false odd

theorem ahead_mid (s : ByteArray) (k k' : Nat) (r : Bs) (h1 : k ≤ k') (h2 : k' ≤ s.size) (h : (bl s).drop k' = r) : bl (s.extract k k') = ahead ((bl s).drop k) r := by
  rw [bl_extract, ahead, ← h, List.length_drop, List.length_drop, bl_length]
  congr 1
  omega

/-!
  The walks of the reference's key and item.
-/
theorem key_hd (l : Bs) : key l = if lowB (hdN l) || hdN l == 42 then some (skip keyB l) else none := by
  cases l with
  | nil => rfl
  | cons c r => rfl

theorem keyPost_at {b k j : Nat} {s : ByteArray} {odd : Bool} {w w' : World} (hk : key ((bl s).drop k) = some (skip keyB ((bl s).drop k))) (h1 : k ≤ j) (h2 : j ≤ s.size) (h3 : (bl s).drop j = skip keyB ((bl s).drop k)) (hp : PS w' b s j false odd) (hf : Fr b w w') :
    KeyPost b s k odd w (.returned (.string (s.extract k j))) w' :=
  ⟨hf, by rw [hk]; exact ⟨_, j, rfl, h1, h2, h3, ahead_mid s k j _ h1 h2 h3, hp⟩⟩

theorem eqNF {a n : Nat} (h : (a == n) = false) : ((a : Int) == (n : Int)) = false := eqF (by simpa using h)

set_option maxHeartbeats 4000000 in
theorem key_any (b k : Nat) (s : ByteArray) (odd : Bool) (w : World) (hs : s.size ≤ 2147483647) (hk : k ≤ s.size) (h : PS w b s k false odd) :
    Calls Tryd.prog 49 #[.pointer (some ⟨b, 0, none⟩)] w fun e w' => KeyPost b s k odd w e w' := by
  have HP := hid h
  have c1 := h.c1
  obtain ⟨rem, hrem⟩ : ∃ l, (bl s).drop k = l := ⟨_, rfl⟩
  have HREM := hid hrem
  have HK := hid (key_hd ((bl s).drop k))
  clear h hrem
  cases hl : lowB (hdN ((bl s).drop k))
  · by_cases h42 : hdN ((bl s).drop k) = 42
    · have q42 : ((hdN ((bl s).drop k) : Int) != 42) = false := neF h42
      have hkey : key ((bl s).drop k) = some (skip keyB ((bl s).drop k)) := by rw [HK.out, hl, h42]; rfl
      have HKEY := hid hkey
      clear hkey h42
      go_enter Tryd.func49, Tryd.ntmps49
      go_wp2_with fail
      refine (next_any b k s false odd _ hs hk HP.out).mono ?_
      rintro e w1 ⟨rfl, hp1, hg1⟩
      have HP1 := hid hp1
      have HG1 := hid hg1
      clear hp1 hg1
      go_wp2_with fail
      refine (lower_any _ _).mono ?_
      rintro e w2 ⟨rfl, rfl⟩
      go_wp2_with fail
      refine (next_any b k s false odd _ hs hk HP1.out).mono ?_
      rintro e w2 ⟨rfl, hp2, hg2⟩
      have HP2 := hid hp2
      have HF := hid (Fr.of_gr (b := b) (HG1.out.trans hg2))
      clear hp2 hg2
      go_wp2_with fail
      clear hl q42
      go_loopg [] (s.size - k) (fun g wr => ∃ j : Nat, k ≤ j ∧ j ≤ s.size ∧ s.size - j ≤ g ∧ Hid (PS wr b s j false odd) ∧ Hid (skip keyB ((bl s).drop j) = skip keyB ((bl s).drop k)) ∧ Hid (Fr b w wr))
      case atStart => exact ⟨k, Nat.le_refl _, hk, Nat.le_refl _, HP2, hid rfl, HF⟩
      case round =>
        clear HP2 HF HP c1 HREM HK
        obtain ⟨j, hkj, hjs, hjg, hps, hr, hf⟩ := hrel
        have d0 := hps.out.c0
        have d1 := hps.out.c1
        have g1 := hps.out.fz 1
        have HPX := hid (fun n => hps.out.gr ((Gr.refl wr).drewN n))
        have i1 : (k : Int) ≤ (j : Int) := by omega
        have i2 : (j : Int) ≤ (s.size : Int) := by omega
        have i3 : (0 : Int) ≤ (k : Int) := by omega
        have hcase : (keyB (hdN ((bl s).drop j)) = true ∧ j < s.size) ∨ (keyB (hdN ((bl s).drop j)) = false ∧ j < s.size) ∨ (hdN ((bl s).drop j) = 0 ∧ ¬ j < s.size) := by
          by_cases hlt : j < s.size
          · cases hkb : keyB (hdN ((bl s).drop j))
            · exact .inr (.inl ⟨rfl, hlt⟩)
            · exact .inl ⟨rfl, hlt⟩
          · exact .inr (.inr ⟨by rw [bl_end s j hlt]; rfl, hlt⟩)
        rcases hcase with ⟨hkb, hlt⟩ | ⟨hkb, hlt⟩ | ⟨hz, hlt⟩
        · have HN := hid (skip_cons_yes hlt hr.out hkb)
          have q : ((j : Int) < (s.size : Int)) := by omega
          cases l1 : lowB (hdN ((bl s).drop j)) <;> cases l2 : digB (hdN ((bl s).drop j)) <;> cases l3 : amongB (hdN ((bl s).drop j)) keyMarks
          · simp [keyB, l1, l2, l3] at hkb
          all_goals
            clear hkb
            go_wp2_with fail
            go_quiet ((first | (go_at_call 41; exact Calls.quiet_of (next_q b j s false odd _ hs hjs (HPX.out _))) | (go_at_call 73; exact Calls.quiet_of_same ((lower_any _ _).mono fun _ _ ⟨a, b⟩ => ⟨by rw [a, l1], b.symm⟩)) | (go_at_call 54; exact Calls.quiet_of_same ((digit_any _ _).mono fun _ _ ⟨a, b⟩ => ⟨by rw [a, l2], b.symm⟩)) | (go_at_call 31; exact Calls.quiet_of_same ((among_l _ _ keyMarks _ (by decide) rfl).mono fun _ _ ⟨a, b⟩ => ⟨by rw [a, l3], b.symm⟩))))
            rename_i nq
            go_wp2_with fail
            go_roundg (s.size - (j + 1))
            case measure => omega
            case rel => exact ⟨j + 1, by omega, by omega, Nat.le_refl _, hid (((HPX.out nq).at (j + 1) _ (by omega)).gr (Gr.refl _)), HN, hid ((hf.out.trans (Fr.of_gr ((Gr.refl wr).drewN nq))).set 1 _)⟩
        · have HE := hid (skip_cons_no hr.out hkb)
          have q : ((j : Int) < (s.size : Int)) := by omega
          cases l1 : lowB (hdN ((bl s).drop j)) <;> cases l2 : digB (hdN ((bl s).drop j)) <;> cases l3 : amongB (hdN ((bl s).drop j)) keyMarks
          case false.false.false =>
            clear hkb
            go_wp2_with fail
            go_quiet ((first | (go_at_call 41; exact Calls.quiet_of (next_q b j s false odd _ hs hjs (HPX.out _))) | (go_at_call 73; exact Calls.quiet_of_same ((lower_any _ _).mono fun _ _ ⟨a, b⟩ => ⟨by rw [a, l1], b.symm⟩)) | (go_at_call 54; exact Calls.quiet_of_same ((digit_any _ _).mono fun _ _ ⟨a, b⟩ => ⟨by rw [a, l2], b.symm⟩)) | (go_at_call 31; exact Calls.quiet_of_same ((among_l _ _ keyMarks _ (by decide) rfl).mono fun _ _ ⟨a, b⟩ => ⟨by rw [a, l3], b.symm⟩))))
            go_wp2_with fail
            go_quiet (fail)
            go_wp2_with fail
            go_ret
            first | exact keyPost_at HKEY.out hkj hjs HE.out (hps.out.gr ((Gr.refl wr).drewN _)) (hf.out.trans (Fr.of_gr ((Gr.refl wr).drewN _))) | exact keyPost_at HKEY.out hkj hjs HE.out (hps.out.gr (((Gr.refl wr).drewN _).drewN _)) (hf.out.trans (Fr.of_gr (((Gr.refl wr).drewN _).drewN _)))
          all_goals simp [keyB, l1, l2, l3] at hkb
        · have HE := hid (skip_cons_no hr.out (show keyB (hdN ((bl s).drop j)) = false by rw [hz]; rfl))
          have l1 : lowB (hdN ((bl s).drop j)) = false := by rw [hz]; rfl
          have l2 : digB (hdN ((bl s).drop j)) = false := by rw [hz]; rfl
          have q : (s.size : Int) ≤ (j : Int) := by omega
          have q' : ((j : Int) < (s.size : Int)) = False := by simp; omega
          clear hz
          go_wp2_with fail
          go_quiet ((first | (go_at_call 41; exact Calls.quiet_of (next_q b j s false odd _ hs hjs (HPX.out _))) | (go_at_call 73; exact Calls.quiet_of_same ((lower_any _ _).mono fun _ _ ⟨a, b⟩ => ⟨by rw [a, l1], b.symm⟩)) | (go_at_call 54; exact Calls.quiet_of_same ((digit_any _ _).mono fun _ _ ⟨a, b⟩ => ⟨by rw [a, l2], b.symm⟩)) | (go_at_call 31; exact Calls.quiet_of_same ((among_l _ _ keyMarks _ (by decide) rfl).mono fun _ _ ⟨a, b⟩ => ⟨by rw [a, l3], b.symm⟩))))
          go_wp2_with fail
          go_quiet (fail)
          go_wp2_with fail
          go_ret
          first | exact keyPost_at HKEY.out hkj hjs HE.out (hps.out.gr ((Gr.refl wr).drewN _)) (hf.out.trans (Fr.of_gr ((Gr.refl wr).drewN _))) | exact keyPost_at HKEY.out hkj hjs HE.out (hps.out.gr (((Gr.refl wr).drewN _).drewN _)) (hf.out.trans (Fr.of_gr (((Gr.refl wr).drewN _).drewN _)))
    · have q42 : ((hdN ((bl s).drop k) : Int) != 42) = true := neT h42
      have hkey : key ((bl s).drop k) = none := by
        rw [HK.out, hl]
        have : (hdN ((bl s).drop k) == 42) = false := by simpa using h42
        rw [this]; rfl
      have HKEY := hid hkey
      clear hkey h42
      go_enter Tryd.func49, Tryd.ntmps49
      go_wp2_with fail
      refine (next_any b k s false odd _ hs hk HP.out).mono ?_
      rintro e w1 ⟨rfl, hp1, hg1⟩
      have HP1 := hid hp1
      have HG1 := hid hg1
      clear hp1 hg1
      go_wp2_with fail
      refine (lower_any _ _).mono ?_
      rintro e w2 ⟨rfl, rfl⟩
      go_wp2_with fail
      refine (next_any b k s false odd _ hs hk HP1.out).mono ?_
      rintro e w2 ⟨rfl, hp2, hg2⟩
      have HP2 := hid hp2
      have d2 := hp2.c2
      have f2 := hp2.fz 2
      have HF := hid (Fr.of_gr (b := b) (HG1.out.trans hg2))
      clear hp2 hg2
      go_wp2_with fail
      go_ret
      exact ⟨HF.out.set 2 _, by rw [HKEY.out]; exact ⟨rfl, HP2.out.worse true⟩⟩
  · have hkey : key ((bl s).drop k) = some (skip keyB ((bl s).drop k)) := by rw [HK.out, hl]; rfl
    have HKEY := hid hkey
    clear hkey
    go_enter Tryd.func49, Tryd.ntmps49
    go_wp2_with fail
    refine (next_any b k s false odd _ hs hk HP.out).mono ?_
    rintro e w1 ⟨rfl, hp1, hg1⟩
    have HP2 := hid hp1
    have HF := hid (Fr.of_gr (b := b) hg1)
    clear hp1 hg1
    go_wp2_with fail
    refine (lower_any _ _).mono ?_
    rintro e w2 ⟨rfl, rfl⟩
    go_wp2_with fail
    clear hl
    go_loopg [] (s.size - k) (fun g wr => ∃ j : Nat, k ≤ j ∧ j ≤ s.size ∧ s.size - j ≤ g ∧ Hid (PS wr b s j false odd) ∧ Hid (skip keyB ((bl s).drop j) = skip keyB ((bl s).drop k)) ∧ Hid (Fr b w wr))
    case atStart => exact ⟨k, Nat.le_refl _, hk, Nat.le_refl _, HP2, hid rfl, HF⟩
    case round =>
      clear HP2 HF HP c1 HREM HK
      obtain ⟨j, hkj, hjs, hjg, hps, hr, hf⟩ := hrel
      have d0 := hps.out.c0
      have d1 := hps.out.c1
      have g1 := hps.out.fz 1
      have HPX := hid (fun n => hps.out.gr ((Gr.refl wr).drewN n))
      have i1 : (k : Int) ≤ (j : Int) := by omega
      have i2 : (j : Int) ≤ (s.size : Int) := by omega
      have i3 : (0 : Int) ≤ (k : Int) := by omega
      have hcase : (keyB (hdN ((bl s).drop j)) = true ∧ j < s.size) ∨ (keyB (hdN ((bl s).drop j)) = false ∧ j < s.size) ∨ (hdN ((bl s).drop j) = 0 ∧ ¬ j < s.size) := by
        by_cases hlt : j < s.size
        · cases hkb : keyB (hdN ((bl s).drop j))
          · exact .inr (.inl ⟨rfl, hlt⟩)
          · exact .inl ⟨rfl, hlt⟩
        · exact .inr (.inr ⟨by rw [bl_end s j hlt]; rfl, hlt⟩)
      rcases hcase with ⟨hkb, hlt⟩ | ⟨hkb, hlt⟩ | ⟨hz, hlt⟩
      · have HN := hid (skip_cons_yes hlt hr.out hkb)
        have q : ((j : Int) < (s.size : Int)) := by omega
        cases l1 : lowB (hdN ((bl s).drop j)) <;> cases l2 : digB (hdN ((bl s).drop j)) <;> cases l3 : amongB (hdN ((bl s).drop j)) keyMarks
        · simp [keyB, l1, l2, l3] at hkb
        all_goals
          clear hkb
          go_wp2_with fail
          go_quiet ((first | (go_at_call 41; exact Calls.quiet_of (next_q b j s false odd _ hs hjs (HPX.out _))) | (go_at_call 73; exact Calls.quiet_of_same ((lower_any _ _).mono fun _ _ ⟨a, b⟩ => ⟨by rw [a, l1], b.symm⟩)) | (go_at_call 54; exact Calls.quiet_of_same ((digit_any _ _).mono fun _ _ ⟨a, b⟩ => ⟨by rw [a, l2], b.symm⟩)) | (go_at_call 31; exact Calls.quiet_of_same ((among_l _ _ keyMarks _ (by decide) rfl).mono fun _ _ ⟨a, b⟩ => ⟨by rw [a, l3], b.symm⟩))))
          rename_i nq
          go_wp2_with fail
          go_roundg (s.size - (j + 1))
          case measure => omega
          case rel => exact ⟨j + 1, by omega, by omega, Nat.le_refl _, hid (((HPX.out nq).at (j + 1) _ (by omega)).gr (Gr.refl _)), HN, hid ((hf.out.trans (Fr.of_gr ((Gr.refl wr).drewN nq))).set 1 _)⟩
      · have HE := hid (skip_cons_no hr.out hkb)
        have q : ((j : Int) < (s.size : Int)) := by omega
        cases l1 : lowB (hdN ((bl s).drop j)) <;> cases l2 : digB (hdN ((bl s).drop j)) <;> cases l3 : amongB (hdN ((bl s).drop j)) keyMarks
        case false.false.false =>
          clear hkb
          go_wp2_with fail
          go_quiet ((first | (go_at_call 41; exact Calls.quiet_of (next_q b j s false odd _ hs hjs (HPX.out _))) | (go_at_call 73; exact Calls.quiet_of_same ((lower_any _ _).mono fun _ _ ⟨a, b⟩ => ⟨by rw [a, l1], b.symm⟩)) | (go_at_call 54; exact Calls.quiet_of_same ((digit_any _ _).mono fun _ _ ⟨a, b⟩ => ⟨by rw [a, l2], b.symm⟩)) | (go_at_call 31; exact Calls.quiet_of_same ((among_l _ _ keyMarks _ (by decide) rfl).mono fun _ _ ⟨a, b⟩ => ⟨by rw [a, l3], b.symm⟩))))
          go_wp2_with fail
          go_quiet (fail)
          go_wp2_with fail
          go_ret
          first | exact keyPost_at HKEY.out hkj hjs HE.out (hps.out.gr ((Gr.refl wr).drewN _)) (hf.out.trans (Fr.of_gr ((Gr.refl wr).drewN _))) | exact keyPost_at HKEY.out hkj hjs HE.out (hps.out.gr (((Gr.refl wr).drewN _).drewN _)) (hf.out.trans (Fr.of_gr (((Gr.refl wr).drewN _).drewN _)))
        all_goals simp [keyB, l1, l2, l3] at hkb
      · have HE := hid (skip_cons_no hr.out (show keyB (hdN ((bl s).drop j)) = false by rw [hz]; rfl))
        have l1 : lowB (hdN ((bl s).drop j)) = false := by rw [hz]; rfl
        have l2 : digB (hdN ((bl s).drop j)) = false := by rw [hz]; rfl
        have q : (s.size : Int) ≤ (j : Int) := by omega
        have q' : ((j : Int) < (s.size : Int)) = False := by simp; omega
        clear hz
        go_wp2_with fail
        go_quiet ((first | (go_at_call 41; exact Calls.quiet_of (next_q b j s false odd _ hs hjs (HPX.out _))) | (go_at_call 73; exact Calls.quiet_of_same ((lower_any _ _).mono fun _ _ ⟨a, b⟩ => ⟨by rw [a, l1], b.symm⟩)) | (go_at_call 54; exact Calls.quiet_of_same ((digit_any _ _).mono fun _ _ ⟨a, b⟩ => ⟨by rw [a, l2], b.symm⟩)) | (go_at_call 31; exact Calls.quiet_of_same ((among_l _ _ keyMarks _ (by decide) rfl).mono fun _ _ ⟨a, b⟩ => ⟨by rw [a, l3], b.symm⟩))))
        go_wp2_with fail
        go_quiet (fail)
        go_wp2_with fail
        go_ret
        first | exact keyPost_at HKEY.out hkj hjs HE.out (hps.out.gr ((Gr.refl wr).drewN _)) (hf.out.trans (Fr.of_gr ((Gr.refl wr).drewN _))) | exact keyPost_at HKEY.out hkj hjs HE.out (hps.out.gr (((Gr.refl wr).drewN _).drewN _)) (hf.out.trans (Fr.of_gr (((Gr.refl wr).drewN _).drewN _)))

/-!
  The walk of the reference's item.
-/
/-- Behind an item: the text, and where the parser stands. -/
def ItPost (b : Nat) (s : ByteArray) (k : Nat) (odd : Bool) (w : World) (e : Ending) (w' : World) : Prop :=
  Fr b w w' ∧ ((bare ((bl s).drop k) = none ∧ e = .returned (.string ⟨#[]⟩) ∧ PS w' b s k true odd) ∨
    ∃ (t : ByteArray) (k' : Nat) (odd' : Bool), e = .returned (.string t) ∧ k ≤ k' ∧ k' ≤ s.size ∧ PS w' b s k' false odd' ∧
      (odd' = false → odd = false ∧ ∃ r, bare ((bl s).drop k) = some r ∧ (bl s).drop k' = r ∧ bl t = ahead ((bl s).drop k) r))

/-- What is known of a new bare item's block behind a call. -/
theorem bare_blk {w W w1 : World} (hg : Gr W w1) (h : W.heap[w.heap.size]? = some (.cells #[.int .i64 0, .string ⟨#[]⟩, .string ⟨#[]⟩, .bool false] 23 (0, 0))) :
    Hid (w1.heap[w.heap.size]? = some (.cells #[.int .i64 0, .string ⟨#[]⟩, .string ⟨#[]⟩, .bool false] 23 (0, 0))) ∧
    w1.cell? ⟨w.heap.size, 0, none⟩ = some (.int .i64 0) ∧ w1.cell? ⟨w.heap.size, 1, none⟩ = some (.string ⟨#[]⟩) ∧ w1.cell? ⟨w.heap.size, 2, none⟩ = some (.string ⟨#[]⟩) ∧ w1.cell? ⟨w.heap.size, 3, none⟩ = some (.bool false) ∧
    w1.frozen? ⟨w.heap.size, 0, none⟩ = false ∧ w1.frozen? ⟨w.heap.size, 1, none⟩ = false ∧ w1.frozen? ⟨w.heap.size, 2, none⟩ = false ∧ w1.frozen? ⟨w.heap.size, 3, none⟩ = false := by
  have hz : w1.heap[w.heap.size]? = some (.cells #[.int .i64 0, .string ⟨#[]⟩, .string ⟨#[]⟩, .bool false] 23 (0, 0)) := by
    rw [Below.block hg _ (lt_of_block h)]
    exact h
  refine ⟨hz, ?_, ?_, ?_, ?_, Lib.frozen_of_heap hz 0, Lib.frozen_of_heap hz 1, Lib.frozen_of_heap hz 2, Lib.frozen_of_heap hz 3⟩
  all_goals
    rw [Lib.cell_of_heap hz]
    rfl

theorem bare_blk2 {w W w1 : World} (hg : Gr W w1) {G : Prop} (h : W.heap[w.heap.size]? = some (.cells #[.int .i64 0, .string ⟨#[]⟩, .string ⟨#[]⟩, .bool false] 23 (0, 0))) (K : (Hid (w1.heap[w.heap.size]? = some (.cells #[.int .i64 0, .string ⟨#[]⟩, .string ⟨#[]⟩, .bool false] 23 (0, 0))) ∧
    w1.cell? ⟨w.heap.size, 0, none⟩ = some (.int .i64 0) ∧ w1.cell? ⟨w.heap.size, 1, none⟩ = some (.string ⟨#[]⟩) ∧ w1.cell? ⟨w.heap.size, 2, none⟩ = some (.string ⟨#[]⟩) ∧ w1.cell? ⟨w.heap.size, 3, none⟩ = some (.bool false) ∧
    w1.frozen? ⟨w.heap.size, 0, none⟩ = false ∧ w1.frozen? ⟨w.heap.size, 1, none⟩ = false ∧ w1.frozen? ⟨w.heap.size, 2, none⟩ = false ∧ w1.frozen? ⟨w.heap.size, 3, none⟩ = false) → G) : G := K (bare_blk hg h)

theorem Item_plain (s : ByteArray) (w : World) (hs : s.size ≤ 2147483647) :
    Calls Tryd.prog 30 #[.string s] w fun e w' => (∃ (kind : Int) (t v : ByteArray) (odd ok : Bool), e = .returned (.tuple #[.agg #[.int .i64 kind, .string t, .string v, .bool odd], .bool ok]) ∧ Hid (ItemRel (bl s) kind (bl t) (bl v) odd ok)) ∧ Gr w w' :=
  (Item_any s w hs).mono fun _ _ ⟨⟨kind, t, v, odd, ok, he, hr⟩, hg⟩ => ⟨⟨kind, t, v, odd, ok, he, hid hr⟩, hg⟩

theorem itPost_bad {b k : Nat} {s : ByteArray} {odd : Bool} {w w' : World} (hf : Fr b w w') (hb : bare ((bl s).drop k) = none) (hp : PS w' b s k true odd) : ItPost b s k odd w (.returned (.string ⟨#[]⟩)) w' := ⟨hf, .inl ⟨hb, rfl, hp⟩⟩
theorem itPost_ok {b k : Nat} {s t v : ByteArray} {kind : Int} {odd odd' o2 : Bool} {w w' : World} (hk : k ≤ s.size) (hf : Fr b w w') (hr : ItemRel (bl (s.extract k s.size)) kind (bl t) (bl v) odd' true) (ho : o2 = (odd || odd')) (hp : PS w' b s (k + t.size) false o2) : ItPost b s k odd w (.returned (.string t)) w' := by
  rw [bl_from] at hr
  have hl : ((bl s).drop k).length = s.size - k := by rw [List.length_drop, bl_length]
  rcases rel_bare hr with ⟨h, _⟩ | ⟨_, ht, h⟩
  · cases h
  · rw [bl_length, hl] at ht
    refine ⟨hf, .inr ⟨t, k + t.size, o2, rfl, by omega, by omega, hp, fun h0 => ?_⟩⟩
    subst ho
    simp only [Bool.or_eq_false_iff] at h0
    rcases h with h | ⟨_, r, hb, hta, hrl⟩
    · rw [h] at h0; exact absurd h0.2 (by simp)
    · refine ⟨h0.1, r, hb, ?_, hta⟩
      have hs := suf_drop (bare_suf hb)
      have : t.size = ((bl s).drop k).length - r.length := by rw [← bl_length, hta, ahead, List.length_take]; omega
      rw [List.drop_drop, ← this] at hs
      exact hs

theorem itRel_len {s t v : ByteArray} {k : Nat} {kind : Int} {odd : Bool} (h : ItemRel (bl (s.extract k s.size)) kind (bl t) (bl v) odd true) : t.size ≤ s.size := by
  rw [bl_from] at h
  rcases rel_bare h with ⟨h, _⟩ | ⟨_, h, _⟩
  · cases h
  · rw [bl_length, List.length_drop, bl_length] at h
    omega
theorem PS.other {w : World} {b B k : Nat} {s : ByteArray} {bad odd : Bool} (h : PS w b s k bad odd) (hB : B ≠ b) (j : Nat) (u : Value) : PS (w.setCell ⟨B, j, none⟩ u) b s k bad odd := by
  unfold PS
  rw [heap_setCell_other _ _ _ _ (by simpa using hB.symm)]
  exact h
theorem itRel_no {s t v : ByteArray} {k : Nat} {kind : Int} {odd : Bool} (h : ItemRel (bl (s.extract k s.size)) kind (bl t) (bl v) odd false) : bare ((bl s).drop k) = none := by
  rw [bl_from] at h
  rcases rel_bare h with ⟨_, h⟩ | ⟨h, _⟩
  · exact h
  · cases h

set_option maxHeartbeats 4000000 in
theorem item_any (b k : Nat) (s : ByteArray) (odd : Bool) (w : World) (hs : s.size ≤ 2147483647) (hk : k ≤ s.size) (h : PS w b s k false odd) :
    Calls Tryd.prog 38 #[.pointer (some ⟨b, 0, none⟩)] w fun e w' => ItPost b s k odd w e w' := by
  have HP := hid h
  have c0 := h.c0
  have c1 := h.c1
  have i1 : (k : Int) ≤ (s.size : Int) := by omega
  have i2 : (0 : Int) ≤ (k : Int) := by omega
  have en := World.new_ne w ⟨b, 0, none⟩ c0
  have hsz : (s.extract k s.size).size ≤ 2147483647 := by rw [ByteArray.size_extract]; omega
  clear h
  go_enter Tryd.func38, Tryd.ntmps38
  go_wp2_with fail
  go_region_held3 (fun w' => w'.cell? ⟨b, 0, none⟩ = some (.string s) ∧ w'.cell? ⟨b, 1, none⟩ = some (.int .i64 (k : Nat))) (go_keep)
    (first | (go_at_call 30; refine (Item_plain (s.extract k s.size) _ hsz).mono ?_; rintro e w1 ⟨⟨kind, t, v, odd', ok, rfl, hrel⟩, hg⟩; have k0 : w1.cell? ⟨b, 0, none⟩ = some (.string s) := hg.cell (by simp [*]); have k1 : w1.cell? ⟨b, 1, none⟩ = some (.int .i64 (k : Nat)) := hg.cell (by simp [*]); first | (refine bare_blk2 (w := w) hg ?_ ?_; exact heap_alloc_new w _; rintro ⟨HZ, z0, z1, z2, z3, y0, y1, y2, y3⟩) | skip))
  · have hgw : Gr w w1 := Gr.trans (Gr.refl w).drew hg
    have hHW : PS (w1.alloc (.cells #[.int .i64 kind, .string t, .string v, .bool odd'] 23)) b s k false odd := HP.out.gr (hgw.alloc _)
    have hFR : Fr b w (w1.alloc (.cells #[.int .i64 kind, .string t, .string v, .bool odd'] 23)) := Fr.of_gr (hgw.alloc _)
    have b1 : (w1.alloc (.cells #[.int .i64 kind, .string t, .string v, .bool odd'] 23)).cell? ⟨w1.heap.size, 1, none⟩ = some (.string t) := by rw [Lib.cell_of_heap (heap_alloc_new w1 _)]; rfl
    have b3 : (w1.alloc (.cells #[.int .i64 kind, .string t, .string v, .bool odd'] 23)).cell? ⟨w1.heap.size, 3, none⟩ = some (.bool odd') := by rw [Lib.cell_of_heap (heap_alloc_new w1 _)]; rfl
    have en1 : w1.heap.size ≠ b := by
      have := Nat.lt_of_lt_of_le (lt_of_block HP.out) hgw.size
      omega
    clear k0 k1 hg hgw
    generalize w1.alloc (.cells #[.int .i64 kind, .string t, .string v, .bool odd'] 23) = W at *
    generalize w1.heap.size = B2 at *
    have HW := hid hHW
    have HFR := hid hFR
    clear hHW hFR
    have d0 := HW.out.c0
    have d1 := HW.out.c1
    have d2 := HW.out.c2
    have d3 := HW.out.c3
    have f1 := HW.out.fz 1
    have f2 := HW.out.fz 2
    have f3 := HW.out.fz 3
    cases ok
    · have HBN := hid (itRel_no hrel.out)
      go_wp2_with fail
      go_ret
      exact itPost_bad (HFR.out.set 2 _) HBN.out (HW.out.worse true)
    · have hx0 : (k : Int) + (t.size : Int) ≤ 4294967294 := by
        have h1 := itRel_len hrel.out
        omega
      have hx1 : (0 : Int) ≤ (t.size : Int) := by omega
      cases odd
      · go_wp2_with fail
        go_region
        all_goals
          go_wp2_with fail
          go_ret
          exact itPost_ok hk (Fr.trans ((HFR.out.set 3 _).set 1 _) (Fr.of_gr (Gr.refl _).drew)) hrel.out (o2 := odd') rfl (((HW.out.odder odd').at (k + t.size) ((k : Int) + (t.size : Int)) (by omega)).gr (Gr.refl _).drew)
      · go_wp2_with fail
        go_region
        all_goals
          go_wp2_with fail
          go_ret
          exact itPost_ok hk (Fr.trans ((HFR.out.set 3 _).set 1 _) (Fr.of_gr (Gr.refl _).drew)) hrel.out (o2 := true) rfl (((HW.out.odder true).at (k + t.size) ((k : Int) + (t.size : Int)) (by omega)).gr (Gr.refl _).drew)
  · have hgw : Gr w w1 := Gr.trans ((Gr.refl w).alloc _).drew hg
    have hHW : PS ((((w1.setCell ⟨w.heap.size, 0, none⟩ (.int .i64 kind)).setCell ⟨w.heap.size, 1, none⟩ (.string t)).setCell ⟨w.heap.size, 2, none⟩ (.string v)).setCell ⟨w.heap.size, 3, none⟩ (.bool odd')) b s k false odd := ((((HP.out.gr hgw).other (B := w.heap.size) en 0 (.int .i64 kind)).other (B := w.heap.size) en 1 (.string t)).other (B := w.heap.size) en 2 (.string v)).other (B := w.heap.size) en 3 (.bool odd')
    have hFR : Fr b w ((((w1.setCell ⟨w.heap.size, 0, none⟩ (.int .i64 kind)).setCell ⟨w.heap.size, 1, none⟩ (.string t)).setCell ⟨w.heap.size, 2, none⟩ (.string v)).setCell ⟨w.heap.size, 3, none⟩ (.bool odd')) := Fr.of_gr (b := b) ((((hgw.setCell (p := ⟨w.heap.size, 0, none⟩) (Nat.le_refl _) (.int .i64 kind)).setCell (p := ⟨w.heap.size, 1, none⟩) (Nat.le_refl _) (.string t)).setCell (p := ⟨w.heap.size, 2, none⟩) (Nat.le_refl _) (.string v)).setCell (p := ⟨w.heap.size, 3, none⟩) (Nat.le_refl _) (.bool odd'))
    have hz1 := heap_setCell_same w1 w.heap.size 0 _ _ (.int .i64 kind) HZ.out
    have hz2 := heap_setCell_same _ w.heap.size 1 _ _ (.string t) hz1
    have hz3 := heap_setCell_same _ w.heap.size 2 _ _ (.string v) hz2
    have hz4 := heap_setCell_same _ w.heap.size 3 _ _ (.bool odd') hz3
    have b1 : ((((w1.setCell ⟨w.heap.size, 0, none⟩ (.int .i64 kind)).setCell ⟨w.heap.size, 1, none⟩ (.string t)).setCell ⟨w.heap.size, 2, none⟩ (.string v)).setCell ⟨w.heap.size, 3, none⟩ (.bool odd')).cell? ⟨w.heap.size, 1, none⟩ = some (.string t) := by rw [Lib.cell_of_heap hz4]; rfl
    have b3 : ((((w1.setCell ⟨w.heap.size, 0, none⟩ (.int .i64 kind)).setCell ⟨w.heap.size, 1, none⟩ (.string t)).setCell ⟨w.heap.size, 2, none⟩ (.string v)).setCell ⟨w.heap.size, 3, none⟩ (.bool odd')).cell? ⟨w.heap.size, 3, none⟩ = some (.bool odd') := by rw [Lib.cell_of_heap hz4]; rfl
    have en1 : w.heap.size ≠ b := en
    clear k0 k1 hg hgw HZ z0 z1 z2 z3 y0 y1 y2 y3 hz1 hz2 hz3 hz4
    generalize ((((w1.setCell ⟨w.heap.size, 0, none⟩ (.int .i64 kind)).setCell ⟨w.heap.size, 1, none⟩ (.string t)).setCell ⟨w.heap.size, 2, none⟩ (.string v)).setCell ⟨w.heap.size, 3, none⟩ (.bool odd')) = W at *
    generalize w.heap.size = B2 at *
    have HW := hid hHW
    have HFR := hid hFR
    clear hHW hFR
    have d0 := HW.out.c0
    have d1 := HW.out.c1
    have d2 := HW.out.c2
    have d3 := HW.out.c3
    have f1 := HW.out.fz 1
    have f2 := HW.out.fz 2
    have f3 := HW.out.fz 3
    cases ok
    · have HBN := hid (itRel_no hrel.out)
      go_wp2_with fail
      go_ret
      exact itPost_bad (HFR.out.set 2 _) HBN.out (HW.out.worse true)
    · have hx0 : (k : Int) + (t.size : Int) ≤ 4294967294 := by
        have h1 := itRel_len hrel.out
        omega
      have hx1 : (0 : Int) ≤ (t.size : Int) := by omega
      cases odd
      · go_wp2_with fail
        go_region
        all_goals
          go_wp2_with fail
          go_ret
          exact itPost_ok hk (Fr.trans ((HFR.out.set 3 _).set 1 _) (Fr.of_gr (Gr.refl _).drew)) hrel.out (o2 := odd') rfl (((HW.out.odder odd').at (k + t.size) ((k : Int) + (t.size : Int)) (by omega)).gr (Gr.refl _).drew)
      · go_wp2_with fail
        go_region
        all_goals
          go_wp2_with fail
          go_ret
          exact itPost_ok hk (Fr.trans ((HFR.out.set 3 _).set 1 _) (Fr.of_gr (Gr.refl _).drew)) hrel.out (o2 := true) rfl (((HW.out.odder true).at (k + t.size) ((k : Int) + (t.size : Int)) (by omega)).gr (Gr.refl _).drew)

end Go.Proofs.YtohjnegllfdemaaDoor
