/-
  The walk of consumeDisplayString's closure: one byte, with the pending piece of a character.
-/
import Derived.Test.YtohjnegllfdemaaDoorGram
import Derived.Test.YtohjnegllfdemaaDoorHex
import Derived.Laws.CopyOwn
import Derived.RegionTactic
set_option maxRecDepth 100000
namespace Go.Proofs.YtohjnegllfdemaaDoor
open Go.RowKit

theorem full_of : ∀ q : Bs, 1 ≤ q.length → fullV q.length (Lib.firstT (q.getD 0 0).toNat) (q.getD 1 0).toNat (q.getD 2 0).toNat = fullL q
  | [], h => by simp at h
  | [a], _ => rfl
  | [a, b], _ => rfl
  | a :: b :: c :: r, _ => rfl

theorem dec_of : ∀ q : Bs, 1 ≤ q.length → q.length ≤ 4 → Lib.decodeGo ⟨q.toArray⟩ = decL q := by
  intro q h1 h4
  have hs : ({ data := q.toArray } : ByteArray).size = q.length := by rw [← bl_length, bl_mk]
  unfold Lib.decodeGo
  rw [if_neg (by omega), Lib.decode_at, hs]
  match q, h1, h4 with
  | [a], _, _ => rfl
  | [a, b], _, _ => rfl
  | [a, b, c], _, _ => rfl
  | [a, b, c, d], _, _ => rfl

theorem fullRune_n (A : Nat) (q : Bs) (n cap : Nat) (w : World) (hT : Lib.Utf8Tabs 0 1 w) (hn : n = q.length) (h1 : 1 ≤ n) (h4 : n ≤ 4) (hc : Cells8 w A q) (b : Bool) (hb : fullL q = b) :
    Calls Tryd.prog 85 #[.slice (some ⟨A, 0, none⟩) n cap] w fun e w' => e = .returned (.bool b) ∧ Gr w w' := by
  subst hn hb
  rw [← full_of q h1]
  have hg : ∀ j, j < q.length → w.cell? ⟨A, j, none⟩ = some (.int .u8 (q.getD j 0).toNat) := by
    intro j hj
    rw [hc j hj]
    simp [hj]
  exact fullRune_any A q.length cap (q.getD 0 0) (q.getD 1 0) (q.getD 2 0) w hT h1 h4 (hg 0 (by omega)) (hg 1) (hg 2)

theorem decodeRune_n (A : Nat) (q : Bs) (n cap : Nat) (w : World) (hT : Lib.Utf8Tabs 0 1 w) (hn : n = q.length) (h1 : 1 ≤ n) (h4 : n ≤ 4) (hc : Cells8 w A q) (r m : Nat) (hd : decL q = (r, m)) :
    Calls Tryd.prog 86 #[.slice (some ⟨A, 0, none⟩) n cap] w fun e w' => e = .returned (.tuple #[.int .i32 r, .int .i64 m]) ∧ Gr w w' := by
  have hs : n = ({ data := q.toArray } : ByteArray).size := by rw [← bl_length, bl_mk, hn]
  have hp : ∀ j, j < ({ data := q.toArray } : ByteArray).size → w.cell? ⟨A, 0 + j, none⟩ = some (.int .u8 (({ data := q.toArray } : ByteArray).get! j).toNat) := by
    intro j hj
    have hj' : j < q.length := by omega
    rw [Nat.zero_add, hc j hj']
    simp [ByteArray.get!, hj']
  have := decodeRune_any ⟨q.toArray⟩ A 0 cap w hT hp
  rw [dec_of q (by omega) (by omega), hd, ← hs] at this
  exact this

/-- What the two captured variables hold. -/
def DSt (w : World) (A L : Nat) (p : Bs) : Prop :=
  w.heap[L]? = some (.cells #[.int .i64 (p.length : Nat)] 3 (0, 0)) ∧ ∃ ys : Bs, ys.length = 4 ∧ ys.take p.length = p ∧ w.heap[A]? = some (.cells (ys.map fun c => Value.int .u8 c.toNat).toArray 102 (0, 0))

theorem DSt.gr {w w' : World} {A L : Nat} {p : Bs} (h : DSt w A L p) (g : Gr w w') : DSt w' A L p := by
  obtain ⟨h1, ys, h2, h3, h4⟩ := h
  refine ⟨?_, ys, h2, h3, ?_⟩
  · rw [Below.block g _ (lt_of_block h1)]; exact h1
  · rw [Below.block g _ (lt_of_block h4)]; exact h4

theorem take_snoc (ys p : Bs) (c : UInt8) (h : ys.take p.length = p) (h4 : p.length < ys.length) : (ys.set p.length c).take (p.length + 1) = p ++ [c] := by
  rw [List.take_add_one, List.take_set_of_le (Nat.le_refl _), h]
  simp [h4]

theorem DSt.cells {w : World} {A L : Nat} {p : Bs} (h : DSt w A L p) : Cells8 w A p := by
  obtain ⟨_, ys, h2, h3, h4⟩ := h
  intro i hi
  rw [cell_of_row w A i _ _ _ h4]
  have hl : p.length ≤ 4 := by rw [← h3, List.length_take]; omega
  have hi4 : i < ys.length := by omega
  have : p[i] = ys[i] := by
    have : (ys.take p.length)[i]'(by rw [List.length_take]; omega) = ys[i] := List.getElem_take
    rw [← this]
    simp only [h3]
  rw [this]
  simp [hi4]

/-- Behind the store of a byte and of the new length. -/
theorem DSt.push {w : World} {A L : Nat} {p : Bs} (h : DSt w A L p) (hAL : A ≠ L) (hp : p.length < 4) (c : UInt8) :
    DSt ((w.setCell ⟨A, p.length, none⟩ (.int .u8 c.toNat)).setCell ⟨L, 0, none⟩ (.int .i64 ((p.length : Int) + 1))) A L (p ++ [c]) := by
  obtain ⟨h1, ys, h2, h3, h4⟩ := h
  refine ⟨?_, ys.set p.length c, by simpa using h2, ?_, ?_⟩
  · rw [one_setCell (v := .int .i64 (p.length : Nat)) (by rw [heap_setCell_other _ _ _ _ (by simpa using hAL.symm)]; exact h1)]
    simp
  · rw [List.length_append, List.length_singleton]
    exact take_snoc ys p c h3 (by omega)
  · rw [heap_setCell_other _ _ _ _ (by simpa using hAL), heap_setCell_same _ _ _ _ _ _ h4]
    simp [List.map_set]

/-- The pending piece is done. -/
theorem DSt.pop {w : World} {A L : Nat} {p : Bs} (h : DSt w A L p) (hAL : A ≠ L) : DSt (w.setCell ⟨L, 0, none⟩ (.int .i64 0)) A L [] := by
  obtain ⟨h1, ys, h2, h3, h4⟩ := h
  refine ⟨?_, ys, h2, by simp, ?_⟩
  · rw [one_setCell h1]; rfl
  · rw [heap_setCell_other _ _ _ _ (by simpa using hAL)]
    exact h4

theorem DSt.loc {w : World} {A L : Nat} {p : Bs} (h : DSt w A L p) : w.cell? ⟨L, 0, none⟩ = some (.int .i64 (p.length : Nat)) ∧ w.frozen? ⟨L, 0, none⟩ = false := ⟨cell_of_one h.1, free_of_one h.1⟩

theorem DSt.at {w : World} {A L : Nat} {p : Bs} (h : DSt w A L p) (hp : p.length < 4) : ∃ y : Int, w.cell? ⟨A, p.length, none⟩ = some (.int .u8 y) ∧ w.frozen? ⟨A, p.length, none⟩ = false := by
  obtain ⟨h1, ys, h2, h3, h4⟩ := h
  refine ⟨((ys[p.length]'(by omega)).toNat : Nat), ?_, ?_⟩
  · rw [cell_of_row w A _ _ _ _ h4]
    simp [h2, hp]
  · simp [World.frozen?, h4]

theorem arr_to (A n : Nat) (h : Int) (hn : h = n) (h4 : n ≤ 4) (W : World) :
    (Instr.sliceAt 102 (.pointer (some ⟨A, 0, none⟩)) none (some (.int .i64 h)) none).run Tryd.prog W = .ok (.slice (some ⟨A, 0, none⟩) n 4) W := by
  subst hn
  rw [run_sliceAt_array_h W 102 ⟨A, 0, none⟩ (by kernel_rfl) .i64 _ (by omega) (by rw [show Tryd.prog.arrayLen 102 = 4 from by kernel_rfl]; omega)]
  rw [show Tryd.prog.elem 102 = 5 from by kernel_rfl, show Tryd.prog.arrayLen 102 = 4 from by kernel_rfl]
  have : (Go.sizeOf 5).run Tryd.prog W = .ok 1 W := by kernel_rfl
  rw [this]
  simp [slicedAt, go_sem]

theorem arr_all (A : Nat) (W : World) : (Instr.sliceAt 102 (.pointer (some ⟨A, 0, none⟩)) none none none).run Tryd.prog W = .ok (.slice (some ⟨A, 0, none⟩) 4 4) W := by
  rw [run_sliceAt_array_all W 102 ⟨A, 0, none⟩ (by kernel_rfl)]
  rw [show Tryd.prog.elem 102 = 5 from by kernel_rfl, show Tryd.prog.arrayLen 102 = 4 from by kernel_rfl]
  have : (Go.sizeOf 5).run Tryd.prog W = .ok 1 W := by kernel_rfl
  rw [this]
  simp [slicedAt, go_sem]

theorem arr_nil (A n : Nat) (h g : Int) (hn : h = n) (gn : g = n) (h4 : n ≤ 4) : ∃ (ad : Addr) (cap : Nat), ∀ W : World,
    (Instr.sliceAt 102 (.pointer (some ⟨A, 0, none⟩)) (some (.int .i64 h)) (some (.int .i64 g)) none).run Tryd.prog W = .ok (.slice (some ad) 0 cap) W := by
  subst hn gn
  refine ⟨if 4 = n then ⟨A, 0, none⟩ else (⟨A, 0, none⟩ : Addr).add (n * 1), 4 - n, fun W => ?_⟩
  rw [run_sliceAt_array_lh W 102 ⟨A, 0, none⟩ (by kernel_rfl) .i64 .i64 _ _ (by omega) (by omega) (by rw [show Tryd.prog.arrayLen 102 = 4 from by kernel_rfl]; omega)]
  rw [show Tryd.prog.elem 102 = 5 from by kernel_rfl, show Tryd.prog.arrayLen 102 = 4 from by kernel_rfl]
  have : (Go.sizeOf 5).run Tryd.prog W = .ok 1 W := by kernel_rfl
  rw [this]
  simp only [Result.andThen, slicedAt, Int.toNat_natCast, Nat.sub_self]

theorem tabs_below {B : Nat} {w w' : World} (h : Lib.Utf8Tabs 0 1 w) (hb : Below B w w') (hB : 2 ≤ B) : Lib.Utf8Tabs 0 1 w' :=
  ⟨fun c hc => (hb.cell (p := ⟨0, c, none⟩) (by show 0 < B; omega)).trans (h.1 c hc), fun i hi => ⟨(hb.cell (p := ⟨1, 2 * i, none⟩) (by show 1 < B; omega)).trans (h.2 i hi).1, (hb.cell (p := ⟨1, 2 * i + 1, none⟩) (by show 1 < B; omega)).trans (h.2 i hi).2⟩⟩

set_option maxHeartbeats 1000000 in
theorem clo_pending (B A L : Nat) (p : Bs) (c : UInt8) (w : World) (hp : p.length ≤ 3) (hT : Lib.Utf8Tabs 0 1 w) (hB : 2 ≤ B) (hA : B ≤ A) (hL : B ≤ L) (hAL : A ≠ L) (hs : DSt w A L p) (hf : fullL (p ++ [c]) = false) :
    Calls Tryd.prog 84 #[.int .u8 c.toNat, .pointer (some ⟨A, 0, none⟩), .pointer (some ⟨L, 0, none⟩)] w fun e w' => Below B w w' ∧ e = .returned (.bool true) ∧ DSt w' A L (p ++ [c]) := by
  have HP := hid (DSt.push hs hAL (by omega) c)
  have hBw : B ≤ w.heap.size := by have := lt_of_block hs.1; omega
  have hb1 : Below B w ((w.setCell ⟨A, p.length, none⟩ (.int .u8 c.toNat)).setCell ⟨L, 0, none⟩ (.int .i64 ((p.length : Int) + 1))) := ((Below.refl B w).setCell (p := ⟨A, p.length, none⟩) hA _).setCell (p := ⟨L, 0, none⟩) hL _
  obtain ⟨hl, hfl⟩ := hs.loc
  obtain ⟨y, hy, hfy⟩ := hs.at (by omega)
  have hLA : L ≠ A := fun h => hAL h.symm
  have HLN := hid (show p.length + 1 = (p ++ [c]).length by simp)
  have hT1 := hid (tabs_below hT hb1 hB)
  have HB1 := hid hb1
  clear hs hb1 hT
  have hsl := fun W => arr_to A (p.length + 1) ((p.length : Int) + 1) (by omega) (by omega) W
  generalize hk : p.length = k at *
  have HK := hid hk
  clear hk
  go_enter Tryd.func84, Tryd.ntmps84
  go_wp2_with fail
  refine (fullRune_n A (p ++ [c]) _ _ _ hT1.out HLN.out (by omega) (by omega) HP.out.cells _ hf).mono ?_
  rintro e w1 ⟨rfl, hg1⟩
  have hb2 : Below B w w1 := HB1.out.trans (hg1.mono (by simp; omega))
  have HD := hid (HP.out.gr hg1)
  have HB2 := hid hb2
  have hl1 := HD.out.loc.1
  rw [← HLN.out] at hl1
  clear hb2
  go_wp2_with fail
  go_ret
  exact ⟨HB2.out, by simp; omega, HD.out⟩

set_option maxHeartbeats 1000000 in
theorem clo_bad (B A L : Nat) (p : Bs) (c : UInt8) (w : World) (hp : p.length ≤ 3) (hT : Lib.Utf8Tabs 0 1 w) (hB : 2 ≤ B) (hA : B ≤ A) (hL : B ≤ L) (hAL : A ≠ L) (hs : DSt w A L p) (hf : fullL (p ++ [c]) = true) (hd : (decL (p ++ [c])).1 = 65533) :
    Calls Tryd.prog 84 #[.int .u8 c.toNat, .pointer (some ⟨A, 0, none⟩), .pointer (some ⟨L, 0, none⟩)] w fun e w' => Below B w w' ∧ e = .returned (.bool false) := by
  have HP := hid (DSt.push hs hAL (by omega) c)
  have hBw : B ≤ w.heap.size := by have := lt_of_block hs.1; omega
  have hb1 : Below B w ((w.setCell ⟨A, p.length, none⟩ (.int .u8 c.toNat)).setCell ⟨L, 0, none⟩ (.int .i64 ((p.length : Int) + 1))) := ((Below.refl B w).setCell (p := ⟨A, p.length, none⟩) hA _).setCell (p := ⟨L, 0, none⟩) hL _
  obtain ⟨hl, hfl⟩ := hs.loc
  obtain ⟨y, hy, hfy⟩ := hs.at (by omega)
  have hLA : L ≠ A := fun h => hAL h.symm
  have HLN := hid (show p.length + 1 = (p ++ [c]).length by simp)
  have hT1 := hid (tabs_below hT hb1 hB)
  have HB1 := hid hb1
  clear hs hb1 hT
  have hsl := fun W => arr_to A (p.length + 1) ((p.length : Int) + 1) (by omega) (by omega) W
  generalize hk : p.length = k at *
  have HK := hid hk
  clear hk
  obtain ⟨r, m, hrm⟩ : ∃ r m, decL (p ++ [c]) = (r, m) := ⟨_, _, rfl⟩
  rw [hrm] at hd
  have q1 : (r : Int) = 65533 := by simp only at hd; omega
  clear hd
  have Q1 := hid q1
  clear q1
  go_enter Tryd.func84, Tryd.ntmps84
  go_wp2_with fail
  refine (fullRune_n A (p ++ [c]) _ _ _ hT1.out HLN.out (by omega) (by omega) HP.out.cells _ hf).mono ?_
  rintro e w1 ⟨rfl, hg1⟩
  have hb2 : Below B w w1 := HB1.out.trans (hg1.mono (by simp; omega))
  have HD := hid (HP.out.gr hg1)
  have hbg : Below B _ w1 := hg1.below.mono (by simp; omega)
  have hT2 := hid (tabs_below hT1.out hbg hB)
  clear hbg
  have HB2 := hid hb2
  have hl1 := HD.out.loc.1
  rw [← HLN.out] at hl1
  clear hb2
  go_wp2_with fail
  refine (decodeRune_n A (p ++ [c]) _ _ _ hT2.out HLN.out (by omega) (by omega) HD.out.cells r m hrm).mono ?_
  rintro e w2 ⟨rfl, hg2⟩
  have hbg : Below B w1 w2 := hg2.below.mono (by have := HB2.out.size; omega)
  have HB3 := hid (HB2.out.trans hbg)
  clear hbg
  have q1 : (((r : Nat) : Int) == 65533) = true := by rw [beq_iff_eq]; exact Q1.out
  go_wp2_with fail
  go_ret
  exact ⟨HB3.out, rfl⟩

set_option maxHeartbeats 1000000 in
theorem clo_good (B A L : Nat) (p : Bs) (c : UInt8) (w : World) (hp : p.length ≤ 3) (hT : Lib.Utf8Tabs 0 1 w) (hB : 2 ≤ B) (hA : B ≤ A) (hL : B ≤ L) (hAL : A ≠ L) (hs : DSt w A L p) (hf : fullL (p ++ [c]) = true) (hd : (decL (p ++ [c])).1 ≠ 65533) (hd2 : (decL (p ++ [c])).2 = p.length + 1) :
    Calls Tryd.prog 84 #[.int .u8 c.toNat, .pointer (some ⟨A, 0, none⟩), .pointer (some ⟨L, 0, none⟩)] w fun e w' => Below B w w' ∧ e = .returned (.bool true) ∧ DSt w' A L [] := by
  have HP := hid (DSt.push hs hAL (by omega) c)
  have hBw : B ≤ w.heap.size := by have := lt_of_block hs.1; omega
  have hb1 : Below B w ((w.setCell ⟨A, p.length, none⟩ (.int .u8 c.toNat)).setCell ⟨L, 0, none⟩ (.int .i64 ((p.length : Int) + 1))) := ((Below.refl B w).setCell (p := ⟨A, p.length, none⟩) hA _).setCell (p := ⟨L, 0, none⟩) hL _
  obtain ⟨hl, hfl⟩ := hs.loc
  obtain ⟨y, hy, hfy⟩ := hs.at (by omega)
  have hLA : L ≠ A := fun h => hAL h.symm
  have HLN := hid (show p.length + 1 = (p ++ [c]).length by simp)
  have hT1 := hid (tabs_below hT hb1 hB)
  have HB1 := hid hb1
  clear hs hb1 hT
  have hsl := fun W => arr_to A (p.length + 1) ((p.length : Int) + 1) (by omega) (by omega) W
  obtain ⟨ad, ca, hni⟩ := arr_nil A (p.length + 1) ((p.length : Int) + 1) ((p.length : Int) + 1) (by omega) (by omega) (by omega)
  have hal := fun W => arr_all A W
  have hcp := fun (W : World) (ty : TypeId) => run_copy_none (P := Tryd.prog) W 80 80 ty 5 (some ⟨A, 0, none⟩) (some ad) 4 4 0 ca Tryd.underlying80 (by kernel_rfl) (by simp)
  generalize hk : p.length = k at *
  have HK := hid hk
  clear hk
  obtain ⟨r, m, hrm⟩ : ∃ r m, decL (p ++ [c]) = (r, m) := ⟨_, _, rfl⟩
  rw [hrm] at hd hd2
  obtain rfl : m = k + 1 := hd2
  have q1 : (((r : Nat) : Int) == 65533) = false := by rw [beq_eq_false_iff_ne]; simp only at hd; omega
  clear hd
  go_enter Tryd.func84, Tryd.ntmps84
  go_wp2_with fail
  refine (fullRune_n A (p ++ [c]) _ _ _ hT1.out HLN.out (by omega) (by omega) HP.out.cells _ hf).mono ?_
  rintro e w1 ⟨rfl, hg1⟩
  have hb2 : Below B w w1 := HB1.out.trans (hg1.mono (by simp; omega))
  have HD := hid (HP.out.gr hg1)
  have hbg : Below B _ w1 := hg1.below.mono (by simp; omega)
  have hT2 := hid (tabs_below hT1.out hbg hB)
  clear hbg
  have HB2 := hid hb2
  have hl1 := HD.out.loc.1
  rw [← HLN.out] at hl1
  clear hb2
  go_wp2_with fail
  refine (decodeRune_n A (p ++ [c]) _ _ _ hT2.out HLN.out (by omega) (by omega) HD.out.cells _ _ hrm).mono ?_
  rintro e w2 ⟨rfl, hg2⟩
  have hbg : Below B w1 w2 := hg2.below.mono (by have := HB2.out.size; omega)
  have HB3 := hid (HB2.out.trans hbg)
  clear hbg
  have HD2 := hid (HD.out.gr hg2)
  have hl2 := HD2.out.loc.1
  have hf2 := HD2.out.loc.2
  rw [← HLN.out] at hl2
  go_wp2_with fail
  go_region
  all_goals
    go_wp2
    go_ret
    exact ⟨(HB3.out.setCell (p := ⟨L, 0, none⟩) hL _).drew, rfl, (DSt.pop HD2.out hAL).gr (Gr.refl _).drew⟩

end Go.Proofs.YtohjnegllfdemaaDoor
