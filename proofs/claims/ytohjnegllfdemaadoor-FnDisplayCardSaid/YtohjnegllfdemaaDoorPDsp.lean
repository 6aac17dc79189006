/-
  The walks of ParseDisplayString and impl.Display.
-/
import Derived.Test.YtohjnegllfdemaaDoorBld
import Derived.Test.YtohjnegllfdemaaDoorBare
set_option maxRecDepth 100000
namespace Go.Proofs.YtohjnegllfdemaaDoor
open Go.RowKit

theorem dspS_some {s : ByteArray} {o : Bs} (h : dspS (bl s) = some (o, [])) : 3 ≤ s.size ∧ dspA [] (dspT ((bl s).drop 2)) = some (o, []) := by
  have hl := bl_length s
  match hb : bl s, h with
  | a :: b :: r, h =>
    rw [hb] at hl
    simp only [dspS] at h
    split at h
    · cases r with
      | nil => cases h
      | cons c r => exact ⟨by simp at hl; omega, by rw [dspA_nil]; exact h⟩
    · cases h

theorem byteCells_push (xs : Bs) (c : UInt8) (x : Int) (hx : x = (c.toNat : Int)) : Lib.byteCells xs ++ [.int .u8 x] = Lib.byteCells (xs ++ [c]) := by
  subst hx
  simp [Lib.byteCells]

/-- A round's byte: the end is not reached ahead of the last quote. -/
theorem dsp_round (s : ByteArray) (k : Nat) (xs o : Bs) (h : k + 3 < s.size) (hr : dspA xs (dspT ((bl s).drop (k + 2))) = some (o, [])) :
    (((s[k + 2]).toNat = 37 ∧ ∃ h2 : k + 5 < s.size, hexB (s[k + 3]).toNat = true ∧ hexB (s[k + 4]).toNat = true ∧
      dspA (xs ++ [UInt8.ofNat (hexV (s[k + 3]).toNat * 16 + hexV (s[k + 4]).toNat)]) (dspT ((bl s).drop (k + 5))) = some (o, []))) ∨
    ((s[k + 2]).toNat ≠ 37 ∧ dspA (xs ++ [s[k + 2]]) (dspT ((bl s).drop (k + 3))) = some (o, [])) := by
  rcases dsp_step s (k + 2) xs _ (by omega) hr with ⟨_, hx⟩ | ⟨_, _, hx⟩ | ⟨_, _, _, hx⟩ | ⟨_, _, _, _, hx⟩ | ⟨_, hc, h2, hh1, hh2, hx⟩ | ⟨_, _, hp, hx⟩
  · cases hx
  · have : (bl s).drop (k + 2 + 1) = [] := by
      have := congrArg (fun x => x.map Prod.snd) hx
      simpa using this.symm
    rw [List.drop_eq_nil_iff, bl_length] at this
    omega
  · cases hx
  · cases hx
  · refine .inl ⟨hc, ?_⟩
    by_cases h5 : k + 5 < s.size
    · exact ⟨h5, hh1, hh2, hx⟩
    · rw [show k + 2 + 3 = k + 5 from by omega, bl_end s (k + 5) h5] at hx
      cases hx
  · exact .inr ⟨hp, hx⟩

theorem dsp_last (s : ByteArray) (k : Nat) (xs o : Bs) (h : k + 3 = s.size) (hr : dspA xs (dspT ((bl s).drop (k + 2))) = some (o, [])) : xs = o := by
  rcases dsp_step s (k + 2) xs _ (by omega) hr with ⟨_, hx⟩ | ⟨_, _, hx⟩ | ⟨_, _, _, hx⟩ | ⟨_, _, _, _, hx⟩ | ⟨_, hc, h2, hh1, hh2, hx⟩ | ⟨_, _, hp, hx⟩
  · cases hx
  · have := congrArg (fun x => x.map Prod.fst) hx
    simpa using this.symm
  · cases hx
  · cases hx
  · omega
  · rw [bl_end s (k + 2 + 1) (by omega)] at hx
    cases hx

theorem mid_get (s : ByteArray) (j : Nat) (h : j < (s.extract 2 (s.size - 1)).size) (h2 : j + 2 < s.size) : (s.extract 2 (s.size - 1))[j] = s[j + 2] := by
  rw [ByteArray.getElem_extract]
  simp only [Nat.add_comm]

set_option maxHeartbeats 4000000 in
theorem parseDisplay_yes (s : ByteArray) (o : Bs) (w : World) (hs : s.size ≤ 2147483647) (hT : Lib.Utf8Tabs 0 1 w) (hx : dspS (bl s) = some (o, [])) (ha : aut [] o = true) :
    Calls Tryd.prog 33 #[.string s] w fun e w' => e = .returned (.tuple #[.string ⟨o.toArray⟩, .bool true]) ∧ Gr w w' := by
  have HX : Hid (dsp (bl s) = some []) := hid (by unfold dsp; rw [hx]; simp [ha])
  obtain ⟨h3, hr0⟩ := dspS_some hx
  have HR := hid hr0
  have HT := hid hT
  obtain ⟨bd, hbd⟩ : ∃ bd, s.extract 2 (s.size - 1) = bd := ⟨_, rfl⟩
  have hbs : bd.size = s.size - 3 := by rw [← hbd, ByteArray.size_extract]; omega
  have HG : Hid (∀ (j : Nat) (h : j < bd.size) (h2 : j + 2 < s.size), bd[j] = s[j + 2]) := hid (by subst hbd; exact fun j h h2 => mid_get s j h h2)
  have HBD := hid hbd
  have HBS := hid hbs
  have q0 : bd.size ≤ 2147483647 := by omega
  have q1 : (2 : Int) ≤ (s.size : Int) - 1 := by omega
  have q2 : ((s.size : Int) - 1).toNat = s.size - 1 := by omega
  clear hx ha hr0 hT hbd hbs
  go_enter Tryd.func33, Tryd.ntmps33
  go_wp2_with fail
  refine (consumeDisplayString_any s _ hs HT.out).mono ?_
  rintro e w1 ⟨hp, hg1⟩
  rw [HX.out] at hp
  obtain ⟨c, t, rfl, _, ht⟩ := hp
  obtain rfl := bl_empty ht
  clear ht
  have HB := hid (Lib.fresh_isBuilder 87 5 w1)
  go_wp2_with fail
  rw [HBD.out]
  clear q1 q2
  go_loopw [8] (fun i wr => ∃ (k : Nat) (xs : Bs), k ≤ bd.size ∧ i = .int .i64 k ∧ Hid (xs.length ≤ k) ∧ Hid (Lib.IsBuilder 87 5 w1.heap.size w1.heap.size (Lib.byteCells xs) wr) ∧ Hid (dspA xs (dspT ((bl s).drop (k + 2))) = some (o, [])) ∧ Hid (Below w1.heap.size w1 wr)) (fun i _ => bd.size - (intOf i).toNat)
  case atStart => exact ⟨0, [], Nat.zero_le _, rfl, hid (Nat.le_refl _), HB, HR, hid ((Below.refl _ _).alloc (Nat.le_refl _) _)⟩
  case round =>
    clear HB
    obtain ⟨k, xs, hk, rfl, hxl, hbu, hr, hb⟩ := hrel
    by_cases hlt : k < bd.size
    · have g3 : k + 3 < s.size := by have := HBS.out; omega
      have gk := HG.out k hlt (by omega)
      have hlen : (Lib.byteCells xs).length + 1 ≤ 140737488355328 := by have := hxl.out; simp [Lib.byteCells]; omega
      have HLEN := hid hlen
      clear hlen
      rcases dsp_round s k xs o g3 hr.out with ⟨hc, h5, hh1, hh2, hx⟩ | ⟨hp, hx⟩
      · have c1 : (((bd[k]).toNat : Int) == 37) = true := by rw [gk]; exact eqT hc
        have b2 : k + 2 < bd.size := by have := HBS.out; omega
        have b1 : k + 1 < bd.size := by omega
        have g1 := HG.out (k + 1) b1 (by omega)
        have g2 := HG.out (k + 2) b2 (by omega)
        have g1' : bd[k + 1] = s[k + 3] := g1
        have g2' : bd[k + 2] = s[k + 4] := g2
        have l1 := hexV_le _ hh1
        have l2 := hexV_le _ hh2
        have HXI := hid (show ((hexV (s[k + 3]).toNat : Int) * 16 + (hexV (s[k + 4]).toNat : Int)) = ((UInt8.ofNat (hexV (s[k + 3]).toNat * 16 + hexV (s[k + 4]).toNat)).toNat : Int) by rw [UInt8.toNat_ofNat', Nat.mod_eq_of_lt (by omega)]; omega)
        rw [← g1'] at hh1 HXI
        rw [← g2'] at hh2 HXI
        rw [← g1', ← g2'] at hx
        have HN := hid hx
        have q : (k : Int) + 2 < (bd.size : Int) := by omega
        clear hx hc gk g1 g2 g1' g2' l1 l2
        go_wp2_with fail
        have s1 : IntKind.i64.wrap ((k : Int) + 1) = (k : Int) + 1 := IntWalk.i64_in _ (by omega)
        have s2 : IntKind.i64.wrap ((k : Int) + 2) = (k : Int) + 2 := IntWalk.i64_in _ (by omega)
        have s3 : ((k : Int) + 1).toNat = k + 1 := by omega
        have s4 : ((k : Int) + 2).toNat = k + 2 := by omega
        have s5 : (0 : Int) ≤ (k : Int) + 1 := by omega
        have s6 : (0 : Int) ≤ (k : Int) + 2 := by omega
        have s7 : (k : Int) + 1 < (bd.size : Int) := by omega
        go_quiet ((go_at_call 64; exact Calls.quiet_of_same ((hex2_yes _ _ hh1 hh2 _).mono fun _ _ ⟨a, b⟩ => ⟨a, b.symm⟩)))
        rename_i nq
        clear s1 s2
        have hgq : Below w1.heap.size wr (wr.drewN nq) := ((Gr.refl wr).drewN nq).below.mono hb.out.size
        have HBQ := hid (hb.out.trans hgq)
        have hbu2 : Lib.IsBuilder 87 5 w1.heap.size w1.heap.size (Lib.byteCells xs) (wr.drewN nq) := by
          rcases hbu.out with ⟨x1, v, x2, x3, x4⟩ | ⟨x1, v, x2, x3, x4⟩
          · exact .inl ⟨x1, v, by rw [Below.block ((Gr.refl wr).drewN nq) _ (lt_of_block x2)]; exact x2, x3.kept (row := none) ⟨((Gr.refl wr).drewN nq).os, ((Gr.refl wr).drewN nq).tape, ((Gr.refl wr).drewN nq).output, ((Gr.refl wr).drewN nq).size, fun i hi _ => ((Gr.refl wr).drewN nq).block i hi⟩ (by cases v.ownBlock <;> simp), x4⟩
          · exact .inr ⟨x1, v, by rw [Below.block ((Gr.refl wr).drewN nq) _ (lt_of_block x2)]; exact x2, x3.kept (row := none) ⟨((Gr.refl wr).drewN nq).os, ((Gr.refl wr).drewN nq).tape, ((Gr.refl wr).drewN nq).output, ((Gr.refl wr).drewN nq).size, fun i hi _ => ((Gr.refl wr).drewN nq).block i hi⟩ (by cases v.ownBlock <;> simp), x4⟩
        have HBU2 := hid hbu2
        clear hbu2 hgq
        go_wp2_with fail
        refine (writeByte_any w1.heap.size w1.heap.size _ _ _ HBU2.out HLEN.out HBQ.out.size).mono ?_
        rintro e w2 ⟨rfl, hba, hb2⟩
        rw [byteCells_push _ _ _ HXI.out] at hba
        have HBA := hid hba
        have HB3 := hid (HBQ.out.trans hb2)
        clear hba hb2
        go_wp2_with fail
        go_roundw
        case rel => exact ⟨k + 3, _, by omega, by go_num, hid (by have := hxl.out; simp; omega), hid (.inr HBA.out), HN, HB3⟩
        case measure => simp [intOf]; omega
      · have c1 : (((bd[k]).toNat : Int) == 37) = false := by rw [gk]; exact eqF hp
        rw [← gk] at hx
        have HN := hid hx
        clear hx hp gk
        go_wp2_with fail
        refine (writeByte_any w1.heap.size w1.heap.size _ _ _ hbu.out HLEN.out hb.out.size).mono ?_
        rintro e w2 ⟨rfl, hba, hb2⟩
        rw [byteCells_push _ _ _ rfl] at hba
        have HBA := hid hba
        have HB3 := hid (hb.out.trans hb2)
        clear hba hb2
        go_wp2_with fail
        go_roundw
        case rel => exact ⟨k + 1, _, by omega, by go_num, hid (by have := hxl.out; simp; omega), hid (.inr HBA.out), HN, HB3⟩
        case measure => simp [intOf]; omega
    · have hxo := dsp_last s k xs o (by have := HBS.out; omega) hr.out
      subst hxo
      go_wp2_with fail
      refine (builderString_any w1.heap.size w1.heap.size xs _ hbu.out hb.out.size).mono ?_
      rintro e w2 ⟨rfl, hb2⟩
      have HB3 := hid (hb.out.trans hb2)
      clear hb2
      go_wp2_with fail
      go_ret2
      exact ⟨rfl, Gr.trans hg1 HB3.out⟩

set_option maxHeartbeats 1000000 in
theorem parseDisplay_no (s : ByteArray) (w : World) (hs : s.size ≤ 2147483647) (hT : Lib.Utf8Tabs 0 1 w) (h : dsp (bl s) ≠ some []) :
    Calls Tryd.prog 33 #[.string s] w fun e w' => e = .returned (.tuple #[.string ⟨#[]⟩, .bool false]) ∧ Gr w w' := by
  have HT := hid hT
  clear hT
  cases hb : dsp (bl s) with
  | none =>
    have HB := hid hb
    clear hb h
    go_enter Tryd.func33, Tryd.ntmps33
    go_wp2_with fail
    refine (consumeDisplayString_any s _ hs HT.out).mono ?_
    rintro e w1 ⟨hp, hg⟩
    rw [HB.out] at hp
    obtain ⟨c, t, rfl⟩ := hp
    go_wp2_with fail
    go_ret2
    exact ⟨rfl, hg⟩
  | some r =>
    have hr : r ≠ [] := fun e => h (by rw [hb, e])
    have HB := hid hb
    clear hb h
    go_enter Tryd.func33, Tryd.ntmps33
    go_wp2_with fail
    refine (consumeDisplayString_any s _ hs HT.out).mono ?_
    rintro e w1 ⟨hp, hg⟩
    rw [HB.out] at hp
    obtain ⟨c, t, rfl, _, ht⟩ := hp
    have hn : t.toList.isEmpty = false := by rw [bl_toList, ht, List.isEmpty_eq_false_iff]; exact hr
    have hn2 : ¬ t.toList = [] := by rw [bl_toList, ht]; exact hr
    clear ht
    go_wp2_with fail
    go_ret2
    exact ⟨rfl, hg⟩

theorem implDisplay_no (s : ByteArray) (w : World) (hs : s.size ≤ 2147483647) (hT : Lib.Utf8Tabs 0 1 w) (h : dsp (bl s) ≠ some []) :
    Calls Tryd.prog 15 #[.string s] w fun e w' => e = .returned (.tuple #[.string ⟨#[]⟩, .bool false]) ∧ Gr w w' := by
  have HT := hid hT
  clear hT
  go_enter Tryd.func15, Tryd.ntmps15
  go_wp2_with fail
  refine (parseDisplay_no s _ hs HT.out h).mono ?_
  rintro e w' ⟨rfl, hg⟩
  go_wp2_with fail
  go_ret2
  exact ⟨rfl, hg⟩
theorem implDisplay_yes (s : ByteArray) (o : Bs) (w : World) (hs : s.size ≤ 2147483647) (hT : Lib.Utf8Tabs 0 1 w) (hx : dspS (bl s) = some (o, [])) (ha : aut [] o = true) :
    Calls Tryd.prog 15 #[.string s] w fun e w' => e = .returned (.tuple #[.string ⟨o.toArray⟩, .bool true]) ∧ Gr w w' := by
  have HT := hid hT
  have HX := hid hx
  have HA := hid ha
  clear hT hx ha
  go_enter Tryd.func15, Tryd.ntmps15
  go_wp2_with fail
  refine (parseDisplay_yes s o _ hs HT.out HX.out HA.out).mono ?_
  rintro e w' ⟨rfl, hg⟩
  go_wp2_with fail
  go_ret2
  exact ⟨rfl, hg⟩

end Go.Proofs.YtohjnegllfdemaaDoor
