/-
  The walks of the reference's key and item.
-/
import Derived.Test.YtohjnegllfdemaaDoorPars
set_option maxRecDepth 100000
namespace Go.Proofs.YtohjnegllfdemaaDoor
open Go.RowKit

theorem key_hd (l : Bs) : key l = if lowB (hdN l) || hdN l == 42 then some (skip keyB l) else none := by
  cases l with
  | nil => rfl
  | cons c r => rfl

theorem keyPost_at {b k j : Nat} {s : ByteArray} {odd : Bool} {w w' : World} (hk : key ((bl s).drop k) = some (skip keyB ((bl s).drop k))) (h1 : k ≤ j) (h2 : j ≤ s.size) (h3 : (bl s).drop j = skip keyB ((bl s).drop k)) (hp : PS w' b s j false odd) (hf : Fr b w w') :
    KeyPost b s k odd w (.returned (.string (s.extract k j))) w' :=
  ⟨hf, by rw [hk]; exact ⟨_, j, rfl, h1, h2, h3, ahead_mid s k j _ h1 h2 h3, hp⟩⟩

theorem eqNF {a n : Nat} (h : (a == n) = false) : ((a : Int) == (n : Int)) = false := eqF (by simpa using h)

set_option maxHeartbeats 4000000 in
theorem key_any (b k : Nat) (s : ByteArray) (odd : Bool) (w : World) (hs : s.size ≤ 2147483647) (hk : k ≤ s.size) (h : PS w b s k false odd) :
    Calls Tryd.prog 49 #[.pointer (some ⟨b, 0, none⟩)] w fun e w' => KeyPost b s k odd w e w' := by
  have HP := hid h
  have c1 := h.c1
  obtain ⟨rem, hrem⟩ : ∃ l, (bl s).drop k = l := ⟨_, rfl⟩
  have HREM := hid hrem
  have HK := hid (key_hd ((bl s).drop k))
  clear h hrem
  cases hl : lowB (hdN ((bl s).drop k))
  · by_cases h42 : hdN ((bl s).drop k) = 42
    · have q42 : ((hdN ((bl s).drop k) : Int) != 42) = false := neF h42
      have hkey : key ((bl s).drop k) = some (skip keyB ((bl s).drop k)) := by rw [HK.out, hl, h42]; rfl
      have HKEY := hid hkey
      clear hkey h42
      go_enter Tryd.func49, Tryd.ntmps49
      go_wp2_with fail
      refine (next_any b k s false odd _ hs hk HP.out).mono ?_
      rintro e w1 ⟨rfl, hp1, hg1⟩
      have HP1 := hid hp1
      have HG1 := hid hg1
      clear hp1 hg1
      go_wp2_with fail
      refine (lower_any _ _).mono ?_
      rintro e w2 ⟨rfl, rfl⟩
      go_wp2_with fail
      refine (next_any b k s false odd _ hs hk HP1.out).mono ?_
      rintro e w2 ⟨rfl, hp2, hg2⟩
      have HP2 := hid hp2
      have HF := hid (Fr.of_gr (b := b) (HG1.out.trans hg2))
      clear hp2 hg2
      go_wp2_with fail
      clear hl q42
      go_loopg [] (s.size - k) (fun g wr => ∃ j : Nat, k ≤ j ∧ j ≤ s.size ∧ s.size - j ≤ g ∧ Hid (PS wr b s j false odd) ∧ Hid (skip keyB ((bl s).drop j) = skip keyB ((bl s).drop k)) ∧ Hid (Fr b w wr))
      case atStart => exact ⟨k, Nat.le_refl _, hk, Nat.le_refl _, HP2, hid rfl, HF⟩
      case round =>
        clear HP2 HF HP c1 HREM HK
        obtain ⟨j, hkj, hjs, hjg, hps, hr, hf⟩ := hrel
        have d0 := hps.out.c0
        have d1 := hps.out.c1
        have g1 := hps.out.fz 1
        have HPX := hid (fun n => hps.out.gr ((Gr.refl wr).drewN n))
        have i1 : (k : Int) ≤ (j : Int) := by omega
        have i2 : (j : Int) ≤ (s.size : Int) := by omega
        have i3 : (0 : Int) ≤ (k : Int) := by omega
        have hcase : (keyB (hdN ((bl s).drop j)) = true ∧ j < s.size) ∨ (keyB (hdN ((bl s).drop j)) = false ∧ j < s.size) ∨ (hdN ((bl s).drop j) = 0 ∧ ¬ j < s.size) := by
          by_cases hlt : j < s.size
          · cases hkb : keyB (hdN ((bl s).drop j))
            · exact .inr (.inl ⟨rfl, hlt⟩)
            · exact .inl ⟨rfl, hlt⟩
          · exact .inr (.inr ⟨by rw [bl_end s j hlt]; rfl, hlt⟩)
        rcases hcase with ⟨hkb, hlt⟩ | ⟨hkb, hlt⟩ | ⟨hz, hlt⟩
        · have HN := hid (skip_cons_yes hlt hr.out hkb)
          have q : ((j : Int) < (s.size : Int)) := by omega
          cases l1 : lowB (hdN ((bl s).drop j)) <;> cases l2 : digB (hdN ((bl s).drop j)) <;> cases l3 : amongB (hdN ((bl s).drop j)) keyMarks
          · simp [keyB, l1, l2, l3] at hkb
          all_goals
            clear hkb
            go_wp2_with fail
            go_quiet ((first | (go_at_call 41; exact Calls.quiet_of (next_q b j s false odd _ hs hjs (HPX.out _))) | (go_at_call 73; exact Calls.quiet_of_same ((lower_any _ _).mono fun _ _ ⟨a, b⟩ => ⟨by rw [a, l1], b.symm⟩)) | (go_at_call 54; exact Calls.quiet_of_same ((digit_any _ _).mono fun _ _ ⟨a, b⟩ => ⟨by rw [a, l2], b.symm⟩)) | (go_at_call 31; exact Calls.quiet_of_same ((among_l _ _ keyMarks _ (by decide) rfl).mono fun _ _ ⟨a, b⟩ => ⟨by rw [a, l3], b.symm⟩))))
            rename_i nq
            go_wp2_with fail
            go_roundg (s.size - (j + 1))
            case measure => omega
            case rel => exact ⟨j + 1, by omega, by omega, Nat.le_refl _, hid (((HPX.out nq).at (j + 1) _ (by omega)).gr (Gr.refl _)), HN, hid ((hf.out.trans (Fr.of_gr ((Gr.refl wr).drewN nq))).set 1 _)⟩
        · have HE := hid (skip_cons_no hr.out hkb)
          have q : ((j : Int) < (s.size : Int)) := by omega
          cases l1 : lowB (hdN ((bl s).drop j)) <;> cases l2 : digB (hdN ((bl s).drop j)) <;> cases l3 : amongB (hdN ((bl s).drop j)) keyMarks
          case false.false.false =>
            clear hkb
            go_wp2_with fail
            go_quiet ((first | (go_at_call 41; exact Calls.quiet_of (next_q b j s false odd _ hs hjs (HPX.out _))) | (go_at_call 73; exact Calls.quiet_of_same ((lower_any _ _).mono fun _ _ ⟨a, b⟩ => ⟨by rw [a, l1], b.symm⟩)) | (go_at_call 54; exact Calls.quiet_of_same ((digit_any _ _).mono fun _ _ ⟨a, b⟩ => ⟨by rw [a, l2], b.symm⟩)) | (go_at_call 31; exact Calls.quiet_of_same ((among_l _ _ keyMarks _ (by decide) rfl).mono fun _ _ ⟨a, b⟩ => ⟨by rw [a, l3], b.symm⟩))))
            go_wp2_with fail
            go_quiet (fail)
            go_wp2_with fail
            go_ret
            first | exact keyPost_at HKEY.out hkj hjs HE.out (hps.out.gr ((Gr.refl wr).drewN _)) (hf.out.trans (Fr.of_gr ((Gr.refl wr).drewN _))) | exact keyPost_at HKEY.out hkj hjs HE.out (hps.out.gr (((Gr.refl wr).drewN _).drewN _)) (hf.out.trans (Fr.of_gr (((Gr.refl wr).drewN _).drewN _)))
          all_goals simp [keyB, l1, l2, l3] at hkb
        · have HE := hid (skip_cons_no hr.out (show keyB (hdN ((bl s).drop j)) = false by rw [hz]; rfl))
          have l1 : lowB (hdN ((bl s).drop j)) = false := by rw [hz]; rfl
          have l2 : digB (hdN ((bl s).drop j)) = false := by rw [hz]; rfl
          have q : (s.size : Int) ≤ (j : Int) := by omega
          have q' : ((j : Int) < (s.size : Int)) = False := by simp; omega
          clear hz
          go_wp2_with fail
          go_quiet ((first | (go_at_call 41; exact Calls.quiet_of (next_q b j s false odd _ hs hjs (HPX.out _))) | (go_at_call 73; exact Calls.quiet_of_same ((lower_any _ _).mono fun _ _ ⟨a, b⟩ => ⟨by rw [a, l1], b.symm⟩)) | (go_at_call 54; exact Calls.quiet_of_same ((digit_any _ _).mono fun _ _ ⟨a, b⟩ => ⟨by rw [a, l2], b.symm⟩)) | (go_at_call 31; exact Calls.quiet_of_same ((among_l _ _ keyMarks _ (by decide) rfl).mono fun _ _ ⟨a, b⟩ => ⟨by rw [a, l3], b.symm⟩))))
          go_wp2_with fail
          go_quiet (fail)
          go_wp2_with fail
          go_ret
          first | exact keyPost_at HKEY.out hkj hjs HE.out (hps.out.gr ((Gr.refl wr).drewN _)) (hf.out.trans (Fr.of_gr ((Gr.refl wr).drewN _))) | exact keyPost_at HKEY.out hkj hjs HE.out (hps.out.gr (((Gr.refl wr).drewN _).drewN _)) (hf.out.trans (Fr.of_gr (((Gr.refl wr).drewN _).drewN _)))
    · have q42 : ((hdN ((bl s).drop k) : Int) != 42) = true := neT h42
      have hkey : key ((bl s).drop k) = none := by
        rw [HK.out, hl]
        have : (hdN ((bl s).drop k) == 42) = false := by simpa using h42
        rw [this]; rfl
      have HKEY := hid hkey
      clear hkey h42
      go_enter Tryd.func49, Tryd.ntmps49
      go_wp2_with fail
      refine (next_any b k s false odd _ hs hk HP.out).mono ?_
      rintro e w1 ⟨rfl, hp1, hg1⟩
      have HP1 := hid hp1
      have HG1 := hid hg1
      clear hp1 hg1
      go_wp2_with fail
      refine (lower_any _ _).mono ?_
      rintro e w2 ⟨rfl, rfl⟩
      go_wp2_with fail
      refine (next_any b k s false odd _ hs hk HP1.out).mono ?_
      rintro e w2 ⟨rfl, hp2, hg2⟩
      have HP2 := hid hp2
      have d2 := hp2.c2
      have f2 := hp2.fz 2
      have HF := hid (Fr.of_gr (b := b) (HG1.out.trans hg2))
      clear hp2 hg2
      go_wp2_with fail
      go_ret
      exact ⟨HF.out.set 2 _, by rw [HKEY.out]; exact ⟨rfl, HP2.out.worse true⟩⟩
  · have hkey : key ((bl s).drop k) = some (skip keyB ((bl s).drop k)) := by rw [HK.out, hl]; rfl
    have HKEY := hid hkey
    clear hkey
    go_enter Tryd.func49, Tryd.ntmps49
    go_wp2_with fail
    refine (next_any b k s false odd _ hs hk HP.out).mono ?_
    rintro e w1 ⟨rfl, hp1, hg1⟩
    have HP2 := hid hp1
    have HF := hid (Fr.of_gr (b := b) hg1)
    clear hp1 hg1
    go_wp2_with fail
    refine (lower_any _ _).mono ?_
    rintro e w2 ⟨rfl, rfl⟩
    go_wp2_with fail
    clear hl
    go_loopg [] (s.size - k) (fun g wr => ∃ j : Nat, k ≤ j ∧ j ≤ s.size ∧ s.size - j ≤ g ∧ Hid (PS wr b s j false odd) ∧ Hid (skip keyB ((bl s).drop j) = skip keyB ((bl s).drop k)) ∧ Hid (Fr b w wr))
    case atStart => exact ⟨k, Nat.le_refl _, hk, Nat.le_refl _, HP2, hid rfl, HF⟩
    case round =>
      clear HP2 HF HP c1 HREM HK
      obtain ⟨j, hkj, hjs, hjg, hps, hr, hf⟩ := hrel
      have d0 := hps.out.c0
      have d1 := hps.out.c1
      have g1 := hps.out.fz 1
      have HPX := hid (fun n => hps.out.gr ((Gr.refl wr).drewN n))
      have i1 : (k : Int) ≤ (j : Int) := by omega
      have i2 : (j : Int) ≤ (s.size : Int) := by omega
      have i3 : (0 : Int) ≤ (k : Int) := by omega
      have hcase : (keyB (hdN ((bl s).drop j)) = true ∧ j < s.size) ∨ (keyB (hdN ((bl s).drop j)) = false ∧ j < s.size) ∨ (hdN ((bl s).drop j) = 0 ∧ ¬ j < s.size) := by
        by_cases hlt : j < s.size
        · cases hkb : keyB (hdN ((bl s).drop j))
          · exact .inr (.inl ⟨rfl, hlt⟩)
          · exact .inl ⟨rfl, hlt⟩
        · exact .inr (.inr ⟨by rw [bl_end s j hlt]; rfl, hlt⟩)
      rcases hcase with ⟨hkb, hlt⟩ | ⟨hkb, hlt⟩ | ⟨hz, hlt⟩
      · have HN := hid (skip_cons_yes hlt hr.out hkb)
        have q : ((j : Int) < (s.size : Int)) := by omega
        cases l1 : lowB (hdN ((bl s).drop j)) <;> cases l2 : digB (hdN ((bl s).drop j)) <;> cases l3 : amongB (hdN ((bl s).drop j)) keyMarks
        · simp [keyB, l1, l2, l3] at hkb
        all_goals
          clear hkb
          go_wp2_with fail
          go_quiet ((first | (go_at_call 41; exact Calls.quiet_of (next_q b j s false odd _ hs hjs (HPX.out _))) | (go_at_call 73; exact Calls.quiet_of_same ((lower_any _ _).mono fun _ _ ⟨a, b⟩ => ⟨by rw [a, l1], b.symm⟩)) | (go_at_call 54; exact Calls.quiet_of_same ((digit_any _ _).mono fun _ _ ⟨a, b⟩ => ⟨by rw [a, l2], b.symm⟩)) | (go_at_call 31; exact Calls.quiet_of_same ((among_l _ _ keyMarks _ (by decide) rfl).mono fun _ _ ⟨a, b⟩ => ⟨by rw [a, l3], b.symm⟩))))
          rename_i nq
          go_wp2_with fail
          go_roundg (s.size - (j + 1))
          case measure => omega
          case rel => exact ⟨j + 1, by omega, by omega, Nat.le_refl _, hid (((HPX.out nq).at (j + 1) _ (by omega)).gr (Gr.refl _)), HN, hid ((hf.out.trans (Fr.of_gr ((Gr.refl wr).drewN nq))).set 1 _)⟩
      · have HE := hid (skip_cons_no hr.out hkb)
        have q : ((j : Int) < (s.size : Int)) := by omega
        cases l1 : lowB (hdN ((bl s).drop j)) <;> cases l2 : digB (hdN ((bl s).drop j)) <;> cases l3 : amongB (hdN ((bl s).drop j)) keyMarks
        case false.false.false =>
          clear hkb
          go_wp2_with fail
          go_quiet ((first | (go_at_call 41; exact Calls.quiet_of (next_q b j s false odd _ hs hjs (HPX.out _))) | (go_at_call 73; exact Calls.quiet_of_same ((lower_any _ _).mono fun _ _ ⟨a, b⟩ => ⟨by rw [a, l1], b.symm⟩)) | (go_at_call 54; exact Calls.quiet_of_same ((digit_any _ _).mono fun _ _ ⟨a, b⟩ => ⟨by rw [a, l2], b.symm⟩)) | (go_at_call 31; exact Calls.quiet_of_same ((among_l _ _ keyMarks _ (by decide) rfl).mono fun _ _ ⟨a, b⟩ => ⟨by rw [a, l3], b.symm⟩))))
          go_wp2_with fail
          go_quiet (fail)
          go_wp2_with fail
          go_ret
          first | exact keyPost_at HKEY.out hkj hjs HE.out (hps.out.gr ((Gr.refl wr).drewN _)) (hf.out.trans (Fr.of_gr ((Gr.refl wr).drewN _))) | exact keyPost_at HKEY.out hkj hjs HE.out (hps.out.gr (((Gr.refl wr).drewN _).drewN _)) (hf.out.trans (Fr.of_gr (((Gr.refl wr).drewN _).drewN _)))
        all_goals simp [keyB, l1, l2, l3] at hkb
      · have HE := hid (skip_cons_no hr.out (show keyB (hdN ((bl s).drop j)) = false by rw [hz]; rfl))
        have l1 : lowB (hdN ((bl s).drop j)) = false := by rw [hz]; rfl
        have l2 : digB (hdN ((bl s).drop j)) = false := by rw [hz]; rfl
        have q : (s.size : Int) ≤ (j : Int) := by omega
        have q' : ((j : Int) < (s.size : Int)) = False := by simp; omega
        clear hz
        go_wp2_with fail
        go_quiet ((first | (go_at_call 41; exact Calls.quiet_of (next_q b j s false odd _ hs hjs (HPX.out _))) | (go_at_call 73; exact Calls.quiet_of_same ((lower_any _ _).mono fun _ _ ⟨a, b⟩ => ⟨by rw [a, l1], b.symm⟩)) | (go_at_call 54; exact Calls.quiet_of_same ((digit_any _ _).mono fun _ _ ⟨a, b⟩ => ⟨by rw [a, l2], b.symm⟩)) | (go_at_call 31; exact Calls.quiet_of_same ((among_l _ _ keyMarks _ (by decide) rfl).mono fun _ _ ⟨a, b⟩ => ⟨by rw [a, l3], b.symm⟩))))
        go_wp2_with fail
        go_quiet (fail)
        go_wp2_with fail
        go_ret
        first | exact keyPost_at HKEY.out hkj hjs HE.out (hps.out.gr ((Gr.refl wr).drewN _)) (hf.out.trans (Fr.of_gr ((Gr.refl wr).drewN _))) | exact keyPost_at HKEY.out hkj hjs HE.out (hps.out.gr (((Gr.refl wr).drewN _).drewN _)) (hf.out.trans (Fr.of_gr (((Gr.refl wr).drewN _).drewN _)))

end Go.Proofs.YtohjnegllfdemaaDoor
