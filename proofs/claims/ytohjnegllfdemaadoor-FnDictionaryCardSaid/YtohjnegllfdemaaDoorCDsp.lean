/-
  The walk of consumeDisplayString.
-/
import Derived.Test.YtohjnegllfdemaaDoorClo
import Derived.Test.YtohjnegllfdemaaDoorDat
import Derived.Test.YtohjnegllfdemaaDoorGram
import Derived.IntWalk
set_option maxRecDepth 100000
namespace Go.Proofs.YtohjnegllfdemaaDoor
open Go.RowKit

/-- What is left, where a piece of a character is pending. -/
def dspP (p : Bs) (x : Option (Bs × Bs)) : Option Bs :=
  match x with
  | none => none
  | some (o, r) => if aut p o then some r else none
theorem dspP_none (p : Bs) : dspP p none = none := rfl
theorem dspP_end (p r : Bs) : dspP p (some ([], r)) = if p.isEmpty then some r else none := rfl
theorem dspP_full {p : Bs} {c : UInt8} (x : Option (Bs × Bs)) (hf : fullL (p ++ [c]) = true) (hd : (decL (p ++ [c])).1 ≠ 65533) : dspP p (dspA ([] ++ [c]) x) = dspP [] x := by
  cases x with
  | none => rfl
  | some y =>
    have : ((decL (p ++ [c])).1 != 65533) = true := by simpa using hd
    simp [dspA, dspP, aut, hf, this]
theorem dspP_bad {p : Bs} {c : UInt8} (x : Option (Bs × Bs)) (hf : fullL (p ++ [c]) = true) (hd : (decL (p ++ [c])).1 = 65533) : dspP p (dspA ([] ++ [c]) x) = none := by
  cases x with
  | none => rfl
  | some y => simp [dspA, dspP, aut, hf, hd]
theorem dspP_pend {p : Bs} {c : UInt8} (x : Option (Bs × Bs)) (hf : fullL (p ++ [c]) = false) : dspP p (dspA ([] ++ [c]) x) = dspP (p ++ [c]) x := by
  cases x with
  | none => rfl
  | some y => simp [dspA, dspP, aut, hf]
theorem dspA_nil' (x : Option (Bs × Bs)) : dspA [] x = x := by cases x <;> simp [dspA]
theorem dsp_eq (l : Bs) : dsp l = dspP [] (dspS l) := by
  unfold dsp dspP
  cases dspS l with
  | none => rfl
  | some y => rfl

theorem chain_le {p : Bs} (h : chain p) : p.length ≤ 3 := by
  match p, h with
  | [], _ => simp
  | [_], _ => simp
  | [_, _], _ => simp
  | [_, _, _], _ => simp

/-- The closure's contract: a byte by its number. -/
theorem clo1 (B A L : Nat) (p : Bs) (c : UInt8) (x : Int) (hx : x = (c.toNat : Int)) (w : World) (hp : p.length ≤ 3) (hT : Lib.Utf8Tabs 0 1 w) (hB : 2 ≤ B) (hA : B ≤ A) (hL : B ≤ L) (hAL : A ≠ L) (hs : DSt w A L p) (hf : fullL (p ++ [c]) = false) :
    Calls Tryd.prog 84 #[.int .u8 x, .pointer (some ⟨A, 0, none⟩), .pointer (some ⟨L, 0, none⟩)] w fun e w' => Below B w w' ∧ e = .returned (.bool true) ∧ DSt w' A L (p ++ [c]) := by
  subst hx
  exact clo_pending B A L p c w hp hT hB hA hL hAL hs hf
theorem clo2 (B A L : Nat) (p : Bs) (c : UInt8) (x : Int) (hx : x = (c.toNat : Int)) (w : World) (hp : p.length ≤ 3) (hT : Lib.Utf8Tabs 0 1 w) (hB : 2 ≤ B) (hA : B ≤ A) (hL : B ≤ L) (hAL : A ≠ L) (hs : DSt w A L p) (hf : fullL (p ++ [c]) = true) (hd : (decL (p ++ [c])).1 = 65533) :
    Calls Tryd.prog 84 #[.int .u8 x, .pointer (some ⟨A, 0, none⟩), .pointer (some ⟨L, 0, none⟩)] w fun e w' => Below B w w' ∧ e = .returned (.bool false) := by
  subst hx
  exact clo_bad B A L p c w hp hT hB hA hL hAL hs hf hd
theorem clo3 (B A L : Nat) (p : Bs) (c : UInt8) (x : Int) (hx : x = (c.toNat : Int)) (w : World) (hch : chain p) (hT : Lib.Utf8Tabs 0 1 w) (hB : 2 ≤ B) (hA : B ≤ A) (hL : B ≤ L) (hAL : A ≠ L) (hs : DSt w A L p) (hf : fullL (p ++ [c]) = true) (hd : (decL (p ++ [c])).1 ≠ 65533) :
    Calls Tryd.prog 84 #[.int .u8 x, .pointer (some ⟨A, 0, none⟩), .pointer (some ⟨L, 0, none⟩)] w fun e w' => Below B w w' ∧ e = .returned (.bool true) ∧ DSt w' A L [] := by
  subst hx
  rcases chain_step hch hf [] with ⟨h, _⟩ | ⟨_, h, _⟩
  · exact absurd h hd
  · exact clo_good B A L p c w (chain_le hch) hT hB hA hL hAL hs hf hd h

theorem dst_start (w : World) : DSt ((w.alloc (.cells #[.int .u8 0, .int .u8 0, .int .u8 0, .int .u8 0] 102)).alloc (.cells #[.int .i64 0] 3)) w.heap.size (w.heap.size + 1) [] := by
  refine ⟨?_, [0, 0, 0, 0], rfl, rfl, ?_⟩
  · have := heap_alloc_new (w.alloc (.cells #[.int .u8 0, .int .u8 0, .int .u8 0, .int .u8 0] 102)) (.cells #[.int .i64 0] 3)
    simpa using this
  · rw [heap_alloc_old _ _ (by simp), heap_alloc_new]
    rfl


set_option maxHeartbeats 8000000 in
theorem dsp_core (s : ByteArray) (R : Option Bs) (w : World) (hs : s.size ≤ 4294967296) (hT : Lib.Utf8Tabs 0 1 w) (hw : 2 ≤ w.heap.size) (h1 : 1 < s.size) (hx : (s.extract 0 2).toList = [37, 34]) (HR : Hid (dspP [] (dspT ((bl s).drop 2)) = R)) :
    Calls Tryd.prog 63 #[.string s] w fun e w' => OptPost s R e ∧ Gr w w' := by
  have HT := hid hT
  clear hT
  have hmf : ∀ (fn : Fn) (first cap : Array Value) (w : World), (Instr.makeFunc fn first cap).run Tryd.prog w = .ok (.func fn first cap) w := fun _ _ _ _ => rfl
  have HDS := hid (dst_start w)
  have HB0 : Hid (Below w.heap.size w ((w.alloc (.cells #[.int .u8 0, .int .u8 0, .int .u8 0, .int .u8 0] 102)).alloc (.cells #[.int .i64 0] 3))) := hid (((Below.refl _ w).alloc (Nat.le_refl _) _).alloc (by simp) _)
  go_enter Tryd.func63, Tryd.ntmps63
  go_wp2_with fail
  clear hx
  go_loopw [8] (fun i wr => ∃ (k : Nat) (p : Bs), k ≤ s.size ∧ i = .int .i64 k ∧ Hid (chain p) ∧ DSt wr w.heap.size (w.heap.size + 1) p ∧ Hid (dspP p (dspT ((bl s).drop k)) = R) ∧ Below w.heap.size w wr) (fun i _ => s.size - (intOf i).toNat)
  case atStart => exact ⟨2, [], by omega, rfl, hid trivial, HDS.out, HR, HB0.out⟩
  case round =>
    clear HDS HB0
    obtain ⟨k, p, hk, rfl, hch, hds, hr, hb⟩ := hrel
    have HD := hid hds
    have HB := hid hb
    have hl := hds.loc.1
    have hT1 := hid (tabs_below HT.out hb hw)
    clear hds hb
    by_cases hlt : k < s.size
    · rcases dsp_step s k [] (dspT ((bl s).drop k)) hlt (dspA_nil' _) with ⟨hv, hx⟩ | ⟨hv, hc, hx⟩ | ⟨hv, hc, h2, hx⟩ | ⟨hv, hc, h2, hh, hx⟩ | ⟨hv, hc, h2, hh1, hh2, hx⟩ | ⟨hv, hc, hp, hx⟩
      · have HX := hid (show R = none by rw [← hr.out, hx]; rfl)
        rw [visB_eq, Bool.or_eq_false_iff] at hv
        obtain ⟨hv1, hv2⟩ := hv
        clear hx
        go_wp2_with (first | (go_at_call 87; refine (isVChar_any _ _).mono ?_; rintro e w' ⟨rfl, rfl⟩) | (go_at_call 88; refine (isSP_any _ _).mono ?_; rintro e w' ⟨rfl, rfl⟩))
        go_ret3
        exact ⟨by rw [HX.out]; exact ⟨_, _, rfl⟩, HB.out⟩
      · have c1 : (((s[k]).toNat : Int) == 37) = false := eqF (n := 37) (by omega)
        have c2 : (((s[k]).toNat : Int) == 34) = true := eqT hc
        have hv1 : vchB (s[k]).toNat = true := by rw [hc]; rfl
        clear hc hv
        by_cases hp0 : p = []
        · subst hp0
          have HX := hid (show R = some ((bl s).drop (k + 1)) by rw [← hr.out, hx]; rfl)
          clear hx
          go_wp2_with (first | (go_at_call 87; refine (isVChar_any _ _).mono ?_; rintro e w' ⟨rfl, rfl⟩) | (go_at_call 88; refine (isSP_any _ _).mono ?_; rintro e w' ⟨rfl, rfl⟩))
          go_quiet (fail)
          go_wp2_with fail
          go_ret3
          exact ⟨by rw [HX.out]; exact took_at s (k + 1) _ (by omega) rfl, Below.trans HB.out (Gr.drewN (Gr.refl _) _ |>.below.mono HB.out.size)⟩
        · have HX := hid (show R = none by rw [← hr.out, hx, dspP_end, if_neg (by simpa using hp0)])
          have hpl : (0 : Int) < (p.length : Int) := by have := List.length_pos_iff.2 hp0; omega
          clear hx hp0
          go_wp2_with (first | (go_at_call 87; refine (isVChar_any _ _).mono ?_; rintro e w' ⟨rfl, rfl⟩) | (go_at_call 88; refine (isSP_any _ _).mono ?_; rintro e w' ⟨rfl, rfl⟩))
          go_ret3
          exact ⟨by rw [HX.out]; exact ⟨_, _, rfl⟩, HB.out⟩
      · have HX := hid (show R = none by rw [← hr.out, hx]; rfl)
        have c1 : (((s[k]).toNat : Int) == 37) = true := eqT hc
        have c2 : (((s[k]).toNat : Int) == 34) = false := eqF (n := 34) (by omega)
        have hv1 : vchB (s[k]).toNat = true := by rw [hc]; rfl
        have q : (s.size : Int) ≤ (k : Int) + 2 := by omega
        clear hx hc hv
        go_wp2_with (first | (go_at_call 87; refine (isVChar_any _ _).mono ?_; rintro e w' ⟨rfl, rfl⟩) | (go_at_call 88; refine (isSP_any _ _).mono ?_; rintro e w' ⟨rfl, rfl⟩))
        go_ret3
        exact ⟨by rw [HX.out]; exact ⟨_, _, rfl⟩, HB.out⟩
      · have HX := hid (show R = none by rw [← hr.out, hx]; rfl)
        have c1 : (((s[k]).toNat : Int) == 37) = true := eqT hc
        have c2 : (((s[k]).toNat : Int) == 34) = false := eqF (n := 34) (by omega)
        have hv1 : vchB (s[k]).toNat = true := by rw [hc]; rfl
        have q : (k : Int) + 2 < (s.size : Int) := by omega
        clear hx hc hv
        go_wp2_with (first | (go_at_call 87; refine (isVChar_any _ _).mono ?_; rintro e w' ⟨rfl, rfl⟩) | (go_at_call 88; refine (isSP_any _ _).mono ?_; rintro e w' ⟨rfl, rfl⟩))
        have s1 : IntKind.i64.wrap ((k : Int) + 1) = (k : Int) + 1 := IntWalk.i64_in _ (by omega)
        have s2 : IntKind.i64.wrap ((k : Int) + 2) = (k : Int) + 2 := IntWalk.i64_in _ (by omega)
        have s3 : ((k : Int) + 1).toNat = k + 1 := by omega
        have s4 : ((k : Int) + 2).toNat = k + 2 := by omega
        have s5 : (0 : Int) ≤ (k : Int) + 1 := by omega
        have s6 : (0 : Int) ≤ (k : Int) + 2 := by omega
        have s7 : (k : Int) + 1 < (s.size : Int) := by omega
        go_quiet ((go_at_call 64; exact Calls.quiet_of_same ((hex2_no _ _ hh _).mono fun _ _ ⟨a, b⟩ => ⟨a, b.symm⟩)))
        clear s1 s2
        go_wp2_with fail
        go_ret3
        exact ⟨by rw [HX.out]; exact ⟨_, _, rfl⟩, Below.trans HB.out (Gr.drewN (Gr.refl _) _ |>.below.mono HB.out.size)⟩
      · have c1 : (((s[k]).toNat : Int) == 37) = true := eqT hc
        have c2 : (((s[k]).toNat : Int) == 34) = false := eqF (n := 34) (by omega)
        have hv1 : vchB (s[k]).toNat = true := by rw [hc]; rfl
        have q : (k : Int) + 2 < (s.size : Int) := by omega
        have l1 := hexV_le _ hh1
        have l2 := hexV_le _ hh2
        have HXI := hid (show ((hexV (s[k + 1]).toNat : Int) * 16 + (hexV (s[k + 2]).toNat : Int)) = ((UInt8.ofNat (hexV (s[k + 1]).toNat * 16 + hexV (s[k + 2]).toNat)).toNat : Int) by rw [UInt8.toNat_ofNat', Nat.mod_eq_of_lt (by omega)]; omega)
        clear hc hv l1 l2
        have HXE := hid hx
        clear hx
        cases hf : fullL (p ++ [UInt8.ofNat (hexV (s[k + 1]).toNat * 16 + hexV (s[k + 2]).toNat)])
        · have HN := hid (show dspP (p ++ [UInt8.ofNat (hexV (s[k + 1]).toNat * 16 + hexV (s[k + 2]).toNat)]) (dspT ((bl s).drop (k + 3))) = R by rw [← hr.out, ← HXE.out, dspP_pend _ hf])
          have HCH := hid (chain_next hch.out hf)
          go_wp2_with (first | (go_at_call 87; refine (isVChar_any _ _).mono ?_; rintro e w' ⟨rfl, rfl⟩) | (go_at_call 88; refine (isSP_any _ _).mono ?_; rintro e w' ⟨rfl, rfl⟩))
          have s1 : IntKind.i64.wrap ((k : Int) + 1) = (k : Int) + 1 := IntWalk.i64_in _ (by omega)
          have s2 : IntKind.i64.wrap ((k : Int) + 2) = (k : Int) + 2 := IntWalk.i64_in _ (by omega)
          have s3 : ((k : Int) + 1).toNat = k + 1 := by omega
          have s4 : ((k : Int) + 2).toNat = k + 2 := by omega
          have s5 : (0 : Int) ≤ (k : Int) + 1 := by omega
          have s6 : (0 : Int) ≤ (k : Int) + 2 := by omega
          have s7 : (k : Int) + 1 < (s.size : Int) := by omega
          go_quiet ((go_at_call 64; exact Calls.quiet_of_same ((hex2_yes _ _ hh1 hh2 _).mono fun _ _ ⟨a, b⟩ => ⟨a, b.symm⟩)))
          rename_i nq
          clear s1 s2
          have HBX := hid (Below.trans HB.out (((Gr.refl _).drewN nq).below.mono HB.out.size))
          have HDX := hid (HD.out.gr ((Gr.refl _).drewN nq))
          have HTX := hid (tabs_below hT1.out (((Gr.refl _).drewN nq).below.mono HB.out.size) hw)
          go_wp2_with fail
          refine (clo1 w.heap.size w.heap.size (w.heap.size + 1) p (UInt8.ofNat (hexV (s[k + 1]).toNat * 16 + hexV (s[k + 2]).toNat)) _ HXI.out _ (chain_le hch.out) HTX.out hw (Nat.le_refl _) (by omega) (by omega) HDX.out hf).mono ?_
          rintro e w1 ⟨hb1, rfl, hd1⟩
          go_wp2_with fail
          go_roundw
          case rel => exact ⟨k + 3, _, by omega, by go_num, HCH, hd1, HN, HBX.out.trans hb1⟩
          case measure => simp [intOf]; omega
        · by_cases hd : (decL (p ++ [UInt8.ofNat (hexV (s[k + 1]).toNat * 16 + hexV (s[k + 2]).toNat)])).1 = 65533
          · have HN := hid (show R = none by rw [← hr.out, ← HXE.out, dspP_bad _ hf hd])
            go_wp2_with (first | (go_at_call 87; refine (isVChar_any _ _).mono ?_; rintro e w' ⟨rfl, rfl⟩) | (go_at_call 88; refine (isSP_any _ _).mono ?_; rintro e w' ⟨rfl, rfl⟩))
            have s1 : IntKind.i64.wrap ((k : Int) + 1) = (k : Int) + 1 := IntWalk.i64_in _ (by omega)
            have s2 : IntKind.i64.wrap ((k : Int) + 2) = (k : Int) + 2 := IntWalk.i64_in _ (by omega)
            have s3 : ((k : Int) + 1).toNat = k + 1 := by omega
            have s4 : ((k : Int) + 2).toNat = k + 2 := by omega
            have s5 : (0 : Int) ≤ (k : Int) + 1 := by omega
            have s6 : (0 : Int) ≤ (k : Int) + 2 := by omega
            have s7 : (k : Int) + 1 < (s.size : Int) := by omega
            go_quiet ((go_at_call 64; exact Calls.quiet_of_same ((hex2_yes _ _ hh1 hh2 _).mono fun _ _ ⟨a, b⟩ => ⟨a, b.symm⟩)))
            rename_i nq
            clear s1 s2
            have HBX := hid (Below.trans HB.out (((Gr.refl _).drewN nq).below.mono HB.out.size))
            have HDX := hid (HD.out.gr ((Gr.refl _).drewN nq))
            have HTX := hid (tabs_below hT1.out (((Gr.refl _).drewN nq).below.mono HB.out.size) hw)
            go_wp2_with fail
            refine (clo2 w.heap.size w.heap.size (w.heap.size + 1) p (UInt8.ofNat (hexV (s[k + 1]).toNat * 16 + hexV (s[k + 2]).toNat)) _ HXI.out _ (chain_le hch.out) HTX.out hw (Nat.le_refl _) (by omega) (by omega) HDX.out hf hd).mono ?_
            rintro e w1 ⟨hb1, rfl⟩
            go_wp2_with fail
            go_ret3
            exact ⟨by rw [HN.out]; exact ⟨_, _, rfl⟩, HBX.out.trans hb1⟩
          · have HN := hid (show dspP [] (dspT ((bl s).drop (k + 3))) = R by rw [← hr.out, ← HXE.out, dspP_full _ hf hd])
            go_wp2_with (first | (go_at_call 87; refine (isVChar_any _ _).mono ?_; rintro e w' ⟨rfl, rfl⟩) | (go_at_call 88; refine (isSP_any _ _).mono ?_; rintro e w' ⟨rfl, rfl⟩))
            have s1 : IntKind.i64.wrap ((k : Int) + 1) = (k : Int) + 1 := IntWalk.i64_in _ (by omega)
            have s2 : IntKind.i64.wrap ((k : Int) + 2) = (k : Int) + 2 := IntWalk.i64_in _ (by omega)
            have s3 : ((k : Int) + 1).toNat = k + 1 := by omega
            have s4 : ((k : Int) + 2).toNat = k + 2 := by omega
            have s5 : (0 : Int) ≤ (k : Int) + 1 := by omega
            have s6 : (0 : Int) ≤ (k : Int) + 2 := by omega
            have s7 : (k : Int) + 1 < (s.size : Int) := by omega
            go_quiet ((go_at_call 64; exact Calls.quiet_of_same ((hex2_yes _ _ hh1 hh2 _).mono fun _ _ ⟨a, b⟩ => ⟨a, b.symm⟩)))
            rename_i nq
            clear s1 s2
            have HBX := hid (Below.trans HB.out (((Gr.refl _).drewN nq).below.mono HB.out.size))
            have HDX := hid (HD.out.gr ((Gr.refl _).drewN nq))
            have HTX := hid (tabs_below hT1.out (((Gr.refl _).drewN nq).below.mono HB.out.size) hw)
            go_wp2_with fail
            refine (clo3 w.heap.size w.heap.size (w.heap.size + 1) p (UInt8.ofNat (hexV (s[k + 1]).toNat * 16 + hexV (s[k + 2]).toNat)) _ HXI.out _ hch.out HTX.out hw (Nat.le_refl _) (by omega) (by omega) HDX.out hf hd).mono ?_
            rintro e w1 ⟨hb1, rfl, hd1⟩
            go_wp2_with fail
            go_roundw
            case rel => exact ⟨k + 3, [], by omega, by go_num, hid trivial, hd1, HN, HBX.out.trans hb1⟩
            case measure => simp [intOf]; omega
      · have c1 : (((s[k]).toNat : Int) == 37) = false := eqF hp
        have c2 : (((s[k]).toNat : Int) == 34) = false := eqF hc
        have HXI := hid (show ((s[k]).toNat : Int) = ((s[k]).toNat : Int) from rfl)
        have HDX := HD
        have HTX := hT1
        have HBX := HB
        rw [visB_eq] at hv
        clear hc hp
        cases hv1 : vchB (s[k]).toNat <;> cases hv2 : spB (s[k]).toNat
        · rw [hv1, hv2] at hv; cases hv
        all_goals
          clear hv
          have HXE := hid hx
          clear hx
          cases hf : fullL (p ++ [s[k]])
          · have HN := hid (show dspP (p ++ [s[k]]) (dspT ((bl s).drop (k + 1))) = R by rw [← hr.out, ← HXE.out, dspP_pend _ hf])
            have HCH := hid (chain_next hch.out hf)
            go_wp2_with (first | (go_at_call 87; refine (isVChar_any _ _).mono ?_; rintro e w' ⟨rfl, rfl⟩) | (go_at_call 88; refine (isSP_any _ _).mono ?_; rintro e w' ⟨rfl, rfl⟩))
            refine (clo1 w.heap.size w.heap.size (w.heap.size + 1) p (s[k]) _ rfl _ (chain_le hch.out) HTX.out hw (Nat.le_refl _) (by omega) (by omega) HDX.out hf).mono ?_
            rintro e w1 ⟨hb1, rfl, hd1⟩
            go_wp2_with fail
            go_roundw
            case rel => exact ⟨k + 1, _, by omega, by go_num, HCH, hd1, HN, HBX.out.trans hb1⟩
            case measure => simp [intOf]; omega
          · by_cases hd : (decL (p ++ [s[k]])).1 = 65533
            · have HN := hid (show R = none by rw [← hr.out, ← HXE.out, dspP_bad _ hf hd])
              go_wp2_with (first | (go_at_call 87; refine (isVChar_any _ _).mono ?_; rintro e w' ⟨rfl, rfl⟩) | (go_at_call 88; refine (isSP_any _ _).mono ?_; rintro e w' ⟨rfl, rfl⟩))
              refine (clo2 w.heap.size w.heap.size (w.heap.size + 1) p (s[k]) _ rfl _ (chain_le hch.out) HTX.out hw (Nat.le_refl _) (by omega) (by omega) HDX.out hf hd).mono ?_
              rintro e w1 ⟨hb1, rfl⟩
              go_wp2_with fail
              go_ret3
              exact ⟨by rw [HN.out]; exact ⟨_, _, rfl⟩, HBX.out.trans hb1⟩
            · have HN := hid (show dspP [] (dspT ((bl s).drop (k + 1))) = R by rw [← hr.out, ← HXE.out, dspP_full _ hf hd])
              go_wp2_with (first | (go_at_call 87; refine (isVChar_any _ _).mono ?_; rintro e w' ⟨rfl, rfl⟩) | (go_at_call 88; refine (isSP_any _ _).mono ?_; rintro e w' ⟨rfl, rfl⟩))
              refine (clo3 w.heap.size w.heap.size (w.heap.size + 1) p (s[k]) _ rfl _ hch.out HTX.out hw (Nat.le_refl _) (by omega) (by omega) HDX.out hf hd).mono ?_
              rintro e w1 ⟨hb1, rfl, hd1⟩
              go_wp2_with fail
              go_roundw
              case rel => exact ⟨k + 1, [], by omega, by go_num, hid trivial, hd1, HN, HBX.out.trans hb1⟩
              case measure => simp [intOf]; omega
    · have HX := hid (show R = none by rw [← hr.out, bl_end s k hlt]; rfl)
      go_wp2_with fail
      go_ret3
      exact ⟨by rw [HX.out]; exact ⟨_, _, rfl⟩, HB.out⟩

theorem tabs_two {w : World} (h : Lib.Utf8Tabs 0 1 w) : 2 ≤ w.heap.size := World.block_lt_of_cell? _ _ (h.2 0 (by omega)).1

set_option maxHeartbeats 1000000 in
theorem consumeDisplayString_any (s : ByteArray) (w : World) (hs : s.size ≤ 4294967296) (hT : Lib.Utf8Tabs 0 1 w) :
    Calls Tryd.prog 63 #[.string s] w fun e w' => OptPost s (dsp (bl s)) e ∧ Gr w w' := by
  have hw := tabs_two hT
  have hmf : ∀ (fn : Fn) (first cap : Array Value) (w : World), (Instr.makeFunc fn first cap).run Tryd.prog w = .ok (.func fn first cap) w := fun _ _ _ _ => rfl
  by_cases h1 : 1 < s.size
  · have hb := bl_two s h1
    by_cases hx : (s.extract 0 2).toList = [37, 34]
    · have h2 : dspS (bl s) = dspT ((bl s).drop 2) := by
        rw [bl_toList, bl_upto, hb] at hx
        simp only [List.take_succ_cons, List.take_zero, List.cons.injEq, and_true] at hx
        conv => lhs; rw [hb, dspS, if_pos ⟨hx.1, hx.2⟩]
      rw [dsp_eq, h2]
      exact dsp_core s _ w hs hT hw h1 hx (hid rfl)
    · have hX : dsp (bl s) = none := by
        have h2 : dspS (bl s) = none := by
          rw [bl_toList, bl_upto, hb] at hx
          simp only [List.take_succ_cons, List.take_zero, List.cons.injEq, and_true] at hx
          rw [hb, dspS, if_neg hx]
        rw [dsp_eq, h2]
        rfl
      have HX := hid hX
      have hx1 : ((s.extract 0 2).toList == [37, 34]) = false := by rw [beq_eq_false_iff_ne]; exact hx
      have hx2 : ((s.extract 0 2).toList != [37, 34]) = true := by rw [bne_iff_ne]; exact hx
      clear hb hX hT hx
      go_enter Tryd.func63, Tryd.ntmps63
      go_wp2_with fail
      go_ret3
      exact ⟨by rw [HX.out]; exact ⟨_, _, rfl⟩, ((Gr.refl _).alloc _).alloc _⟩
  · have hX : dsp (bl s) = none := by
      have h2 : dspS (bl s) = none := by
        have hl := bl_length s
        match hb : bl s with
        | [] => rfl
        | [_] => rfl
        | _ :: _ :: _ => rw [hb] at hl; simp at hl; omega
      rw [dsp_eq, h2]
      rfl
    have HX := hid hX
    have q : (s.size : Int) ≤ 1 := by omega
    clear hX hT
    go_enter Tryd.func63, Tryd.ntmps63
    go_wp2_with fail
    go_ret3
    exact ⟨by rw [HX.out]; exact ⟨_, _, rfl⟩, ((Gr.refl _).alloc _).alloc _⟩

end Go.Proofs.YtohjnegllfdemaaDoor
