/-
  The walk of the reference's told.
-/
import Derived.Test.YtohjnegllfdemaaDoorPars4
set_option maxRecDepth 100000
namespace Go.Proofs.YtohjnegllfdemaaDoor
open Go.RowKit

/-- What told says: 2: left out; 0: none; 1: one. -/
def ToldPost (s : ByteArray) (k : Nat) (bad odd : Bool) (w : World) (e : Ending) (w' : World) : Prop :=
  (∃ q : Int, e = .returned (.int .i64 q) ∧ (q = 2 ∨ (q = 0 ∧ odd = false ∧ (bad = true ∨ k < s.size)) ∨ (q = 1 ∧ odd = false ∧ bad = false ∧ ¬ k < s.size))) ∧ Gr w w'

set_option maxHeartbeats 1000000 in
theorem told_first (b k : Nat) (s : ByteArray) (bad odd : Bool) (w : World) (_hs : s.size ≤ 2147483647) (h : PS w b s k bad odd) (h0 : 0 < s.size) (hne : s.toList.isEmpty = false) (a1 : amongB (s[0]).toNat [32, 9] = true) :
    Calls Tryd.prog 35 #[.pointer (some ⟨b, 0, none⟩)] w fun e w' => ToldPost s k bad odd w e w' := by
  have c0 := h.c0
  have c1 := h.c1
  have c2 := h.c2
  have c3 := h.c3
  clear h
  have hne2 : ¬ s.toList = [] := by intro e; rw [e] at hne; cases hne
  go_enter Tryd.func35, Tryd.ntmps35
  go_wp2_with fail
  go_quiet ((go_at_call 31; exact Calls.quiet_of_same ((among_l _ _ [32, 9] _ (by decide) rfl).mono fun _ _ ⟨a, b⟩ => ⟨by rw [a, a1], b.symm⟩)))
  go_wp2_with fail
  go_ret
  exact ⟨⟨2, rfl, .inl rfl⟩, (Gr.refl _).drewN _⟩

set_option maxHeartbeats 1000000 in
theorem told_last (b k : Nat) (s : ByteArray) (bad odd : Bool) (w : World) (hs : s.size ≤ 2147483647) (h : PS w b s k bad odd) (h0 : 0 < s.size) (hne : s.toList.isEmpty = false) (a1 : amongB (s[0]).toNat [32, 9] = false) (a2 : amongB (s[s.size - 1]).toNat [32, 9] = true) :
    Calls Tryd.prog 35 #[.pointer (some ⟨b, 0, none⟩)] w fun e w' => ToldPost s k bad odd w e w' := by
  have c0 := h.c0
  have c1 := h.c1
  have c2 := h.c2
  have c3 := h.c3
  clear h
  have hne2 : ¬ s.toList = [] := by intro e; rw [e] at hne; cases hne
  have s2 : (0 : Int) ≤ (s.size : Int) - 1 := by omega
  have s5 : (1 : Int) ≤ (s.size : Int) := by omega
  have s3 : ((s.size : Int) - 1).toNat = s.size - 1 := by omega
  have s4 : (s.size : Int) - 1 < (s.size : Int) := by omega
  have s1 : IntKind.i64.wrap ((s.size : Int) - 1) = (s.size : Int) - 1 := IntWalk.i64_in _ (by omega)
  go_enter Tryd.func35, Tryd.ntmps35
  go_wp2_with fail
  go_quiet ((go_at_call 31; exact Calls.quiet_of_same ((among_l _ _ [32, 9] _ (by decide) rfl).mono fun _ _ ⟨a, b⟩ => ⟨a, b.symm⟩)))
  go_wp2_with fail
  go_ret
  exact ⟨⟨2, rfl, .inl rfl⟩, (Gr.refl _).drewN _⟩

set_option maxHeartbeats 1000000 in
theorem told_mid_odd (b k : Nat) (s : ByteArray) (bad : Bool) (w : World) (hs : s.size ≤ 2147483647) (h : PS w b s k bad true) (h0 : 0 < s.size) (hne : s.toList.isEmpty = false) (a1 : amongB (s[0]).toNat [32, 9] = false) (a2 : amongB (s[s.size - 1]).toNat [32, 9] = false) :
    Calls Tryd.prog 35 #[.pointer (some ⟨b, 0, none⟩)] w fun e w' => ToldPost s k bad true w e w' := by
  have c0 := h.c0
  have c1 := h.c1
  have c2 := h.c2
  have c3 := h.c3
  clear h
  have hne2 : ¬ s.toList = [] := by intro e; rw [e] at hne; cases hne
  have s2 : (0 : Int) ≤ (s.size : Int) - 1 := by omega
  have s5 : (1 : Int) ≤ (s.size : Int) := by omega
  have s3 : ((s.size : Int) - 1).toNat = s.size - 1 := by omega
  have s4 : (s.size : Int) - 1 < (s.size : Int) := by omega
  have s1 : IntKind.i64.wrap ((s.size : Int) - 1) = (s.size : Int) - 1 := IntWalk.i64_in _ (by omega)
  go_enter Tryd.func35, Tryd.ntmps35
  go_wp2_with fail
  go_quiet ((go_at_call 31; exact Calls.quiet_of_same ((among_l _ _ [32, 9] _ (by decide) rfl).mono fun _ _ ⟨a, b⟩ => ⟨a, b.symm⟩)))
  go_wp2_with fail
  go_ret
  exact ⟨⟨2, rfl, .inl rfl⟩, (Gr.refl _).drewN _⟩

set_option maxHeartbeats 1000000 in
theorem told_mid_bad (b k : Nat) (s : ByteArray) (w : World) (hs : s.size ≤ 2147483647) (h : PS w b s k true false) (h0 : 0 < s.size) (hne : s.toList.isEmpty = false) (a1 : amongB (s[0]).toNat [32, 9] = false) (a2 : amongB (s[s.size - 1]).toNat [32, 9] = false) :
    Calls Tryd.prog 35 #[.pointer (some ⟨b, 0, none⟩)] w fun e w' => ToldPost s k true false w e w' := by
  have c0 := h.c0
  have c1 := h.c1
  have c2 := h.c2
  have c3 := h.c3
  clear h
  have hne2 : ¬ s.toList = [] := by intro e; rw [e] at hne; cases hne
  have s2 : (0 : Int) ≤ (s.size : Int) - 1 := by omega
  have s5 : (1 : Int) ≤ (s.size : Int) := by omega
  have s3 : ((s.size : Int) - 1).toNat = s.size - 1 := by omega
  have s4 : (s.size : Int) - 1 < (s.size : Int) := by omega
  have s1 : IntKind.i64.wrap ((s.size : Int) - 1) = (s.size : Int) - 1 := IntWalk.i64_in _ (by omega)
  go_enter Tryd.func35, Tryd.ntmps35
  go_wp2_with fail
  go_quiet ((go_at_call 31; exact Calls.quiet_of_same ((among_l _ _ [32, 9] _ (by decide) rfl).mono fun _ _ ⟨a, b⟩ => ⟨a, b.symm⟩)))
  go_wp2_with fail
  go_quiet (fail)
  go_wp2_with fail
  go_ret
  exact ⟨⟨0, rfl, .inr (.inl ⟨rfl, rfl, .inl rfl⟩)⟩, ((Gr.refl _).drewN _).drewN _⟩

set_option maxHeartbeats 1000000 in
theorem told_mid_more (b k : Nat) (s : ByteArray) (w : World) (hs : s.size ≤ 2147483647) (h : PS w b s k false false) (h0 : 0 < s.size) (hne : s.toList.isEmpty = false) (a1 : amongB (s[0]).toNat [32, 9] = false) (a2 : amongB (s[s.size - 1]).toNat [32, 9] = false) (hlt : (k : Int) < (s.size : Int)) :
    Calls Tryd.prog 35 #[.pointer (some ⟨b, 0, none⟩)] w fun e w' => ToldPost s k false false w e w' := by
  have c0 := h.c0
  have c1 := h.c1
  have c2 := h.c2
  have c3 := h.c3
  clear h
  have hne2 : ¬ s.toList = [] := by intro e; rw [e] at hne; cases hne
  have s2 : (0 : Int) ≤ (s.size : Int) - 1 := by omega
  have s5 : (1 : Int) ≤ (s.size : Int) := by omega
  have s3 : ((s.size : Int) - 1).toNat = s.size - 1 := by omega
  have s4 : (s.size : Int) - 1 < (s.size : Int) := by omega
  have HX := hid (show k < s.size by omega)
  have s1 : IntKind.i64.wrap ((s.size : Int) - 1) = (s.size : Int) - 1 := IntWalk.i64_in _ (by omega)
  go_enter Tryd.func35, Tryd.ntmps35
  go_wp2_with fail
  go_quiet ((go_at_call 31; exact Calls.quiet_of_same ((among_l _ _ [32, 9] _ (by decide) rfl).mono fun _ _ ⟨a, b⟩ => ⟨a, b.symm⟩)))
  go_wp2_with fail
  go_quiet (fail)
  go_wp2_with fail
  go_ret
  exact ⟨⟨0, rfl, .inr (.inl ⟨rfl, rfl, .inr HX.out⟩)⟩, ((Gr.refl _).drewN _).drewN _⟩

set_option maxHeartbeats 1000000 in
theorem told_mid_end (b k : Nat) (s : ByteArray) (w : World) (hs : s.size ≤ 2147483647) (h : PS w b s k false false) (h0 : 0 < s.size) (hne : s.toList.isEmpty = false) (a1 : amongB (s[0]).toNat [32, 9] = false) (a2 : amongB (s[s.size - 1]).toNat [32, 9] = false) (hlt : (s.size : Int) ≤ (k : Int)) :
    Calls Tryd.prog 35 #[.pointer (some ⟨b, 0, none⟩)] w fun e w' => ToldPost s k false false w e w' := by
  have c0 := h.c0
  have c1 := h.c1
  have c2 := h.c2
  have c3 := h.c3
  clear h
  have hne2 : ¬ s.toList = [] := by intro e; rw [e] at hne; cases hne
  have s2 : (0 : Int) ≤ (s.size : Int) - 1 := by omega
  have s5 : (1 : Int) ≤ (s.size : Int) := by omega
  have s3 : ((s.size : Int) - 1).toNat = s.size - 1 := by omega
  have s4 : (s.size : Int) - 1 < (s.size : Int) := by omega
  have HX := hid (show ¬ k < s.size by omega)
  have s1 : IntKind.i64.wrap ((s.size : Int) - 1) = (s.size : Int) - 1 := IntWalk.i64_in _ (by omega)
  go_enter Tryd.func35, Tryd.ntmps35
  go_wp2_with fail
  go_quiet ((go_at_call 31; exact Calls.quiet_of_same ((among_l _ _ [32, 9] _ (by decide) rfl).mono fun _ _ ⟨a, b⟩ => ⟨a, b.symm⟩)))
  go_wp2_with fail
  go_quiet (fail)
  go_wp2_with fail
  go_ret
  exact ⟨⟨1, rfl, .inr (.inr ⟨rfl, rfl, rfl, HX.out⟩)⟩, ((Gr.refl _).drewN _).drewN _⟩

set_option maxHeartbeats 1000000 in
theorem told_empty_odd (b k : Nat) (s : ByteArray) (bad : Bool) (w : World) (_hs : s.size ≤ 2147483647) (h : PS w b s k bad true) (hne : s.toList.isEmpty = true) :
    Calls Tryd.prog 35 #[.pointer (some ⟨b, 0, none⟩)] w fun e w' => ToldPost s k bad true w e w' := by
  have c0 := h.c0
  have c1 := h.c1
  have c2 := h.c2
  have c3 := h.c3
  clear h
  have hne2 : s.toList = [] := by simpa using hne
  go_enter Tryd.func35, Tryd.ntmps35
  go_wp2_with fail
  go_quiet (fail)
  go_wp2_with fail
  go_ret
  exact ⟨⟨2, rfl, .inl rfl⟩, (Gr.refl _).drewN _⟩

set_option maxHeartbeats 1000000 in
theorem told_empty_bad (b k : Nat) (s : ByteArray) (w : World) (_hs : s.size ≤ 2147483647) (h : PS w b s k true false) (hne : s.toList.isEmpty = true) :
    Calls Tryd.prog 35 #[.pointer (some ⟨b, 0, none⟩)] w fun e w' => ToldPost s k true false w e w' := by
  have c0 := h.c0
  have c1 := h.c1
  have c2 := h.c2
  have c3 := h.c3
  clear h
  have hne2 : s.toList = [] := by simpa using hne
  go_enter Tryd.func35, Tryd.ntmps35
  go_wp2_with fail
  go_quiet (fail)
  go_wp2_with fail
  go_quiet (fail)
  go_wp2_with fail
  go_ret
  exact ⟨⟨0, rfl, .inr (.inl ⟨rfl, rfl, .inl rfl⟩)⟩, ((Gr.refl _).drewN _).drewN _⟩

set_option maxHeartbeats 1000000 in
theorem told_empty_more (b k : Nat) (s : ByteArray) (w : World) (_hs : s.size ≤ 2147483647) (h : PS w b s k false false) (hne : s.toList.isEmpty = true) (hlt : (k : Int) < (s.size : Int)) :
    Calls Tryd.prog 35 #[.pointer (some ⟨b, 0, none⟩)] w fun e w' => ToldPost s k false false w e w' := by
  have c0 := h.c0
  have c1 := h.c1
  have c2 := h.c2
  have c3 := h.c3
  clear h
  have hne2 : s.toList = [] := by simpa using hne
  have HX := hid (show k < s.size by omega)
  go_enter Tryd.func35, Tryd.ntmps35
  go_wp2_with fail
  go_quiet (fail)
  go_wp2_with fail
  go_quiet (fail)
  go_wp2_with fail
  go_ret
  exact ⟨⟨0, rfl, .inr (.inl ⟨rfl, rfl, .inr HX.out⟩)⟩, ((Gr.refl _).drewN _).drewN _⟩

set_option maxHeartbeats 1000000 in
theorem told_empty_end (b k : Nat) (s : ByteArray) (w : World) (_hs : s.size ≤ 2147483647) (h : PS w b s k false false) (hne : s.toList.isEmpty = true) (hlt : (s.size : Int) ≤ (k : Int)) :
    Calls Tryd.prog 35 #[.pointer (some ⟨b, 0, none⟩)] w fun e w' => ToldPost s k false false w e w' := by
  have c0 := h.c0
  have c1 := h.c1
  have c2 := h.c2
  have c3 := h.c3
  clear h
  have hne2 : s.toList = [] := by simpa using hne
  have HX := hid (show ¬ k < s.size by omega)
  go_enter Tryd.func35, Tryd.ntmps35
  go_wp2_with fail
  go_quiet (fail)
  go_wp2_with fail
  go_quiet (fail)
  go_wp2_with fail
  go_ret
  exact ⟨⟨1, rfl, .inr (.inr ⟨rfl, rfl, rfl, HX.out⟩)⟩, ((Gr.refl _).drewN _).drewN _⟩

theorem told_any (b k : Nat) (s : ByteArray) (bad odd : Bool) (w : World) (hs : s.size ≤ 2147483647) (h : PS w b s k bad odd) :
    Calls Tryd.prog 35 #[.pointer (some ⟨b, 0, none⟩)] w fun e w' => ToldPost s k bad odd w e w' := by
  by_cases h0 : 0 < s.size
  · have hne := notEmpty h0
    cases a1 : amongB (s[0]).toNat [32, 9]
    · cases a2 : amongB (s[s.size - 1]).toNat [32, 9]
      · cases odd
        · cases bad
          · by_cases hlt : k < s.size
            · exact told_mid_more b k s w hs h h0 hne a1 a2 (by omega)
            · exact told_mid_end b k s w hs h h0 hne a1 a2 (by omega)
          · exact told_mid_bad b k s w hs h h0 hne a1 a2
        · exact told_mid_odd b k s bad w hs h h0 hne a1 a2
      · exact told_last b k s bad odd w hs h h0 hne a1 a2
    · exact told_first b k s bad odd w hs h h0 hne a1
  · have hne : s.toList.isEmpty = true := by
      rw [bl_toList, List.isEmpty_iff]
      exact List.eq_nil_of_length_eq_zero (by rw [bl_length]; omega)
    cases odd
    · cases bad
      · by_cases hlt : k < s.size
        · exact told_empty_more b k s w hs h hne (by omega)
        · exact told_empty_end b k s w hs h hne (by omega)
      · exact told_empty_bad b k s w hs h hne
    · exact told_empty_odd b k s bad w hs h hne

end Go.Proofs.YtohjnegllfdemaaDoor
