/-
  The walks of decOctetHex and its closure.
-/
import Derived.Test.YtohjnegllfdemaaDoorSDsp
set_option maxRecDepth 100000
namespace Go.Proofs.YtohjnegllfdemaaDoor
open Go.RowKit

theorem hex1_yes (n : Nat) (h : hexB n = true) (w : World) :
    Calls Tryd.prog 89 #[.int .u8 n] w fun e w' => e = .returned (.tuple #[.int .u8 (hexV n : Nat), .bool true]) ∧ w = w' := by
  cases hd : digB n
  · have hv : ((hexV n : Nat) : Int) = (n : Int) - 97 + 10 := by
      simp [hexB, hd] at h
      simp [hexV, hd]
      omega
    have h1 : 97 ≤ n ∧ n ≤ 102 := by simpa [hexB, hd] using h
    obtain ⟨h1, h2⟩ := h1
    have g2 : decide ((n : Int) ≤ 102) = true := by simp; omega
    rw [hv]
    clear hv h
    go_enter Tryd.func89, Tryd.ntmps89
    go_wp2_with (go_at_call 90; refine (isDigit_any _ _).mono ?_; rintro e w' ⟨rfl, rfl⟩)
    go_ret2
    exact ⟨rfl, rfl⟩
  · have hv : ((hexV n : Nat) : Int) = (n : Int) - 48 := by
      have h1 := hd
      simp [digB] at h1
      simp [hexV, hd]
      omega
    have h1 : 48 ≤ n ∧ n ≤ 57 := by simpa [digB] using hd
    obtain ⟨h1, h2⟩ := h1
    rw [hv]
    clear hv h
    go_enter Tryd.func89, Tryd.ntmps89
    go_wp2_with (go_at_call 90; refine (isDigit_any _ _).mono ?_; rintro e w' ⟨rfl, rfl⟩)
    go_ret2
    exact ⟨rfl, rfl⟩
theorem hex1_no (n : Nat) (h : hexB n = false) (w : World) :
    Calls Tryd.prog 89 #[.int .u8 n] w fun e w' => e = .returned (.tuple #[.int .u8 0, .bool false]) ∧ w = w' := by
  have hd : digB n = false := by
    cases hd : digB n
    · rfl
    · simp [hexB, hd] at h
  by_cases h1 : 97 ≤ n
  · have h2 : ¬ n ≤ 102 := by intro h2; simp [hexB, hd, h1, h2] at h
    have g2 : decide ((n : Int) ≤ 102) = false := by simp; omega
    clear h
    go_enter Tryd.func89, Tryd.ntmps89
    go_wp2_with (go_at_call 90; refine (isDigit_any _ _).mono ?_; rintro e w' ⟨rfl, rfl⟩)
    go_ret2
    exact ⟨rfl, rfl⟩
  · clear h
    go_enter Tryd.func89, Tryd.ntmps89
    go_wp2_with (go_at_call 90; refine (isDigit_any _ _).mono ?_; rintro e w' ⟨rfl, rfl⟩)
    go_ret2
    exact ⟨rfl, rfl⟩

theorem hex2_no (a b : Nat) (h : (hexB a && hexB b) = false) (w : World) :
    Calls Tryd.prog 64 #[.int .u8 a, .int .u8 b] w fun e w' => e = .returned (.tuple #[.int .u8 0, .bool false]) ∧ w = w' := by
  cases h1 : hexB a
  · go_enter Tryd.func64, Tryd.ntmps64
    go_wp2_with fail
    refine (hex1_no _ h1 _).mono ?_
    rintro e w' ⟨rfl, rfl⟩
    go_wp2_with fail
    go_ret2
    exact ⟨rfl, rfl⟩
  · have h2 : hexB b = false := by simpa [h1] using h
    go_enter Tryd.func64, Tryd.ntmps64
    go_wp2_with fail
    refine (hex1_yes _ h1 _).mono ?_
    rintro e w' ⟨rfl, rfl⟩
    go_wp2_with fail
    refine (hex1_no _ h2 _).mono ?_
    rintro e w' ⟨rfl, rfl⟩
    go_wp2_with fail
    go_ret2
    exact ⟨rfl, rfl⟩
theorem hex2_yes (a b : Nat) (h1 : hexB a = true) (h2 : hexB b = true) (w : World) :
    Calls Tryd.prog 64 #[.int .u8 a, .int .u8 b] w fun e w' => e = .returned (.tuple #[.int .u8 (hexV a * 16 + hexV b : Nat), .bool true]) ∧ w = w' := by
  have l1 := hexV_le _ h1
  have l2 := hexV_le _ h2
  have o1 := or16 (hexV a) (hexV b) l1 l2
  go_enter Tryd.func64, Tryd.ntmps64
  go_wp2_with fail
  refine (hex1_yes _ h1 _).mono ?_
  rintro e w' ⟨rfl, rfl⟩
  go_wp2_with fail
  refine (hex1_yes _ h2 _).mono ?_
  rintro e w' ⟨rfl, rfl⟩
  go_wp2_with fail
  go_ret2
  refine ⟨?_, rfl⟩
  simp
end Go.Proofs.YtohjnegllfdemaaDoor
