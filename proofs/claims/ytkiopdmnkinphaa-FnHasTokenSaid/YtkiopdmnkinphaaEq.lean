/-
  The walk of tokenEqual.
-/
import Derived.Test.YtkiopdmnkinphaaFold
import Derived.Lib.OthersKept
set_option maxRecDepth 100000
namespace Go.Proofs.Ytkiopdmnkinphaa
open Go.RowKit

def teq : Bs → Bs → Bool
  | [], [] => true
  | c :: r, d :: t => decide (c.toNat < 128) && (lowN c.toNat == lowN d.toNat) && teq r t
  | _, _ => false

theorem teq_fold (l t : Bs) (ht : asc t = true) : teq l t = (match foldP t, foldP l with | some a, some b => b == a | _, _ => false) := by
  have hft : foldP t = some (t.map lowU) := by rw [foldP, if_pos ht]
  rw [hft]
  unfold foldP
  clear hft ht
  induction l generalizing t with
  | nil => cases t <;> simp [teq, asc]
  | cons c r ih =>
    cases t with
    | nil =>
      simp only [teq, List.map_nil, List.map_cons]
      split
      · rename_i h1 h2
        injection h1 with h1
        split at h2
        · injection h2 with h2
          subst h1 h2
          rfl
        · cases h2
      · rfl
    | cons d t' =>
      rw [teq, ih t']
      have hlow : (lowN c.toNat == lowN d.toNat) = (lowU c == lowU d) := by
        rw [← lowU_toNat, ← lowU_toNat, Bool.eq_iff_iff]
        simp [UInt8.toNat_inj]
      rw [hlow]
      have ha : asc (c :: r) = (decide (c.toNat < 128) && asc r) := rfl
      rw [ha]
      cases decide (c.toNat < 128) <;> cases asc r <;> simp

theorem teq_len {l t : Bs} (h : l.length ≠ t.length) : teq l t = false := by
  induction l generalizing t with
  | nil => cases t <;> simp_all [teq]
  | cons c r ih =>
    cases t with
    | nil => rfl
    | cons d t' => rw [teq, ih (by simpa using h), Bool.and_false]

theorem teq_get (s t : ByteArray) (k : Nat) (hs : k < s.size) (ht : k < t.size) : teq ((bl s).drop k) ((bl t).drop k) = (decide ((s[k]).toNat < 128) && (lowN (s[k]).toNat == lowN (t[k]).toNat) && teq ((bl s).drop (k + 1)) ((bl t).drop (k + 1))) := by
  rw [bl_get s k hs, bl_get t k ht, teq]
theorem teq_end (s t : ByteArray) (k : Nat) (hs : ¬ k < s.size) (hl : s.size = t.size) : teq ((bl s).drop k) ((bl t).drop k) = true := by
  rw [bl_end s k hs, bl_end t k (by omega), teq]

set_option maxHeartbeats 1000000 in
theorem tokenEqual_any (s t : ByteArray) (w : World) :
    Calls Try.prog 27 #[.string s, .string t] w fun e w' => e = .returned (.bool (teq (bl s) (bl t))) ∧ Gr w w' := by
  obtain ⟨R, hR⟩ : ∃ R, teq (bl s) (bl t) = R := ⟨_, rfl⟩
  by_cases hl : s.size = t.size
  · rw [hR]
    have HR := hid hR
    clear hR
    have c0 : ((s.size : Int) != (t.size : Int)) = false := neF hl
    go_enter Try.func27, Try.ntmps27
    go_wp2
    clear c0
    go_loopw [] (fun wr => ∃ k : Nat, k ≤ s.size ∧ wr.heap[w.heap.size]? = some (.stringIter s k) ∧ Hid (teq ((bl s).drop k) ((bl t).drop k) = R) ∧ Gr w wr) (fun wr => s.size - wr.iterPos w.heap.size)
    case atStart => exact ⟨0, Nat.zero_le _, World.iter_heap w s 0, HR, (Gr.refl w).alloc _⟩
    case round =>
      obtain ⟨k, hk, hit, hr, hg⟩ := hrel
      by_cases hlt : k < s.size
      · have hlt2 : k < t.size := by omega
        have hg2 := Lib.below_iterAt hg (k := w.heap.size) (Nat.le_refl _) s
        by_cases ha : (s[k]).toNat < 128
        · have hnx : ∀ ty, (Instr.next (.pointer (some ⟨w.heap.size, 0, none⟩)) true ty).run Try.prog wr = _ := fun ty => Lib.run_next_ascii_at wr w.heap.size s k ty hit hlt ha
          have hit2 := Lib.iterAt_heap wr w.heap.size s k (k + 1) hit
          cases hq : ((lowN (s[k]).toNat : Int) != (lowN (t[k]).toNat : Int))
          · have HN := hid (show teq ((bl s).drop (k + 1)) ((bl t).drop (k + 1)) = R by
              have hq' : (lowN (s[k]).toNat == lowN (t[k]).toNat) = true := by have := bne_eq_false_iff_eq.1 hq; rw [beq_iff_eq]; omega
              have := hr.out
              rw [teq_get s t k hlt hlt2, hq'] at this
              simpa [ha] using this)
            have hb := t[k].toNat_lt
            go_wp2_with fail
            go_quiet ((go_at_call 30; exact Calls.quiet_of_same ((lowerASCII_any _ (by omega) _).mono fun _ _ ⟨a, b⟩ => ⟨a, b.symm⟩)))
            go_wp2
            go_roundw
            case rel => exact ⟨k + 1, by omega, hit2, HN, Gr.drewN (hg2 _) _⟩
            case measure =>
              have e1 : wr.iterPos w.heap.size = k := by simp [World.iterPos, hit]
              have e2 : (wr.iterAt w.heap.size s (k + 1)).iterPos w.heap.size = k + 1 := by simp [World.iterPos, hit2]
              have e3 : ∀ n, ((wr.iterAt w.heap.size s (k + 1)).drewN n).iterPos w.heap.size = k + 1 := fun n => e2
              simp only [e1, e3]
              omega
          · have HN := hid (show false = R by
              have hq' : (lowN (s[k]).toNat == lowN (t[k]).toNat) = false := by have := bne_iff_ne.1 hq; rw [beq_eq_false_iff_ne]; omega
              have := hr.out
              rw [teq_get s t k hlt hlt2, hq'] at this
              simpa [ha] using this)
            have hb := t[k].toNat_lt
            go_wp2_with fail
            go_quiet ((go_at_call 30; exact Calls.quiet_of_same ((lowerASCII_any _ (by omega) _).mono fun _ _ ⟨a, b⟩ => ⟨a, b.symm⟩)))
            go_wp2
            go_ret
            exact ⟨ret_bool HN.out, Gr.drewN (hg2 _) _⟩
        · have hd := decode_high s k hlt (by omega)
          have hd2 := decode_le s k
          have hnx : ∀ ty, (Instr.next (.pointer (some ⟨w.heap.size, 0, none⟩)) true ty).run Try.prog wr = _ := fun ty => Lib.run_next_any_at wr w.heap.size s k ty hit hlt
          have HN := hid (show false = R by
            have := hr.out
            rw [teq_get s t k hlt hlt2] at this
            simpa [ha] using this)
          go_wp2
          go_ret
          exact ⟨ret_bool HN.out, hg2 _⟩
      · have hnx : ∀ ty, (Instr.next (.pointer (some ⟨w.heap.size, 0, none⟩)) true ty).run Try.prog wr = _ := fun ty => Lib.run_next_end_at wr w.heap.size s k ty hit hlt
        have HE := hid ((teq_end s t k hlt hl).symm.trans hr.out)
        go_wp2
        go_ret
        exact ⟨ret_bool HE.out, hg⟩
  · rw [teq_len (by rw [bl_length, bl_length]; exact hl)]
    have c0 : ((s.size : Int) != (t.size : Int)) = true := neT hl
    go_enter Try.func27, Try.ntmps27
    go_wp2
    go_ret
    exact ⟨rfl, Gr.refl _⟩
end Go.Proofs.Ytkiopdmnkinphaa
