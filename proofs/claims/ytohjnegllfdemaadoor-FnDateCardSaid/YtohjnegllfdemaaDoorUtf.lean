/-
  UTF-8: the size of a character; the walks of spec.size and spec.Valid.
-/
import Derived.Test.YtohjnegllfdemaaDoorSByt
set_option maxRecDepth 100000
namespace Go.Proofs.YtohjnegllfdemaaDoor
open Go.RowKit

/-- A byte that continues a character. -/
def contB (n : Nat) : Bool := decide (128 ≤ n) && decide (n ≤ 191)
def u8two : Bs → Bool
  | b :: _ => contB b.toNat
  | _ => false
def u8three (a : Nat) : Bs → Bool
  | b :: c :: _ => contB b.toNat && contB c.toNat && !(a == 224 && decide (b.toNat < 160)) && !(a == 237 && decide (160 ≤ b.toNat))
  | _ => false
def u8four (a : Nat) : Bs → Bool
  | b :: c :: d :: _ => contB b.toNat && contB c.toNat && contB d.toNat && !(a == 240 && decide (b.toNat < 144)) && !(a == 244 && decide (144 ≤ b.toNat))
  | _ => false
/-- The number of bytes of the character at the head of a text; 0: there is none. -/
def u8n : Bs → Nat
  | [] => 0
  | a :: r =>
    if a.toNat < 128 then 1
    else if 194 ≤ a.toNat ∧ a.toNat < 224 then (if u8two r then 2 else 0)
    else if 224 ≤ a.toNat ∧ a.toNat < 240 then (if u8three a.toNat r then 3 else 0)
    else if 240 ≤ a.toNat ∧ a.toNat < 245 then (if u8four a.toNat r then 4 else 0)
    else 0

theorem and192 : ∀ n : Nat, n < 256 → (bits .and .u8 (n : Int) 192 != 128) = !(contB n) := by
  have h : ∀ n : Fin 256, (bits .and .u8 (n.1 : Int) 192 != 128) = !(contB n.1) := by decide +kernel
  exact fun n hn => h ⟨n, hn⟩
theorem wraps_i64 (n : Int) (h0 : 0 ≤ n) (h1 : n < 2 ^ 62) : IntKind.i64.wrap n = n := by rw [IntKind.wrap_i64]; omega
theorem i64_and31 (x : Int) (h0 : 0 ≤ x) (h1 : x < 256) : bits .and .i64 x 31 = x % 32 := bits_mask .i64 62 (by decide) wraps_i64 5 (by decide) x h0 (by omega)
theorem i64_and15 (x : Int) (h0 : 0 ≤ x) (h1 : x < 256) : bits .and .i64 x 15 = x % 16 := bits_mask .i64 62 (by decide) wraps_i64 4 (by decide) x h0 (by omega)
theorem i64_and7 (x : Int) (h0 : 0 ≤ x) (h1 : x < 256) : bits .and .i64 x 7 = x % 8 := bits_mask .i64 62 (by decide) wraps_i64 3 (by decide) x h0 (by omega)
theorem i64_or64 (x y : Int) (h0 : 0 ≤ x) (h1 : x < 16777216) (h2 : 0 ≤ y) (h3 : y < 64) : bits .or .i64 (x * 64) y = x * 64 + y :=
  bits_join .i64 62 (by decide) wraps_i64 6 (x * 64) y (by omega) (by omega) (by omega) h2 (by omega) (by omega)

theorem bl_two (s : ByteArray) (h : 1 < s.size) : bl s = s[0] :: s[1] :: (bl s).drop 2 := by
  have h0 := bl_get s 0 (by omega)
  rw [List.drop_zero, bl_get s 1 h] at h0
  exact h0
theorem bl_three (s : ByteArray) (h : 2 < s.size) : bl s = s[0] :: s[1] :: s[2] :: (bl s).drop 3 := by
  have h0 := bl_two s (by omega)
  rw [bl_get s 2 h] at h0
  exact h0
theorem bl_four (s : ByteArray) (h : 3 < s.size) : bl s = s[0] :: s[1] :: s[2] :: s[3] :: (bl s).drop 4 := by
  have h0 := bl_three s (by omega)
  rw [bl_get s 3 h] at h0
  exact h0
theorem bl_one (s : ByteArray) (h : 0 < s.size) : bl s = s[0] :: (bl s).drop 1 := by
  have h0 := bl_get s 0 h
  rw [List.drop_zero] at h0
  exact h0

set_option maxHeartbeats 1000000 in
set_option maxRecDepth 100000 in
theorem size_one (s : ByteArray) (w : World) (_hs : s.size ≤ 2147483647) (h0 : 0 < s.size) (ha : (s[0]).toNat < 128) (hv : Hid (u8n (bl s) = 1)) :
    Calls Tryd.prog 100 #[.string s] w fun e w' => e = .returned (.int .i64 (u8n (bl s) : Nat)) ∧ w = w' := by
  go_enter Tryd.func100, Tryd.ntmps100
  go_wp2
  go_ret
  exact ⟨by rw [hv.out]; rfl, rfl⟩

set_option maxHeartbeats 1000000 in
set_option maxRecDepth 100000 in
theorem size_lone (s : ByteArray) (w : World) (_hs : s.size ≤ 2147483647) (h0 : 0 < s.size) (ha : 128 ≤ (s[0]).toNat) (hb : (s[0]).toNat < 194) (hv : Hid (u8n (bl s) = 0)) :
    Calls Tryd.prog 100 #[.string s] w fun e w' => e = .returned (.int .i64 (u8n (bl s) : Nat)) ∧ w = w' := by
  go_enter Tryd.func100, Tryd.ntmps100
  go_wp2
  go_ret
  exact ⟨by rw [hv.out]; rfl, rfl⟩

set_option maxHeartbeats 1000000 in
set_option maxRecDepth 100000 in
theorem size_high (s : ByteArray) (w : World) (_hs : s.size ≤ 2147483647) (h0 : 0 < s.size) (ha : 245 ≤ (s[0]).toNat) (hv : Hid (u8n (bl s) = 0)) :
    Calls Tryd.prog 100 #[.string s] w fun e w' => e = .returned (.int .i64 (u8n (bl s) : Nat)) ∧ w = w' := by
  have hb : (s[0]).toNat < 256 := (s[0]).toNat_lt
  go_enter Tryd.func100, Tryd.ntmps100
  go_wp2
  go_ret
  exact ⟨by rw [hv.out]; rfl, rfl⟩

set_option maxHeartbeats 1000000 in
set_option maxRecDepth 100000 in
theorem size_short2 (s : ByteArray) (w : World) (hs : s.size ≤ 2147483647) (h0 : 0 < s.size) (ha : 194 ≤ (s[0]).toNat) (hb : (s[0]).toNat < 224) (h1 : ¬ 1 < s.size) (hv : Hid (u8n (bl s) = 0)) :
    Calls Tryd.prog 100 #[.string s] w fun e w' => e = .returned (.int .i64 (u8n (bl s) : Nat)) ∧ w = w' := by
  have m1 := i64_and31 ((s[0]).toNat : Int) (by omega) (by omega)
  go_enter Tryd.func100, Tryd.ntmps100
  go_wp2
  go_ret
  exact ⟨by rw [hv.out]; rfl, rfl⟩

set_option maxHeartbeats 1000000 in
set_option maxRecDepth 100000 in
theorem size_bad21 (s : ByteArray) (w : World) (hs : s.size ≤ 2147483647) (h0 : 0 < s.size) (ha : 194 ≤ (s[0]).toNat) (hb : (s[0]).toNat < 224) (h1 : 1 < s.size) (c1 : contB (s[1]).toNat = false) (hv : Hid (u8n (bl s) = 0)) :
    Calls Tryd.prog 100 #[.string s] w fun e w' => e = .returned (.int .i64 (u8n (bl s) : Nat)) ∧ w = w' := by
  have m1 := i64_and31 ((s[0]).toNat : Int) (by omega) (by omega)
  have q1 := and192 (s[1]).toNat (s[1]).toNat_lt
  rw [c1] at q1
  have m2 := u8_and63 (x := ((s[1]).toNat : Int)) (by omega) (by have := (s[1]).toNat_lt; omega)
  clear c1
  go_enter Tryd.func100, Tryd.ntmps100
  go_wp2
  refine wp_loop_rounds 5 ?_
  rw [rounds_succ]
  go_wp2
  go_ret
  exact ⟨by rw [hv.out]; rfl, rfl⟩

set_option maxHeartbeats 1000000 in
set_option maxRecDepth 100000 in
theorem size_two (s : ByteArray) (w : World) (hs : s.size ≤ 2147483647) (h0 : 0 < s.size) (ha : 194 ≤ (s[0]).toNat) (hb : (s[0]).toNat < 224) (h1 : 1 < s.size) (c1 : contB (s[1]).toNat = true)  (hv : Hid (u8n (bl s) = 2)) :
    Calls Tryd.prog 100 #[.string s] w fun e w' => e = .returned (.int .i64 (u8n (bl s) : Nat)) ∧ w = w' := by
  have m1 := i64_and31 ((s[0]).toNat : Int) (by omega) (by omega)
  have q1 := and192 (s[1]).toNat (s[1]).toNat_lt
  rw [c1] at q1
  have m2 := u8_and63 (x := ((s[1]).toNat : Int)) (by omega) (by have := (s[1]).toNat_lt; omega)
  have r1 : 128 ≤ (s[1]).toNat ∧ (s[1]).toNat ≤ 191 := by simpa [contB] using c1
  obtain ⟨r1, t1⟩ := r1
  have o1 := i64_or64 (((s[0]).toNat : Int) % (32 : Int)) (((s[1]).toNat : Int) % 64) (by omega) (by omega) (by omega) (by omega)
  clear c1
  go_enter Tryd.func100, Tryd.ntmps100
  go_wp2
  refine wp_loop_rounds 5 ?_
  rw [rounds_succ]
  go_wp2
  rw [rounds_succ]
  go_wp2
  go_ret
  exact ⟨by rw [hv.out]; rfl, rfl⟩

set_option maxHeartbeats 1000000 in
set_option maxRecDepth 100000 in
theorem size_short3 (s : ByteArray) (w : World) (hs : s.size ≤ 2147483647) (h0 : 0 < s.size) (ha : 224 ≤ (s[0]).toNat) (hb : (s[0]).toNat < 240) (h1 : ¬ 2 < s.size) (hv : Hid (u8n (bl s) = 0)) :
    Calls Tryd.prog 100 #[.string s] w fun e w' => e = .returned (.int .i64 (u8n (bl s) : Nat)) ∧ w = w' := by
  have m1 := i64_and15 ((s[0]).toNat : Int) (by omega) (by omega)
  go_enter Tryd.func100, Tryd.ntmps100
  go_wp2
  go_ret
  exact ⟨by rw [hv.out]; rfl, rfl⟩

set_option maxHeartbeats 1000000 in
set_option maxRecDepth 100000 in
theorem size_bad31 (s : ByteArray) (w : World) (hs : s.size ≤ 2147483647) (h0 : 0 < s.size) (ha : 224 ≤ (s[0]).toNat) (hb : (s[0]).toNat < 240) (h1 : 2 < s.size) (c1 : contB (s[1]).toNat = false) (hv : Hid (u8n (bl s) = 0)) :
    Calls Tryd.prog 100 #[.string s] w fun e w' => e = .returned (.int .i64 (u8n (bl s) : Nat)) ∧ w = w' := by
  have m1 := i64_and15 ((s[0]).toNat : Int) (by omega) (by omega)
  have q1 := and192 (s[1]).toNat (s[1]).toNat_lt
  rw [c1] at q1
  have m2 := u8_and63 (x := ((s[1]).toNat : Int)) (by omega) (by have := (s[1]).toNat_lt; omega)
  clear c1
  go_enter Tryd.func100, Tryd.ntmps100
  go_wp2
  refine wp_loop_rounds 5 ?_
  rw [rounds_succ]
  go_wp2
  go_ret
  exact ⟨by rw [hv.out]; rfl, rfl⟩

set_option maxHeartbeats 1000000 in
set_option maxRecDepth 100000 in
theorem size_bad32 (s : ByteArray) (w : World) (hs : s.size ≤ 2147483647) (h0 : 0 < s.size) (ha : 224 ≤ (s[0]).toNat) (hb : (s[0]).toNat < 240) (h1 : 2 < s.size) (c1 : contB (s[1]).toNat = true) (c2 : contB (s[2]).toNat = false) (hv : Hid (u8n (bl s) = 0)) :
    Calls Tryd.prog 100 #[.string s] w fun e w' => e = .returned (.int .i64 (u8n (bl s) : Nat)) ∧ w = w' := by
  have m1 := i64_and15 ((s[0]).toNat : Int) (by omega) (by omega)
  have q1 := and192 (s[1]).toNat (s[1]).toNat_lt
  rw [c1] at q1
  have m2 := u8_and63 (x := ((s[1]).toNat : Int)) (by omega) (by have := (s[1]).toNat_lt; omega)
  have r1 : 128 ≤ (s[1]).toNat ∧ (s[1]).toNat ≤ 191 := by simpa [contB] using c1
  obtain ⟨r1, t1⟩ := r1
  have q2 := and192 (s[2]).toNat (s[2]).toNat_lt
  rw [c2] at q2
  have m3 := u8_and63 (x := ((s[2]).toNat : Int)) (by omega) (by have := (s[2]).toNat_lt; omega)
  have o1 := i64_or64 (((s[0]).toNat : Int) % (16 : Int)) (((s[1]).toNat : Int) % 64) (by omega) (by omega) (by omega) (by omega)
  clear c1
  clear c2
  go_enter Tryd.func100, Tryd.ntmps100
  go_wp2
  refine wp_loop_rounds 5 ?_
  rw [rounds_succ]
  go_wp2
  rw [rounds_succ]
  go_wp2
  go_ret
  exact ⟨by rw [hv.out]; rfl, rfl⟩

set_option maxHeartbeats 1000000 in
set_option maxRecDepth 100000 in
theorem size_three_low (s : ByteArray) (w : World) (hs : s.size ≤ 2147483647) (h0 : 0 < s.size) (ha : 224 ≤ (s[0]).toNat) (hb : (s[0]).toNat < 240) (h1 : 2 < s.size) (c1 : contB (s[1]).toNat = true) (c2 : contB (s[2]).toNat = true) (e1 : (s[0]).toNat ≤ 224) (e2 : (s[1]).toNat < 160) (hv : Hid (u8n (bl s) = 0)) :
    Calls Tryd.prog 100 #[.string s] w fun e w' => e = .returned (.int .i64 (u8n (bl s) : Nat)) ∧ w = w' := by
  have m1 := i64_and15 ((s[0]).toNat : Int) (by omega) (by omega)
  have q1 := and192 (s[1]).toNat (s[1]).toNat_lt
  rw [c1] at q1
  have m2 := u8_and63 (x := ((s[1]).toNat : Int)) (by omega) (by have := (s[1]).toNat_lt; omega)
  have r1 : 128 ≤ (s[1]).toNat ∧ (s[1]).toNat ≤ 191 := by simpa [contB] using c1
  obtain ⟨r1, t1⟩ := r1
  have q2 := and192 (s[2]).toNat (s[2]).toNat_lt
  rw [c2] at q2
  have m3 := u8_and63 (x := ((s[2]).toNat : Int)) (by omega) (by have := (s[2]).toNat_lt; omega)
  have r2 : 128 ≤ (s[2]).toNat ∧ (s[2]).toNat ≤ 191 := by simpa [contB] using c2
  obtain ⟨r2, t2⟩ := r2
  have o1 := i64_or64 (((s[0]).toNat : Int) % (16 : Int)) (((s[1]).toNat : Int) % 64) (by omega) (by omega) (by omega) (by omega)
  have o2 := i64_or64 ((((s[0]).toNat : Int) % (16 : Int)) * (64 : Int) + ((s[1]).toNat : Int) % (64 : Int)) (((s[2]).toNat : Int) % 64) (by omega) (by omega) (by omega) (by omega)
  clear c1
  clear c2
  go_enter Tryd.func100, Tryd.ntmps100
  go_wp2
  refine wp_loop_rounds 5 ?_
  rw [rounds_succ]
  go_wp2
  rw [rounds_succ]
  go_wp2
  rw [rounds_succ]
  go_wp2
  go_ret
  exact ⟨by rw [hv.out]; rfl, rfl⟩

set_option maxHeartbeats 1000000 in
set_option maxRecDepth 100000 in
theorem size_three_sur (s : ByteArray) (w : World) (hs : s.size ≤ 2147483647) (h0 : 0 < s.size) (ha : 224 ≤ (s[0]).toNat) (hb : (s[0]).toNat < 240) (h1 : 2 < s.size) (c1 : contB (s[1]).toNat = true) (c2 : contB (s[2]).toNat = true) (e1 : 237 ≤ (s[0]).toNat) (e1' : (s[0]).toNat ≤ 237) (e2 : 160 ≤ (s[1]).toNat) (hv : Hid (u8n (bl s) = 0)) :
    Calls Tryd.prog 100 #[.string s] w fun e w' => e = .returned (.int .i64 (u8n (bl s) : Nat)) ∧ w = w' := by
  have m1 := i64_and15 ((s[0]).toNat : Int) (by omega) (by omega)
  have q1 := and192 (s[1]).toNat (s[1]).toNat_lt
  rw [c1] at q1
  have m2 := u8_and63 (x := ((s[1]).toNat : Int)) (by omega) (by have := (s[1]).toNat_lt; omega)
  have r1 : 128 ≤ (s[1]).toNat ∧ (s[1]).toNat ≤ 191 := by simpa [contB] using c1
  obtain ⟨r1, t1⟩ := r1
  have q2 := and192 (s[2]).toNat (s[2]).toNat_lt
  rw [c2] at q2
  have m3 := u8_and63 (x := ((s[2]).toNat : Int)) (by omega) (by have := (s[2]).toNat_lt; omega)
  have r2 : 128 ≤ (s[2]).toNat ∧ (s[2]).toNat ≤ 191 := by simpa [contB] using c2
  obtain ⟨r2, t2⟩ := r2
  have o1 := i64_or64 (((s[0]).toNat : Int) % (16 : Int)) (((s[1]).toNat : Int) % 64) (by omega) (by omega) (by omega) (by omega)
  have o2 := i64_or64 ((((s[0]).toNat : Int) % (16 : Int)) * (64 : Int) + ((s[1]).toNat : Int) % (64 : Int)) (((s[2]).toNat : Int) % 64) (by omega) (by omega) (by omega) (by omega)
  clear c1
  clear c2
  go_enter Tryd.func100, Tryd.ntmps100
  go_wp2
  refine wp_loop_rounds 5 ?_
  rw [rounds_succ]
  go_wp2
  rw [rounds_succ]
  go_wp2
  rw [rounds_succ]
  go_wp2
  go_ret
  exact ⟨by rw [hv.out]; rfl, rfl⟩

set_option maxHeartbeats 1000000 in
set_option maxRecDepth 100000 in
theorem size_three_a (s : ByteArray) (w : World) (hs : s.size ≤ 2147483647) (h0 : 0 < s.size) (ha : 224 ≤ (s[0]).toNat) (hb : (s[0]).toNat < 240) (h1 : 2 < s.size) (c1 : contB (s[1]).toNat = true) (c2 : contB (s[2]).toNat = true) (e1 : (s[0]).toNat ≤ 224) (e2 : 160 ≤ (s[1]).toNat) (hv : Hid (u8n (bl s) = 3)) :
    Calls Tryd.prog 100 #[.string s] w fun e w' => e = .returned (.int .i64 (u8n (bl s) : Nat)) ∧ w = w' := by
  have m1 := i64_and15 ((s[0]).toNat : Int) (by omega) (by omega)
  have q1 := and192 (s[1]).toNat (s[1]).toNat_lt
  rw [c1] at q1
  have m2 := u8_and63 (x := ((s[1]).toNat : Int)) (by omega) (by have := (s[1]).toNat_lt; omega)
  have r1 : 128 ≤ (s[1]).toNat ∧ (s[1]).toNat ≤ 191 := by simpa [contB] using c1
  obtain ⟨r1, t1⟩ := r1
  have q2 := and192 (s[2]).toNat (s[2]).toNat_lt
  rw [c2] at q2
  have m3 := u8_and63 (x := ((s[2]).toNat : Int)) (by omega) (by have := (s[2]).toNat_lt; omega)
  have r2 : 128 ≤ (s[2]).toNat ∧ (s[2]).toNat ≤ 191 := by simpa [contB] using c2
  obtain ⟨r2, t2⟩ := r2
  have o1 := i64_or64 (((s[0]).toNat : Int) % (16 : Int)) (((s[1]).toNat : Int) % 64) (by omega) (by omega) (by omega) (by omega)
  have o2 := i64_or64 ((((s[0]).toNat : Int) % (16 : Int)) * (64 : Int) + ((s[1]).toNat : Int) % (64 : Int)) (((s[2]).toNat : Int) % 64) (by omega) (by omega) (by omega) (by omega)
  clear c1
  clear c2
  go_enter Tryd.func100, Tryd.ntmps100
  go_wp2
  refine wp_loop_rounds 5 ?_
  rw [rounds_succ]
  go_wp2
  rw [rounds_succ]
  go_wp2
  rw [rounds_succ]
  go_wp2
  go_ret
  exact ⟨by rw [hv.out]; rfl, rfl⟩

set_option maxHeartbeats 1000000 in
set_option maxRecDepth 100000 in
theorem size_three_b (s : ByteArray) (w : World) (hs : s.size ≤ 2147483647) (h0 : 0 < s.size) (ha : 224 ≤ (s[0]).toNat) (hb : (s[0]).toNat < 240) (h1 : 2 < s.size) (c1 : contB (s[1]).toNat = true) (c2 : contB (s[2]).toNat = true) (e1 : 225 ≤ (s[0]).toNat) (e2 : (s[0]).toNat ≤ 236) (hv : Hid (u8n (bl s) = 3)) :
    Calls Tryd.prog 100 #[.string s] w fun e w' => e = .returned (.int .i64 (u8n (bl s) : Nat)) ∧ w = w' := by
  have m1 := i64_and15 ((s[0]).toNat : Int) (by omega) (by omega)
  have q1 := and192 (s[1]).toNat (s[1]).toNat_lt
  rw [c1] at q1
  have m2 := u8_and63 (x := ((s[1]).toNat : Int)) (by omega) (by have := (s[1]).toNat_lt; omega)
  have r1 : 128 ≤ (s[1]).toNat ∧ (s[1]).toNat ≤ 191 := by simpa [contB] using c1
  obtain ⟨r1, t1⟩ := r1
  have q2 := and192 (s[2]).toNat (s[2]).toNat_lt
  rw [c2] at q2
  have m3 := u8_and63 (x := ((s[2]).toNat : Int)) (by omega) (by have := (s[2]).toNat_lt; omega)
  have r2 : 128 ≤ (s[2]).toNat ∧ (s[2]).toNat ≤ 191 := by simpa [contB] using c2
  obtain ⟨r2, t2⟩ := r2
  have o1 := i64_or64 (((s[0]).toNat : Int) % (16 : Int)) (((s[1]).toNat : Int) % 64) (by omega) (by omega) (by omega) (by omega)
  have o2 := i64_or64 ((((s[0]).toNat : Int) % (16 : Int)) * (64 : Int) + ((s[1]).toNat : Int) % (64 : Int)) (((s[2]).toNat : Int) % 64) (by omega) (by omega) (by omega) (by omega)
  clear c1
  clear c2
  go_enter Tryd.func100, Tryd.ntmps100
  go_wp2
  refine wp_loop_rounds 5 ?_
  rw [rounds_succ]
  go_wp2
  rw [rounds_succ]
  go_wp2
  rw [rounds_succ]
  go_wp2
  go_ret
  exact ⟨by rw [hv.out]; rfl, rfl⟩

set_option maxHeartbeats 1000000 in
set_option maxRecDepth 100000 in
theorem size_three_c (s : ByteArray) (w : World) (hs : s.size ≤ 2147483647) (h0 : 0 < s.size) (ha : 224 ≤ (s[0]).toNat) (hb : (s[0]).toNat < 240) (h1 : 2 < s.size) (c1 : contB (s[1]).toNat = true) (c2 : contB (s[2]).toNat = true) (e1 : 237 ≤ (s[0]).toNat) (e1' : (s[0]).toNat ≤ 237) (e2 : (s[1]).toNat < 160) (hv : Hid (u8n (bl s) = 3)) :
    Calls Tryd.prog 100 #[.string s] w fun e w' => e = .returned (.int .i64 (u8n (bl s) : Nat)) ∧ w = w' := by
  have m1 := i64_and15 ((s[0]).toNat : Int) (by omega) (by omega)
  have q1 := and192 (s[1]).toNat (s[1]).toNat_lt
  rw [c1] at q1
  have m2 := u8_and63 (x := ((s[1]).toNat : Int)) (by omega) (by have := (s[1]).toNat_lt; omega)
  have r1 : 128 ≤ (s[1]).toNat ∧ (s[1]).toNat ≤ 191 := by simpa [contB] using c1
  obtain ⟨r1, t1⟩ := r1
  have q2 := and192 (s[2]).toNat (s[2]).toNat_lt
  rw [c2] at q2
  have m3 := u8_and63 (x := ((s[2]).toNat : Int)) (by omega) (by have := (s[2]).toNat_lt; omega)
  have r2 : 128 ≤ (s[2]).toNat ∧ (s[2]).toNat ≤ 191 := by simpa [contB] using c2
  obtain ⟨r2, t2⟩ := r2
  have o1 := i64_or64 (((s[0]).toNat : Int) % (16 : Int)) (((s[1]).toNat : Int) % 64) (by omega) (by omega) (by omega) (by omega)
  have o2 := i64_or64 ((((s[0]).toNat : Int) % (16 : Int)) * (64 : Int) + ((s[1]).toNat : Int) % (64 : Int)) (((s[2]).toNat : Int) % 64) (by omega) (by omega) (by omega) (by omega)
  clear c1
  clear c2
  go_enter Tryd.func100, Tryd.ntmps100
  go_wp2
  refine wp_loop_rounds 5 ?_
  rw [rounds_succ]
  go_wp2
  rw [rounds_succ]
  go_wp2
  rw [rounds_succ]
  go_wp2
  go_ret
  exact ⟨by rw [hv.out]; rfl, rfl⟩

set_option maxHeartbeats 1000000 in
set_option maxRecDepth 100000 in
theorem size_three_d (s : ByteArray) (w : World) (hs : s.size ≤ 2147483647) (h0 : 0 < s.size) (ha : 224 ≤ (s[0]).toNat) (hb : (s[0]).toNat < 240) (h1 : 2 < s.size) (c1 : contB (s[1]).toNat = true) (c2 : contB (s[2]).toNat = true) (e1 : 238 ≤ (s[0]).toNat) (hv : Hid (u8n (bl s) = 3)) :
    Calls Tryd.prog 100 #[.string s] w fun e w' => e = .returned (.int .i64 (u8n (bl s) : Nat)) ∧ w = w' := by
  have m1 := i64_and15 ((s[0]).toNat : Int) (by omega) (by omega)
  have q1 := and192 (s[1]).toNat (s[1]).toNat_lt
  rw [c1] at q1
  have m2 := u8_and63 (x := ((s[1]).toNat : Int)) (by omega) (by have := (s[1]).toNat_lt; omega)
  have r1 : 128 ≤ (s[1]).toNat ∧ (s[1]).toNat ≤ 191 := by simpa [contB] using c1
  obtain ⟨r1, t1⟩ := r1
  have q2 := and192 (s[2]).toNat (s[2]).toNat_lt
  rw [c2] at q2
  have m3 := u8_and63 (x := ((s[2]).toNat : Int)) (by omega) (by have := (s[2]).toNat_lt; omega)
  have r2 : 128 ≤ (s[2]).toNat ∧ (s[2]).toNat ≤ 191 := by simpa [contB] using c2
  obtain ⟨r2, t2⟩ := r2
  have o1 := i64_or64 (((s[0]).toNat : Int) % (16 : Int)) (((s[1]).toNat : Int) % 64) (by omega) (by omega) (by omega) (by omega)
  have o2 := i64_or64 ((((s[0]).toNat : Int) % (16 : Int)) * (64 : Int) + ((s[1]).toNat : Int) % (64 : Int)) (((s[2]).toNat : Int) % 64) (by omega) (by omega) (by omega) (by omega)
  clear c1
  clear c2
  go_enter Tryd.func100, Tryd.ntmps100
  go_wp2
  refine wp_loop_rounds 5 ?_
  rw [rounds_succ]
  go_wp2
  rw [rounds_succ]
  go_wp2
  rw [rounds_succ]
  go_wp2
  go_ret
  exact ⟨by rw [hv.out]; rfl, rfl⟩

set_option maxHeartbeats 1000000 in
set_option maxRecDepth 100000 in
theorem size_short4 (s : ByteArray) (w : World) (hs : s.size ≤ 2147483647) (h0 : 0 < s.size) (ha : 240 ≤ (s[0]).toNat) (hb : (s[0]).toNat < 245) (h1 : ¬ 3 < s.size) (hv : Hid (u8n (bl s) = 0)) :
    Calls Tryd.prog 100 #[.string s] w fun e w' => e = .returned (.int .i64 (u8n (bl s) : Nat)) ∧ w = w' := by
  have m1 := i64_and7 ((s[0]).toNat : Int) (by omega) (by omega)
  go_enter Tryd.func100, Tryd.ntmps100
  go_wp2
  go_ret
  exact ⟨by rw [hv.out]; rfl, rfl⟩

set_option maxHeartbeats 1000000 in
set_option maxRecDepth 100000 in
theorem size_bad41 (s : ByteArray) (w : World) (hs : s.size ≤ 2147483647) (h0 : 0 < s.size) (ha : 240 ≤ (s[0]).toNat) (hb : (s[0]).toNat < 245) (h1 : 3 < s.size) (c1 : contB (s[1]).toNat = false) (hv : Hid (u8n (bl s) = 0)) :
    Calls Tryd.prog 100 #[.string s] w fun e w' => e = .returned (.int .i64 (u8n (bl s) : Nat)) ∧ w = w' := by
  have m1 := i64_and7 ((s[0]).toNat : Int) (by omega) (by omega)
  have q1 := and192 (s[1]).toNat (s[1]).toNat_lt
  rw [c1] at q1
  have m2 := u8_and63 (x := ((s[1]).toNat : Int)) (by omega) (by have := (s[1]).toNat_lt; omega)
  clear c1
  go_enter Tryd.func100, Tryd.ntmps100
  go_wp2
  refine wp_loop_rounds 5 ?_
  rw [rounds_succ]
  go_wp2
  go_ret
  exact ⟨by rw [hv.out]; rfl, rfl⟩

set_option maxHeartbeats 1000000 in
set_option maxRecDepth 100000 in
theorem size_bad42 (s : ByteArray) (w : World) (hs : s.size ≤ 2147483647) (h0 : 0 < s.size) (ha : 240 ≤ (s[0]).toNat) (hb : (s[0]).toNat < 245) (h1 : 3 < s.size) (c1 : contB (s[1]).toNat = true) (c2 : contB (s[2]).toNat = false) (hv : Hid (u8n (bl s) = 0)) :
    Calls Tryd.prog 100 #[.string s] w fun e w' => e = .returned (.int .i64 (u8n (bl s) : Nat)) ∧ w = w' := by
  have m1 := i64_and7 ((s[0]).toNat : Int) (by omega) (by omega)
  have q1 := and192 (s[1]).toNat (s[1]).toNat_lt
  rw [c1] at q1
  have m2 := u8_and63 (x := ((s[1]).toNat : Int)) (by omega) (by have := (s[1]).toNat_lt; omega)
  have r1 : 128 ≤ (s[1]).toNat ∧ (s[1]).toNat ≤ 191 := by simpa [contB] using c1
  obtain ⟨r1, t1⟩ := r1
  have q2 := and192 (s[2]).toNat (s[2]).toNat_lt
  rw [c2] at q2
  have m3 := u8_and63 (x := ((s[2]).toNat : Int)) (by omega) (by have := (s[2]).toNat_lt; omega)
  have o1 := i64_or64 (((s[0]).toNat : Int) % (8 : Int)) (((s[1]).toNat : Int) % 64) (by omega) (by omega) (by omega) (by omega)
  clear c1
  clear c2
  go_enter Tryd.func100, Tryd.ntmps100
  go_wp2
  refine wp_loop_rounds 5 ?_
  rw [rounds_succ]
  go_wp2
  rw [rounds_succ]
  go_wp2
  go_ret
  exact ⟨by rw [hv.out]; rfl, rfl⟩

set_option maxHeartbeats 1000000 in
set_option maxRecDepth 100000 in
theorem size_bad43 (s : ByteArray) (w : World) (hs : s.size ≤ 2147483647) (h0 : 0 < s.size) (ha : 240 ≤ (s[0]).toNat) (hb : (s[0]).toNat < 245) (h1 : 3 < s.size) (c1 : contB (s[1]).toNat = true) (c2 : contB (s[2]).toNat = true) (c3 : contB (s[3]).toNat = false) (hv : Hid (u8n (bl s) = 0)) :
    Calls Tryd.prog 100 #[.string s] w fun e w' => e = .returned (.int .i64 (u8n (bl s) : Nat)) ∧ w = w' := by
  have m1 := i64_and7 ((s[0]).toNat : Int) (by omega) (by omega)
  have q1 := and192 (s[1]).toNat (s[1]).toNat_lt
  rw [c1] at q1
  have m2 := u8_and63 (x := ((s[1]).toNat : Int)) (by omega) (by have := (s[1]).toNat_lt; omega)
  have r1 : 128 ≤ (s[1]).toNat ∧ (s[1]).toNat ≤ 191 := by simpa [contB] using c1
  obtain ⟨r1, t1⟩ := r1
  have q2 := and192 (s[2]).toNat (s[2]).toNat_lt
  rw [c2] at q2
  have m3 := u8_and63 (x := ((s[2]).toNat : Int)) (by omega) (by have := (s[2]).toNat_lt; omega)
  have r2 : 128 ≤ (s[2]).toNat ∧ (s[2]).toNat ≤ 191 := by simpa [contB] using c2
  obtain ⟨r2, t2⟩ := r2
  have q3 := and192 (s[3]).toNat (s[3]).toNat_lt
  rw [c3] at q3
  have m4 := u8_and63 (x := ((s[3]).toNat : Int)) (by omega) (by have := (s[3]).toNat_lt; omega)
  have o1 := i64_or64 (((s[0]).toNat : Int) % (8 : Int)) (((s[1]).toNat : Int) % 64) (by omega) (by omega) (by omega) (by omega)
  have o2 := i64_or64 ((((s[0]).toNat : Int) % (8 : Int)) * (64 : Int) + ((s[1]).toNat : Int) % (64 : Int)) (((s[2]).toNat : Int) % 64) (by omega) (by omega) (by omega) (by omega)
  clear c1
  clear c2
  clear c3
  go_enter Tryd.func100, Tryd.ntmps100
  go_wp2
  refine wp_loop_rounds 5 ?_
  rw [rounds_succ]
  go_wp2
  rw [rounds_succ]
  go_wp2
  rw [rounds_succ]
  go_wp2
  go_ret
  exact ⟨by rw [hv.out]; rfl, rfl⟩

set_option maxHeartbeats 1000000 in
set_option maxRecDepth 100000 in
theorem size_four_low (s : ByteArray) (w : World) (hs : s.size ≤ 2147483647) (h0 : 0 < s.size) (ha : 240 ≤ (s[0]).toNat) (hb : (s[0]).toNat < 245) (h1 : 3 < s.size) (c1 : contB (s[1]).toNat = true) (c2 : contB (s[2]).toNat = true) (c3 : contB (s[3]).toNat = true) (e1 : (s[0]).toNat ≤ 240) (e2 : (s[1]).toNat < 144) (hv : Hid (u8n (bl s) = 0)) :
    Calls Tryd.prog 100 #[.string s] w fun e w' => e = .returned (.int .i64 (u8n (bl s) : Nat)) ∧ w = w' := by
  have m1 := i64_and7 ((s[0]).toNat : Int) (by omega) (by omega)
  have q1 := and192 (s[1]).toNat (s[1]).toNat_lt
  rw [c1] at q1
  have m2 := u8_and63 (x := ((s[1]).toNat : Int)) (by omega) (by have := (s[1]).toNat_lt; omega)
  have r1 : 128 ≤ (s[1]).toNat ∧ (s[1]).toNat ≤ 191 := by simpa [contB] using c1
  obtain ⟨r1, t1⟩ := r1
  have q2 := and192 (s[2]).toNat (s[2]).toNat_lt
  rw [c2] at q2
  have m3 := u8_and63 (x := ((s[2]).toNat : Int)) (by omega) (by have := (s[2]).toNat_lt; omega)
  have r2 : 128 ≤ (s[2]).toNat ∧ (s[2]).toNat ≤ 191 := by simpa [contB] using c2
  obtain ⟨r2, t2⟩ := r2
  have q3 := and192 (s[3]).toNat (s[3]).toNat_lt
  rw [c3] at q3
  have m4 := u8_and63 (x := ((s[3]).toNat : Int)) (by omega) (by have := (s[3]).toNat_lt; omega)
  have r3 : 128 ≤ (s[3]).toNat ∧ (s[3]).toNat ≤ 191 := by simpa [contB] using c3
  obtain ⟨r3, t3⟩ := r3
  have o1 := i64_or64 (((s[0]).toNat : Int) % (8 : Int)) (((s[1]).toNat : Int) % 64) (by omega) (by omega) (by omega) (by omega)
  have o2 := i64_or64 ((((s[0]).toNat : Int) % (8 : Int)) * (64 : Int) + ((s[1]).toNat : Int) % (64 : Int)) (((s[2]).toNat : Int) % 64) (by omega) (by omega) (by omega) (by omega)
  have o3 := i64_or64 (((((s[0]).toNat : Int) % (8 : Int)) * (64 : Int) + ((s[1]).toNat : Int) % (64 : Int)) * (64 : Int) + ((s[2]).toNat : Int) % (64 : Int)) (((s[3]).toNat : Int) % 64) (by omega) (by omega) (by omega) (by omega)
  clear c1
  clear c2
  clear c3
  go_enter Tryd.func100, Tryd.ntmps100
  go_wp2
  refine wp_loop_rounds 5 ?_
  rw [rounds_succ]
  go_wp2
  rw [rounds_succ]
  go_wp2
  rw [rounds_succ]
  go_wp2
  rw [rounds_succ]
  go_wp2
  go_ret
  exact ⟨by rw [hv.out]; rfl, rfl⟩

set_option maxHeartbeats 1000000 in
set_option maxRecDepth 100000 in
theorem size_four_top (s : ByteArray) (w : World) (hs : s.size ≤ 2147483647) (h0 : 0 < s.size) (ha : 240 ≤ (s[0]).toNat) (hb : (s[0]).toNat < 245) (h1 : 3 < s.size) (c1 : contB (s[1]).toNat = true) (c2 : contB (s[2]).toNat = true) (c3 : contB (s[3]).toNat = true) (e1 : 244 ≤ (s[0]).toNat) (e2 : 144 ≤ (s[1]).toNat) (hv : Hid (u8n (bl s) = 0)) :
    Calls Tryd.prog 100 #[.string s] w fun e w' => e = .returned (.int .i64 (u8n (bl s) : Nat)) ∧ w = w' := by
  have m1 := i64_and7 ((s[0]).toNat : Int) (by omega) (by omega)
  have q1 := and192 (s[1]).toNat (s[1]).toNat_lt
  rw [c1] at q1
  have m2 := u8_and63 (x := ((s[1]).toNat : Int)) (by omega) (by have := (s[1]).toNat_lt; omega)
  have r1 : 128 ≤ (s[1]).toNat ∧ (s[1]).toNat ≤ 191 := by simpa [contB] using c1
  obtain ⟨r1, t1⟩ := r1
  have q2 := and192 (s[2]).toNat (s[2]).toNat_lt
  rw [c2] at q2
  have m3 := u8_and63 (x := ((s[2]).toNat : Int)) (by omega) (by have := (s[2]).toNat_lt; omega)
  have r2 : 128 ≤ (s[2]).toNat ∧ (s[2]).toNat ≤ 191 := by simpa [contB] using c2
  obtain ⟨r2, t2⟩ := r2
  have q3 := and192 (s[3]).toNat (s[3]).toNat_lt
  rw [c3] at q3
  have m4 := u8_and63 (x := ((s[3]).toNat : Int)) (by omega) (by have := (s[3]).toNat_lt; omega)
  have r3 : 128 ≤ (s[3]).toNat ∧ (s[3]).toNat ≤ 191 := by simpa [contB] using c3
  obtain ⟨r3, t3⟩ := r3
  have o1 := i64_or64 (((s[0]).toNat : Int) % (8 : Int)) (((s[1]).toNat : Int) % 64) (by omega) (by omega) (by omega) (by omega)
  have o2 := i64_or64 ((((s[0]).toNat : Int) % (8 : Int)) * (64 : Int) + ((s[1]).toNat : Int) % (64 : Int)) (((s[2]).toNat : Int) % 64) (by omega) (by omega) (by omega) (by omega)
  have o3 := i64_or64 (((((s[0]).toNat : Int) % (8 : Int)) * (64 : Int) + ((s[1]).toNat : Int) % (64 : Int)) * (64 : Int) + ((s[2]).toNat : Int) % (64 : Int)) (((s[3]).toNat : Int) % 64) (by omega) (by omega) (by omega) (by omega)
  clear c1
  clear c2
  clear c3
  go_enter Tryd.func100, Tryd.ntmps100
  go_wp2
  refine wp_loop_rounds 5 ?_
  rw [rounds_succ]
  go_wp2
  rw [rounds_succ]
  go_wp2
  rw [rounds_succ]
  go_wp2
  rw [rounds_succ]
  go_wp2
  go_ret
  exact ⟨by rw [hv.out]; rfl, rfl⟩

set_option maxHeartbeats 1000000 in
set_option maxRecDepth 100000 in
theorem size_four_a (s : ByteArray) (w : World) (hs : s.size ≤ 2147483647) (h0 : 0 < s.size) (ha : 240 ≤ (s[0]).toNat) (hb : (s[0]).toNat < 245) (h1 : 3 < s.size) (c1 : contB (s[1]).toNat = true) (c2 : contB (s[2]).toNat = true) (c3 : contB (s[3]).toNat = true) (e1 : (s[0]).toNat ≤ 240) (e2 : 144 ≤ (s[1]).toNat) (hv : Hid (u8n (bl s) = 4)) :
    Calls Tryd.prog 100 #[.string s] w fun e w' => e = .returned (.int .i64 (u8n (bl s) : Nat)) ∧ w = w' := by
  have m1 := i64_and7 ((s[0]).toNat : Int) (by omega) (by omega)
  have q1 := and192 (s[1]).toNat (s[1]).toNat_lt
  rw [c1] at q1
  have m2 := u8_and63 (x := ((s[1]).toNat : Int)) (by omega) (by have := (s[1]).toNat_lt; omega)
  have r1 : 128 ≤ (s[1]).toNat ∧ (s[1]).toNat ≤ 191 := by simpa [contB] using c1
  obtain ⟨r1, t1⟩ := r1
  have q2 := and192 (s[2]).toNat (s[2]).toNat_lt
  rw [c2] at q2
  have m3 := u8_and63 (x := ((s[2]).toNat : Int)) (by omega) (by have := (s[2]).toNat_lt; omega)
  have r2 : 128 ≤ (s[2]).toNat ∧ (s[2]).toNat ≤ 191 := by simpa [contB] using c2
  obtain ⟨r2, t2⟩ := r2
  have q3 := and192 (s[3]).toNat (s[3]).toNat_lt
  rw [c3] at q3
  have m4 := u8_and63 (x := ((s[3]).toNat : Int)) (by omega) (by have := (s[3]).toNat_lt; omega)
  have r3 : 128 ≤ (s[3]).toNat ∧ (s[3]).toNat ≤ 191 := by simpa [contB] using c3
  obtain ⟨r3, t3⟩ := r3
  have o1 := i64_or64 (((s[0]).toNat : Int) % (8 : Int)) (((s[1]).toNat : Int) % 64) (by omega) (by omega) (by omega) (by omega)
  have o2 := i64_or64 ((((s[0]).toNat : Int) % (8 : Int)) * (64 : Int) + ((s[1]).toNat : Int) % (64 : Int)) (((s[2]).toNat : Int) % 64) (by omega) (by omega) (by omega) (by omega)
  have o3 := i64_or64 (((((s[0]).toNat : Int) % (8 : Int)) * (64 : Int) + ((s[1]).toNat : Int) % (64 : Int)) * (64 : Int) + ((s[2]).toNat : Int) % (64 : Int)) (((s[3]).toNat : Int) % 64) (by omega) (by omega) (by omega) (by omega)
  clear c1
  clear c2
  clear c3
  go_enter Tryd.func100, Tryd.ntmps100
  go_wp2
  refine wp_loop_rounds 5 ?_
  rw [rounds_succ]
  go_wp2
  rw [rounds_succ]
  go_wp2
  rw [rounds_succ]
  go_wp2
  rw [rounds_succ]
  go_wp2
  go_ret
  exact ⟨by rw [hv.out]; rfl, rfl⟩

set_option maxHeartbeats 1000000 in
set_option maxRecDepth 100000 in
theorem size_four_b (s : ByteArray) (w : World) (hs : s.size ≤ 2147483647) (h0 : 0 < s.size) (ha : 240 ≤ (s[0]).toNat) (hb : (s[0]).toNat < 245) (h1 : 3 < s.size) (c1 : contB (s[1]).toNat = true) (c2 : contB (s[2]).toNat = true) (c3 : contB (s[3]).toNat = true) (e1 : 241 ≤ (s[0]).toNat) (e2 : (s[0]).toNat ≤ 243) (hv : Hid (u8n (bl s) = 4)) :
    Calls Tryd.prog 100 #[.string s] w fun e w' => e = .returned (.int .i64 (u8n (bl s) : Nat)) ∧ w = w' := by
  have m1 := i64_and7 ((s[0]).toNat : Int) (by omega) (by omega)
  have q1 := and192 (s[1]).toNat (s[1]).toNat_lt
  rw [c1] at q1
  have m2 := u8_and63 (x := ((s[1]).toNat : Int)) (by omega) (by have := (s[1]).toNat_lt; omega)
  have r1 : 128 ≤ (s[1]).toNat ∧ (s[1]).toNat ≤ 191 := by simpa [contB] using c1
  obtain ⟨r1, t1⟩ := r1
  have q2 := and192 (s[2]).toNat (s[2]).toNat_lt
  rw [c2] at q2
  have m3 := u8_and63 (x := ((s[2]).toNat : Int)) (by omega) (by have := (s[2]).toNat_lt; omega)
  have r2 : 128 ≤ (s[2]).toNat ∧ (s[2]).toNat ≤ 191 := by simpa [contB] using c2
  obtain ⟨r2, t2⟩ := r2
  have q3 := and192 (s[3]).toNat (s[3]).toNat_lt
  rw [c3] at q3
  have m4 := u8_and63 (x := ((s[3]).toNat : Int)) (by omega) (by have := (s[3]).toNat_lt; omega)
  have r3 : 128 ≤ (s[3]).toNat ∧ (s[3]).toNat ≤ 191 := by simpa [contB] using c3
  obtain ⟨r3, t3⟩ := r3
  have o1 := i64_or64 (((s[0]).toNat : Int) % (8 : Int)) (((s[1]).toNat : Int) % 64) (by omega) (by omega) (by omega) (by omega)
  have o2 := i64_or64 ((((s[0]).toNat : Int) % (8 : Int)) * (64 : Int) + ((s[1]).toNat : Int) % (64 : Int)) (((s[2]).toNat : Int) % 64) (by omega) (by omega) (by omega) (by omega)
  have o3 := i64_or64 (((((s[0]).toNat : Int) % (8 : Int)) * (64 : Int) + ((s[1]).toNat : Int) % (64 : Int)) * (64 : Int) + ((s[2]).toNat : Int) % (64 : Int)) (((s[3]).toNat : Int) % 64) (by omega) (by omega) (by omega) (by omega)
  clear c1
  clear c2
  clear c3
  go_enter Tryd.func100, Tryd.ntmps100
  go_wp2
  refine wp_loop_rounds 5 ?_
  rw [rounds_succ]
  go_wp2
  rw [rounds_succ]
  go_wp2
  rw [rounds_succ]
  go_wp2
  rw [rounds_succ]
  go_wp2
  go_ret
  exact ⟨by rw [hv.out]; rfl, rfl⟩

set_option maxHeartbeats 1000000 in
set_option maxRecDepth 100000 in
theorem size_four_c (s : ByteArray) (w : World) (hs : s.size ≤ 2147483647) (h0 : 0 < s.size) (ha : 240 ≤ (s[0]).toNat) (hb : (s[0]).toNat < 245) (h1 : 3 < s.size) (c1 : contB (s[1]).toNat = true) (c2 : contB (s[2]).toNat = true) (c3 : contB (s[3]).toNat = true) (e1 : 244 ≤ (s[0]).toNat) (e2 : (s[1]).toNat < 144) (hv : Hid (u8n (bl s) = 4)) :
    Calls Tryd.prog 100 #[.string s] w fun e w' => e = .returned (.int .i64 (u8n (bl s) : Nat)) ∧ w = w' := by
  have m1 := i64_and7 ((s[0]).toNat : Int) (by omega) (by omega)
  have q1 := and192 (s[1]).toNat (s[1]).toNat_lt
  rw [c1] at q1
  have m2 := u8_and63 (x := ((s[1]).toNat : Int)) (by omega) (by have := (s[1]).toNat_lt; omega)
  have r1 : 128 ≤ (s[1]).toNat ∧ (s[1]).toNat ≤ 191 := by simpa [contB] using c1
  obtain ⟨r1, t1⟩ := r1
  have q2 := and192 (s[2]).toNat (s[2]).toNat_lt
  rw [c2] at q2
  have m3 := u8_and63 (x := ((s[2]).toNat : Int)) (by omega) (by have := (s[2]).toNat_lt; omega)
  have r2 : 128 ≤ (s[2]).toNat ∧ (s[2]).toNat ≤ 191 := by simpa [contB] using c2
  obtain ⟨r2, t2⟩ := r2
  have q3 := and192 (s[3]).toNat (s[3]).toNat_lt
  rw [c3] at q3
  have m4 := u8_and63 (x := ((s[3]).toNat : Int)) (by omega) (by have := (s[3]).toNat_lt; omega)
  have r3 : 128 ≤ (s[3]).toNat ∧ (s[3]).toNat ≤ 191 := by simpa [contB] using c3
  obtain ⟨r3, t3⟩ := r3
  have o1 := i64_or64 (((s[0]).toNat : Int) % (8 : Int)) (((s[1]).toNat : Int) % 64) (by omega) (by omega) (by omega) (by omega)
  have o2 := i64_or64 ((((s[0]).toNat : Int) % (8 : Int)) * (64 : Int) + ((s[1]).toNat : Int) % (64 : Int)) (((s[2]).toNat : Int) % 64) (by omega) (by omega) (by omega) (by omega)
  have o3 := i64_or64 (((((s[0]).toNat : Int) % (8 : Int)) * (64 : Int) + ((s[1]).toNat : Int) % (64 : Int)) * (64 : Int) + ((s[2]).toNat : Int) % (64 : Int)) (((s[3]).toNat : Int) % 64) (by omega) (by omega) (by omega) (by omega)
  clear c1
  clear c2
  clear c3
  go_enter Tryd.func100, Tryd.ntmps100
  go_wp2
  refine wp_loop_rounds 5 ?_
  rw [rounds_succ]
  go_wp2
  rw [rounds_succ]
  go_wp2
  rw [rounds_succ]
  go_wp2
  rw [rounds_succ]
  go_wp2
  go_ret
  exact ⟨by rw [hv.out]; rfl, rfl⟩
end Go.Proofs.YtohjnegllfdemaaDoor
