/-
  The walks of consumeParameter: without a function; with impl.Parameters' closure.
-/
import Derived.Test.YtohjnegllfdemaaDoorCl
set_option maxRecDepth 100000
namespace Go.Proofs.YtohjnegllfdemaaDoor
open Go.RowKit

/-- The values handed out: a key without a value has the text ?1. -/
def valOf : Option Bs → Bs
  | none => [63, 49]
  | some v => v
/-- What was handed out, as lists of bytes. -/
def psL (ps : Ps) : List (Bs × Bs) := ps.map fun x => (bl x.1, bl x.2)
theorem psL_push (ps : Ps) (a b : ByteArray) : psL (ps ++ [(a, b)]) = psL ps ++ [(bl a, bl b)] := by simp [psL]
theorem psL_length (ps : Ps) : (psL ps).length = ps.length := by simp [psL]

theorem from_one (t : ByteArray) (c : UInt8) (r : Bs) (h : bl t = c :: r) : bl (t.extract 1 t.size) = r := by rw [bl_from, h]; rfl
theorem size_of (t : ByteArray) (l : Bs) (h : bl t = l) : t.size = l.length := by rw [← bl_length, h]
theorem cut_at (s t : ByteArray) : bl (s.extract 0 (s.size - t.size)) = ahead (bl s) (bl t) := by rw [bl_upto, ahead, bl_length, bl_length]
theorem whole_ahead (s : ByteArray) : bl s = ahead (bl s) (bl ⟨#[]⟩) := by
  unfold ahead
  rw [List.take_of_length_le]
  simp [bl]
theorem map_pre {α β : Type} (xs : List α) (x : Option (List α × β)) : (pre xs x).map (·.2) = x.map (·.2) := by cases x <;> rfl

/-- A value's text. -/
def strOf : Value → ByteArray
  | .string s => s
  | _ => ⟨#[]⟩

set_option maxHeartbeats 4000000 in
theorem consumeParameter_nil (s : ByteArray) (w : World) (hs : s.size ≤ 4294967296) (hT : Lib.Utf8Tabs 0 1 w) :
    Calls Tryd.prog 68 #[.string s, .nilFunc] w fun e w' => OptPost s ((par (bl s)).map (·.2)) e ∧ Gr w w' := by
  obtain ⟨R, hR⟩ : ∃ R, par (bl s) = R := ⟨_, rfl⟩
  have HR := hid (show pre [] (par (bl s)) = R by rw [pre_nil, hR])
  have HR0 := hid hR
  have HT := hid hT
  clear hT hR
  rw [HR0.out]
  have hnf : ∀ W : World, (binOp .neq 68 .nilFunc .nilFunc).run Tryd.prog W = .ok (.bool false) W := fun W => by kernel_rfl
  go_enter Tryd.func68, Tryd.ntmps68
  go_wp2_with fail
  go_loopw [5] (fun v wr => ∃ (t : ByteArray) (ys : List (Bs × Option Bs)), v = .string t ∧ t.size ≤ s.size ∧ Hid (pre ys (par (bl t)) = R) ∧ Hid (Gr w wr)) (fun v _ => (strOf v).size)
  case atStart => exact ⟨s, [], rfl, Nat.le_refl _, HR, hid (Gr.refl _)⟩
  case round =>
    clear HR
    obtain ⟨t, ys, rfl, hts, hr, hg⟩ := hrel
    have HTr := hid (tabs_below HT.out hg.out (tabs_two HT.out))
    rcases par_round (bl t) ys R hr.out with ⟨hl, hx⟩ | ⟨c, r, hl, hc, hx⟩ | ⟨c, r, hl, hc, hk, hx⟩ | ⟨c, r, r1, hl, hc, hk, hd, hx, hle⟩ | ⟨c, r, d, r2, hl, hc, hk, hd, hb, hx⟩ | ⟨c, r, d, r2, r3, hl, hc, hk, hd, hb, hx, hle⟩
    · obtain rfl := bl_empty hl
      have HX := hid (show R = some (ys, bl ⟨#[]⟩) from hx)
      clear hl hx
      go_wp2_with fail
      go_ret3
      exact ⟨by rw [HX.out]; exact ⟨_, _, rfl, whole_ahead s, rfl⟩, hg.out⟩
    · obtain ⟨h0, hc0⟩ := bl_cons hl
      have c1 : (((t[0]).toNat : Int) != 59) = true := by rw [hc0]; exact neT hc
      have hne : ((t.size : Int) != 0) = true := neT (n := 0) (by omega)
      have HX := hid (show R = some (ys, bl t) by rw [hx, hl])
      clear hl hx hc hc0
      go_wp2_with fail
      go_ret3
      exact ⟨by rw [HX.out]; exact ⟨_, _, rfl, cut_at s t, rfl⟩, hg.out⟩
    all_goals
      obtain ⟨h0, hc0⟩ := bl_cons hl
      have c1 : (((t[0]).toNat : Int) != 59) = false := by rw [hc0]; exact neF hc
      have hne : ((t.size : Int) != 0) = true := neT (n := 0) (by omega)
      have HL1 := hid (from_one t c r hl)
      have HS1 := hid (size_of t _ hl)
      have HX := hid hx
      clear hx hc hc0 hl
      go_wp2_with fail
      have hs1 : (t.extract 1 t.size).size ≤ 4294967296 := by rw [size_of _ _ HL1.out]; have := HS1.out; simp at this; omega
      refine (countLeftWhitespace_any _ _ (le31 hs1)).mono ?_
      rintro e w1 ⟨⟨k, hk1, rfl, hk2⟩, hg1⟩
      rw [HL1.out] at hk2
      have HL2 := hid (show bl ((t.extract 1 t.size).extract k (t.extract 1 t.size).size) = skip wsB r by rw [bl_from, HL1.out, hk2])
      have HG1 := hid (hg.out.trans hg1)
      have HTr1 := hid (Utf8Tabs_below HTr.out hg1)
      have hsz : (t.extract 1 t.size).size = t.size - 1 := by rw [ByteArray.size_extract]; omega
      obtain ⟨u, hu⟩ : ∃ u, (t.extract 1 t.size).extract k (t.size - 1) = u := ⟨_, rfl⟩
      have HU := hid hu
      rw [hsz, hu] at HL2
      clear hsz
      have hus : u.size ≤ 4294967296 := by rw [size_of _ _ HL2.out]; have := skip_le wsB r; have := HS1.out; simp at this; omega
      clear hk2 hg1 hu
      go_wp2_with fail
      rw [HU.out]
      refine (key_opt _ _ (le31 hus)).mono ?_
      rintro e w2 ⟨hp, hg2⟩
      rw [HL2.out, hk] at hp
      have HG2 := hid (HG1.out.trans hg2)
      have HTr2 := hid (Utf8Tabs_below HTr1.out hg2)
      have HK := hid hk
      clear hk hg2
    · obtain ⟨a, b, rfl⟩ := hp
      go_wp2_with fail
      go_ret3
      exact ⟨by rw [HX.out]; exact ⟨_, _, rfl⟩, HG2.out⟩
    · obtain ⟨a, b, rfl, ha, hb⟩ := hp
      rw [HL2.out] at ha
      have HA := hid ha
      have HB := hid hb
      have hbs := size_of _ _ hb
      have HLE := hid hle
      have hw : (b.size = 0) ∨ ∃ h : 0 < b.size, (((b[0]).toNat : Int) == 61) = false := by
        rcases hd with rfl | ⟨d, t', rfl, hd⟩
        · exact .inl hbs
        · obtain ⟨h, h'⟩ := bl_cons hb
          exact .inr ⟨h, by rw [h']; exact eqF hd⟩
      have HBS := hid (show b.size < t.size by have := HS1.out; simp at this; omega)
      clear ha hb hbs hle hd
      rcases hw with hw | ⟨hw, q61⟩
      all_goals
        try have hwn : ((b.size : Int) != 0) = true := neT (n := 0) (by omega)
        try have hwn : ((b.size : Int) != 0) = false := neF (n := 0) (by omega)
        go_wp2_with fail
        go_roundw
        case rel => exact ⟨b, _, rfl, by have := HBS.out; omega, by rw [HB.out]; exact HX, HG2⟩
        case measure => simp [strOf]; have := HBS.out; omega
    · obtain ⟨a, b, rfl, ha, hb'⟩ := hp
      obtain ⟨h1, hd1⟩ := bl_cons hb'
      have q61 : (((b[0]).toNat : Int) == 61) = true := by rw [hd1]; exact eqT hd
      have hwn : ((b.size : Int) != 0) = true := neT (n := 0) (by omega)
      have HL3 := hid (from_one b d r2 hb')
      have HBN := hid hb
      have hbs : (b.extract 1 b.size).size ≤ 4294967296 := by
        have h1 := size_of _ _ HL3.out
        have h2 := key_le HK.out
        have h3 := skip_le wsB r
        have h4 := HS1.out
        simp at h2 h4
        omega
      clear ha hb' hd hd1 hb
      go_wp2_with fail
      refine (consumeBareItem_any _ _ hbs HTr2.out).mono ?_
      rintro e w3 ⟨hp, hg3⟩
      rw [HL3.out, HBN.out] at hp
      obtain ⟨a', b', rfl⟩ := hp
      have HG3 := hid (HG2.out.trans hg3)
      clear hg3
      go_wp2_with fail
      go_ret3
      exact ⟨by rw [HX.out]; exact ⟨_, _, rfl⟩, HG3.out⟩
    · obtain ⟨a, b, rfl, ha, hb'⟩ := hp
      rw [HL2.out] at ha
      obtain ⟨h1, hd1⟩ := bl_cons hb'
      have q61 : (((b[0]).toNat : Int) == 61) = true := by rw [hd1]; exact eqT hd
      have hwn : ((b.size : Int) != 0) = true := neT (n := 0) (by omega)
      have HL3 := hid (from_one b d r2 hb')
      have HBN := hid hb
      have HA := hid ha
      have HLE := hid hle
      have hbs : (b.extract 1 b.size).size ≤ 4294967296 := by
        have h1 := size_of _ _ HL3.out
        have h2 := key_le HK.out
        have h3 := skip_le wsB r
        have h4 := HS1.out
        simp at h2 h4
        omega
      clear ha hb' hd hd1 hb hle
      go_wp2_with fail
      refine (consumeBareItem_any _ _ hbs HTr2.out).mono ?_
      rintro e w3 ⟨hp, hg3⟩
      rw [HL3.out, HBN.out] at hp
      obtain ⟨a', b', rfl, ha', hb''⟩ := hp
      rw [HL3.out] at ha'
      have HA' := hid ha'
      have HB' := hid hb''
      have HBS := hid (show b'.size < t.size by have := size_of _ _ hb''; have := HS1.out; have := HLE.out; simp at *; omega)
      have HG3 := hid (HG2.out.trans hg3)
      clear hg3 ha' hb''
      go_wp2_with fail
      go_roundw
      case rel => exact ⟨b', _, rfl, by have := HBS.out; omega, by rw [HB'.out]; exact HX, HG3⟩
      case measure => simp [strOf]; have := HBS.out; omega

/-- With the closure: what was handed out. -/
def CParPost (B C : Nat) (s : ByteArray) (w : World) (e : Ending) (w' : World) : Prop :=
  Below B w w' ∧ ((par (bl s) = none ∧ Nope e ∧ ∃ ps, Cap w' C B ps) ∨ ∃ ys r ps, par (bl s) = some (ys, r) ∧ Took s r e ∧ psL ps = ys.map (fun x => (x.1, valOf x.2)) ∧ Cap w' C B ps)
theorem cpar_some (B C : Nat) (s : ByteArray) (w w' : World) (e : Ending) (ys : List (Bs × Option Bs)) (r : Bs) (ps : Ps) {R : Option (List (Bs × Option Bs) × Bs)} (h0 : par (bl s) = R) (h : R = some (ys, r)) (hp : psL ps = ys.map (fun x => (x.1, valOf x.2))) (hc : Cap w' C B ps) (hb : Below B w w') (ht : Took s r e) : CParPost B C s w e w' :=
  ⟨hb, .inr ⟨ys, r, ps, h0.trans h, ht, hp, hc⟩⟩
theorem cpar_none (B C : Nat) (s : ByteArray) (w w' : World) (e : Ending) {R : Option (List (Bs × Option Bs) × Bs)} {ps : Ps} (h0 : par (bl s) = R) (h : R = none) (hb : Below B w w') (hc : Cap w' C B ps) (hn : Nope e) : CParPost B C s w e w' :=
  ⟨hb, .inl ⟨h0.trans h, hn, ps, hc⟩⟩

set_option maxHeartbeats 4000000 in
theorem consumeParameter_clo (B C : Nat) (s : ByteArray) (w : World) (hs : s.size ≤ 4294967296) (hT : Lib.Utf8Tabs 0 1 w) (hB2 : 2 ≤ B) (hBC : B ≤ C) (hBw : B ≤ w.heap.size) (hcap : Cap w C B []) :
    Calls Tryd.prog 68 #[.string s, .func (.func 37) #[] #[.pointer (some ⟨C, 0, none⟩)]] w fun e w' => CParPost B C s w e w' := by
  obtain ⟨R, hR⟩ : ∃ R, par (bl s) = R := ⟨_, rfl⟩
  have HR := hid (show pre [] (par (bl s)) = R by rw [pre_nil, hR])
  have HR0 := hid hR
  have HT := hid hT
  clear hT hR
  have hnf : ∀ W : World, (binOp .neq 68 (.func (.func 37) #[] #[.pointer (some ⟨C, 0, none⟩)]) .nilFunc).run Tryd.prog W = .ok (.bool true) W := fun W => by kernel_rfl
  go_enter Tryd.func68, Tryd.ntmps68
  go_wp2_with fail
  go_loopw [5] (fun v wr => ∃ (t : ByteArray) (ys : List (Bs × Option Bs)), v = .string t ∧ t.size ≤ s.size ∧ Hid (pre ys (par (bl t)) = R) ∧ Hid (Below B w wr) ∧ (∃ ps : Ps, Hid (psL ps = ys.map fun x => (x.1, valOf x.2)) ∧ Hid (ps.length + t.size ≤ s.size) ∧ Cap wr C B ps)) (fun v _ => (strOf v).size)
  case atStart => exact ⟨s, [], rfl, Nat.le_refl _, HR, hid (Below.refl _ _), [], hid rfl, hid (by simp), hcap⟩
  case round =>
    clear HR hcap
    obtain ⟨t, ys, rfl, hts, hr, hg, ps, hps, hpl, hcap⟩ := hrel
    have HCP := hid hcap
    clear hcap
    have HTr := hid (tabs_below HT.out hg.out hB2)
    rcases par_round (bl t) ys R hr.out with ⟨hl, hx⟩ | ⟨c, r, hl, hc, hx⟩ | ⟨c, r, hl, hc, hk, hx⟩ | ⟨c, r, r1, hl, hc, hk, hd, hx, hle⟩ | ⟨c, r, d, r2, hl, hc, hk, hd, hb, hx⟩ | ⟨c, r, d, r2, r3, hl, hc, hk, hd, hb, hx, hle⟩
    · obtain rfl := bl_empty hl
      have HX := hid (show R = some (ys, bl ⟨#[]⟩) from hx)
      clear hl hx
      go_wp2_with fail
      go_ret3
      exact cpar_some B C s w _ _ ys (bl ⟨#[]⟩) ps HR0.out HX.out hps.out HCP.out hg.out ⟨_, _, rfl, whole_ahead s, rfl⟩
    · obtain ⟨h0, hc0⟩ := bl_cons hl
      have c1 : (((t[0]).toNat : Int) != 59) = true := by rw [hc0]; exact neT hc
      have hne : ((t.size : Int) != 0) = true := neT (n := 0) (by omega)
      have HX := hid (show R = some (ys, bl t) by rw [hx, hl])
      clear hl hx hc hc0
      go_wp2_with fail
      go_ret3
      exact cpar_some B C s w _ _ ys (bl t) ps HR0.out HX.out hps.out HCP.out hg.out ⟨_, _, rfl, cut_at s t, rfl⟩
    all_goals
      obtain ⟨h0, hc0⟩ := bl_cons hl
      have c1 : (((t[0]).toNat : Int) != 59) = false := by rw [hc0]; exact neF hc
      have hne : ((t.size : Int) != 0) = true := neT (n := 0) (by omega)
      have HL1 := hid (from_one t c r hl)
      have HS1 := hid (size_of t _ hl)
      have HX := hid hx
      clear hx hc hc0 hl
      go_wp2_with fail
      have hs1 : (t.extract 1 t.size).size ≤ 4294967296 := by rw [size_of _ _ HL1.out]; have := HS1.out; simp at this; omega
      refine (countLeftWhitespace_any _ _ (le31 hs1)).mono ?_
      rintro e w1 ⟨⟨k, hk1, rfl, hk2⟩, hg1⟩
      rw [HL1.out] at hk2
      have HL2 := hid (show bl ((t.extract 1 t.size).extract k (t.extract 1 t.size).size) = skip wsB r by rw [bl_from, HL1.out, hk2])
      have HG1 := hid (hg.out.trans (Below.mono hg1 (by have := hg.out.size; omega)))
      have HTr1 := hid (Utf8Tabs_below HTr.out hg1)
      have HCP1 := hid (HCP.out.gr hg1)
      have hsz : (t.extract 1 t.size).size = t.size - 1 := by rw [ByteArray.size_extract]; omega
      obtain ⟨u, hu⟩ : ∃ u, (t.extract 1 t.size).extract k (t.size - 1) = u := ⟨_, rfl⟩
      have HU := hid hu
      rw [hsz, hu] at HL2
      clear hsz
      have hus : u.size ≤ 4294967296 := by rw [size_of _ _ HL2.out]; have := skip_le wsB r; have := HS1.out; simp at this; omega
      clear hk2 hg1 hu
      go_wp2_with fail
      rw [HU.out]
      refine (key_opt _ _ (le31 hus)).mono ?_
      rintro e w2 ⟨hp, hg2⟩
      rw [HL2.out, hk] at hp
      have HG2 := hid (HG1.out.trans (Below.mono hg2 (by have := HG1.out.size; omega)))
      have HTr2 := hid (Utf8Tabs_below HTr1.out hg2)
      have HCP2 := hid (HCP1.out.gr hg2)
      have HK := hid hk
      clear hk hg2
    · obtain ⟨a, b, rfl⟩ := hp
      go_wp2_with fail
      go_ret3
      exact cpar_none B C s w _ _ HR0.out HX.out HG2.out (HCP2.out) ⟨_, _, rfl⟩
    · obtain ⟨a, b, rfl, ha, hb⟩ := hp
      rw [HL2.out] at ha
      have HA := hid ha
      have HB := hid hb
      have hbs := size_of _ _ hb
      have HLE := hid hle
      have hw : (b.size = 0) ∨ ∃ h : 0 < b.size, (((b[0]).toNat : Int) == 61) = false := by
        rcases hd with rfl | ⟨d, t', rfl, hd⟩
        · exact .inl hbs
        · obtain ⟨h, h'⟩ := bl_cons hb
          exact .inr ⟨h, by rw [h']; exact eqF hd⟩
      have HBS := hid (show b.size < t.size by have := HS1.out; simp at this; omega)
      clear ha hb hbs hle hd
      rcases hw with hw | ⟨hw, q61⟩
      all_goals
        try have hwn : ((b.size : Int) != 0) = true := neT (n := 0) (by omega)
        try have hwn : ((b.size : Int) != 0) = false := neF (n := 0) (by omega)
        go_wp2_with fail
        refine (cloParameters B C B _ _ ps _ (Nat.le_refl _) hBC (by have := HG2.out.size; omega) HCP2.out (by have := hpl.out; omega)).mono ?_
        rintro e w3 ⟨rfl, hc3, hg3⟩
        have HCP3 := hid hc3
        have HG3 := hid (HG2.out.trans hg3)
        clear hc3 hg3
        go_wp2_with fail
        go_roundw
        case rel => exact ⟨b, _, rfl, by have := HBS.out; omega, by rw [HB.out]; exact HX, HG3, _, hid (by rw [psL_push, hps.out, HA.out, List.map_append]; rfl), hid (by have := hpl.out; have := HBS.out; simp; omega), HCP3.out⟩
        case measure => simp [strOf]; have := HBS.out; omega
    · obtain ⟨a, b, rfl, ha, hb'⟩ := hp
      obtain ⟨h1, hd1⟩ := bl_cons hb'
      have q61 : (((b[0]).toNat : Int) == 61) = true := by rw [hd1]; exact eqT hd
      have hwn : ((b.size : Int) != 0) = true := neT (n := 0) (by omega)
      have HL3 := hid (from_one b d r2 hb')
      have HBN := hid hb
      have hbs : (b.extract 1 b.size).size ≤ 4294967296 := by
        have h1 := size_of _ _ HL3.out
        have h2 := key_le HK.out
        have h3 := skip_le wsB r
        have h4 := HS1.out
        simp at h2 h4
        omega
      clear ha hb' hd hd1 hb
      go_wp2_with fail
      refine (consumeBareItem_any _ _ hbs HTr2.out).mono ?_
      rintro e w3 ⟨hp, hg3⟩
      rw [HL3.out, HBN.out] at hp
      obtain ⟨a', b', rfl⟩ := hp
      have HG3 := hid (HG2.out.trans (Below.mono hg3 (by have := HG2.out.size; omega)))
      have HCP3 := hid (HCP2.out.gr hg3)
      clear hg3
      go_wp2_with fail
      go_ret3
      exact cpar_none B C s w _ _ HR0.out HX.out HG3.out (HCP3.out) ⟨_, _, rfl⟩
    · obtain ⟨a, b, rfl, ha, hb'⟩ := hp
      rw [HL2.out] at ha
      obtain ⟨h1, hd1⟩ := bl_cons hb'
      have q61 : (((b[0]).toNat : Int) == 61) = true := by rw [hd1]; exact eqT hd
      have hwn : ((b.size : Int) != 0) = true := neT (n := 0) (by omega)
      have HL3 := hid (from_one b d r2 hb')
      have HBN := hid hb
      have HA := hid ha
      have HLE := hid hle
      have hbs : (b.extract 1 b.size).size ≤ 4294967296 := by
        have h1 := size_of _ _ HL3.out
        have h2 := key_le HK.out
        have h3 := skip_le wsB r
        have h4 := HS1.out
        simp at h2 h4
        omega
      clear ha hb' hd hd1 hb hle
      go_wp2_with fail
      refine (consumeBareItem_any _ _ hbs HTr2.out).mono ?_
      rintro e w3 ⟨hp, hg3⟩
      rw [HL3.out, HBN.out] at hp
      obtain ⟨a', b', rfl, ha', hb''⟩ := hp
      rw [HL3.out] at ha'
      have HA' := hid ha'
      have HB' := hid hb''
      have HBS := hid (show b'.size < t.size by have := size_of _ _ hb''; have := HS1.out; have := HLE.out; simp at *; omega)
      have HG3 := hid (HG2.out.trans (Below.mono hg3 (by have := HG2.out.size; omega)))
      have HCP3 := hid (HCP2.out.gr hg3)
      clear hg3 ha' hb''
      go_wp2_with fail
      refine (cloParameters B C B _ _ ps _ (Nat.le_refl _) hBC (by have := HG3.out.size; omega) HCP3.out (by have := hpl.out; omega)).mono ?_
      rintro e w4 ⟨rfl, hc4, hg4⟩
      have HCP4 := hid hc4
      have HG4 := hid (HG3.out.trans hg4)
      clear hc4 hg4
      go_wp2_with fail
      go_roundw
      case rel => exact ⟨b', _, rfl, by have := HBS.out; omega, by rw [HB'.out]; exact HX, HG4, _, hid (by rw [psL_push, hps.out, HA.out, HA'.out, List.map_append]; rfl), hid (by have := hpl.out; have := HBS.out; simp; omega), HCP4.out⟩
      case measure => simp [strOf]; have := HBS.out; omega

end Go.Proofs.YtohjnegllfdemaaDoor
