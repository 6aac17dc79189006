/-
  The walks over rows of values: zzFits1, HeaderValuesContainsToken, spec.HasToken; the law.
-/
import Derived.Test.YtkiopdmnkinphaaVal
import Derived.Test.YtkiopdmnkinphaaBool
set_option maxRecDepth 100000
namespace Go.Proofs.Ytkiopdmnkinphaa
open Go.RowKit

/-- A row of strings in memory. -/
def Vs (w : World) (a : Option Addr) (vs : List ByteArray) : Prop :=
  ∀ i (h : i < vs.length), ∃ b off, a = some ⟨b, off, none⟩ ∧ w.cell? ⟨b, off + i, none⟩ = some (.string vs[i])

def fits (vs : List ByteArray) : Bool := decide (vs.length ≤ 2147483647) && vs.all fun v => decide (v.size ≤ 2147483647)

theorem vsAll_yes (p : ByteArray → Bool) (vs : List ByteArray) (k : Nat) (h : k < vs.length) (R : Bool) (hr : (vs.drop k).all p = R) (hc : p vs[k] = true) : (vs.drop (k + 1)).all p = R := by
  rw [List.drop_eq_getElem_cons h, List.all_cons, hc, Bool.true_and] at hr
  exact hr
theorem vsAll_no (p : ByteArray → Bool) (vs : List ByteArray) (k : Nat) (h : k < vs.length) (R : Bool) (hr : (vs.drop k).all p = R) (hc : p vs[k] = false) : false = R := by
  rw [List.drop_eq_getElem_cons h, List.all_cons, hc, Bool.false_and] at hr
  exact hr
theorem vsAll_end (p : ByteArray → Bool) (vs : List ByteArray) (k : Nat) (h : ¬ k < vs.length) (R : Bool) (hr : (vs.drop k).all p = R) : true = R := by
  rw [List.drop_eq_nil_of_le (by omega)] at hr
  simpa using hr
theorem vsAny_no (p : ByteArray → Bool) (vs : List ByteArray) (k : Nat) (h : k < vs.length) (R : Bool) (hr : (vs.drop k).any p = R) (hc : p vs[k] = false) : (vs.drop (k + 1)).any p = R := by
  rw [List.drop_eq_getElem_cons h, List.any_cons, hc, Bool.false_or] at hr
  exact hr
theorem vsAny_yes (p : ByteArray → Bool) (vs : List ByteArray) (k : Nat) (h : k < vs.length) (R : Bool) (hr : (vs.drop k).any p = R) (hc : p vs[k] = true) : true = R := by
  rw [List.drop_eq_getElem_cons h, List.any_cons, hc, Bool.true_or] at hr
  exact hr
theorem vsAny_end (p : ByteArray → Bool) (vs : List ByteArray) (k : Nat) (h : ¬ k < vs.length) (R : Bool) (hr : (vs.drop k).any p = R) : false = R := by
  rw [List.drop_eq_nil_of_le (by omega)] at hr
  simpa using hr

set_option maxHeartbeats 1000000 in
theorem fits_any (a : Option Addr) (cap : Nat) (vs : List ByteArray) (w : World) (hl : vs.length ≤ maxLen) (hv : Vs w a vs) :
    Calls Try.prog 7 #[.slice a vs.length cap] w fun e w' => e = .returned (.bool (fits vs)) ∧ w = w' := by
  unfold maxLen at hl
  by_cases hn : vs.length ≤ 2147483647
  · obtain ⟨R, hR⟩ : ∃ R, (vs.all fun v => decide (v.size ≤ 2147483647)) = R := ⟨_, rfl⟩
    have hf : fits vs = R := by rw [fits, hR]; simp [hn]
    rw [hf]
    have HR := hid hR
    clear hR hf
    go_enter Try.func7, Try.ntmps7
    go_wp2
    go_loop [10] (fun i => ∃ k : Nat, k ≤ vs.length ∧ i = .int .i64 k ∧ Hid ((vs.drop k).all (fun v => decide (v.size ≤ 2147483647)) = R)) (fun i => vs.length - (intOf i).toNat)
    case atStart => exact ⟨0, Nat.zero_le _, rfl, HR⟩
    case round =>
      obtain ⟨k, hk, rfl, hr⟩ := hrel
      by_cases hlt : k < vs.length
      · obtain ⟨b, off, rfl, hcell⟩ := hv k hlt
        by_cases hz : (vs[k]).size ≤ 2147483647
        · have HN := hid (vsAll_yes _ vs k hlt R hr.out (by simpa using hz))
          go_wp2
          go_round
          case rel => exact ⟨k + 1, by omega, by go_num, HN⟩
          case measure => simp [intOf]; omega
        · have HN := hid (vsAll_no _ vs k hlt R hr.out (by simpa using hz))
          go_wp2
          go_ret
          exact ⟨ret_bool HN.out, rfl⟩
      · have HN := hid (vsAll_end _ vs k hlt R hr.out)
        go_wp2
        go_ret
        exact ⟨ret_bool HN.out, rfl⟩
  · have hf : fits vs = false := by simp [fits, hn]
    rw [hf]
    go_enter Try.func7, Try.ntmps7
    go_wp2
    go_ret
    exact ⟨rfl, rfl⟩

set_option maxHeartbeats 1000000 in
theorem values_any (a : Option Addr) (cap : Nat) (vs : List ByteArray) (t : ByteArray) (w : World) (hl : vs.length ≤ maxLen) (hz : ∀ i (h : i < vs.length), (vs[i]).size ≤ maxLen) (hv : Vs w a vs) :
    Calls Try.prog 15 #[.slice a vs.length cap, .string t] w fun e w' => e = .returned (.bool (vs.any fun v => anyP (isEq t) [] (bl v))) ∧ Gr w w' := by
  unfold maxLen at hl
  obtain ⟨R, hR⟩ : ∃ R, (vs.any fun v => anyP (isEq t) [] (bl v)) = R := ⟨_, rfl⟩
  rw [hR]
  have HR := hid hR
  clear hR
  go_enter Try.func15, Try.ntmps15
  go_wp2
  go_loopw [9] (fun i wr => ∃ k : Nat, k ≤ vs.length ∧ i = .int .i64 k ∧ Hid ((vs.drop k).any (fun v => anyP (isEq t) [] (bl v)) = R) ∧ Gr w wr) (fun i _ => vs.length - (intOf i).toNat)
  case atStart => exact ⟨0, Nat.zero_le _, rfl, HR, Gr.refl _⟩
  case round =>
    obtain ⟨k, hk, rfl, hr, hg⟩ := hrel
    by_cases hlt : k < vs.length
    · obtain ⟨b, off, rfl, hcell0⟩ := hv k hlt
      have hcell := hg.cell hcell0
      have hzk := hz k hlt
      cases hq : anyP (isEq t) [] (bl vs[k])
      · have HN := hid (vsAny_no _ vs k hlt R hr.out hq)
        go_wp2_with fail
        refine (value_any _ t _ hzk).mono ?_
        rintro e w1 ⟨rfl, hg1⟩
        rw [hq]
        go_wp2_with fail
        go_roundw
        case rel => exact ⟨k + 1, by omega, by go_num, HN, hg.trans hg1⟩
        case measure => simp [intOf]; omega
      · have HN := hid (vsAny_yes _ vs k hlt R hr.out hq)
        go_wp2_with fail
        refine (value_any _ t _ hzk).mono ?_
        rintro e w1 ⟨rfl, hg1⟩
        rw [hq]
        go_wp2_with fail
        go_ret
        exact ⟨ret_bool HN.out, hg.trans hg1⟩
    · have HN := hid (vsAny_end _ vs k hlt R hr.out)
      go_wp2
      go_ret
      exact ⟨ret_bool HN.out, hg⟩

theorem implHas_any (a : Option Addr) (cap : Nat) (vs : List ByteArray) (t : ByteArray) (w : World) (hl : vs.length ≤ maxLen) (hz : ∀ i (h : i < vs.length), (vs[i]).size ≤ maxLen) (hv : Vs w a vs) :
    Calls Try.prog 10 #[.slice a vs.length cap, .string t] w fun e w' => e = .returned (.bool (vs.any fun v => anyP (isEq t) [] (bl v))) ∧ Gr w w' := by
  go_enter Try.func10, Try.ntmps10
  go_wp2_with fail
  refine (values_any a cap vs t _ hl hz hv).mono ?_
  rintro e w1 ⟨rfl, hg⟩
  go_wp2_with fail
  go_ret
  exact ⟨rfl, hg⟩

/-- The mark that the plain text tries. -/
def isTok (want : Option Bs) (l : Bs) : Bool := match want, foldP (trim l) with | some a, some b => b == a | _, _ => false
theorem isEq_isTok (t : ByteArray) (h : asc (bl t) = true) : isEq t = isTok (foldP (bl t)) := by
  funext l
  rw [isEq, teq_fold _ _ h]
  rfl

theorem part_size (x : ByteArray) (f j : Nat) (hx : x.size ≤ 2147483647) : (x.extract f j).size ≤ maxLen := by
  unfold maxLen
  rw [← bl_length, bl_extract, List.length_take, List.length_drop, bl_length]
  omega
theorem part_next (p : Bs → Bool) (x : ByteArray) (f j : Nat) (q : Bool) (hf : f ≤ j) (h : j < x.size) (hc : (x[j]).toNat ≠ 44) (hr : anyP p (((bl x).drop f).take (j - f)) ((bl x).drop j) = q) :
    anyP p (((bl x).drop f).take (j + 1 - f)) ((bl x).drop (j + 1)) = q := by
  have hg := bl_get x j h
  have hj : ((bl x).drop f)[j - f]? = some x[j] := by
    rw [List.getElem?_drop, show f + (j - f) = j from by omega]
    have := congrArg (·[0]?) hg
    simpa using this
  have hc' : ¬ x[j] = 44 := fun e => hc (by rw [e]; rfl)
  rw [hg, anyP, if_neg hc'] at hr
  rw [show j + 1 - f = (j - f) + 1 from by omega, List.take_add_one, hj]
  exact hr
theorem part_comma (p : Bs → Bool) (x : ByteArray) (acc : Bs) (j : Nat) (q : Bool) (h : j < x.size) (hc : (x[j]).toNat = 44) (hr : anyP p acc ((bl x).drop j) = q) :
    (p acc || anyP p [] ((bl x).drop (j + 1))) = q := by
  have hc' : x[j] = 44 := UInt8.toNat_inj.1 (by rw [hc]; rfl)
  rw [bl_get x j h, anyP, if_pos hc'] at hr
  exact hr
theorem part_end (p : Bs → Bool) (x : ByteArray) (acc : Bs) (j : Nat) (q : Bool) (h : ¬ j < x.size) (hr : anyP p acc ((bl x).drop j) = q) : p acc = q := by
  rw [bl_end x j h, anyP] at hr
  exact hr
theorem verdict {p : Bs → Bool} {t want got y x : ByteArray} {f j : Nat} {ok is : Bool} (hp : p = isTok (foldP (bl t))) (hw : (if ok then some (bl want) else none) = foldP (bl t)) (hg : (if is then some (bl got) else none) = foldP (bl y))
    (hy : bl y = trim (bl (x.extract f j))) : p (((bl x).drop f).take (j - f)) = (ok && is && (got.toList == want.toList)) := by
  rw [hp]
  unfold isTok
  rw [← hw, ← bl_extract, ← hy, ← hg, bl_toList, bl_toList]
  cases ok <;> cases is <;> simp

set_option maxHeartbeats 4000000 in
theorem specHas_any (a : Option Addr) (cap : Nat) (vs : List ByteArray) (t : ByteArray) (w : World) (hl : vs.length ≤ maxLen) (hz : ∀ i (h : i < vs.length), (vs[i]).size ≤ 2147483647) (ht : t.size ≤ maxLen) (hv : Vs w a vs) :
    Calls Try.prog 11 #[.slice a vs.length cap, .string t] w fun e w' => e = .returned (.bool (vs.any fun v => anyP (isTok (foldP (bl t))) [] (bl v))) ∧ Gr w w' := by
  unfold maxLen at hl
  obtain ⟨p, hp⟩ : ∃ p, p = isTok (foldP (bl t)) := ⟨_, rfl⟩
  rw [← hp]
  obtain ⟨R, hR⟩ : ∃ R, (vs.any fun v => anyP p [] (bl v)) = R := ⟨_, rfl⟩
  rw [hR]
  have HR := hid hR
  clear hR
  have HP := hid hp
  clear hp
  go_enter Try.func11, Try.ntmps11
  go_wp2_with fail
  refine (fold_any t _ ht).mono ?_
  rintro e w1 ⟨⟨want, ok, rfl, hw⟩, hg0⟩
  have HW := hid hw
  clear hw
  go_wp2_with fail
  go_loopw [20] (fun i wr => ∃ k : Nat, k ≤ vs.length ∧ i = .int .i64 k ∧ Hid ((vs.drop k).any (fun v => anyP p [] (bl v)) = R) ∧ Gr w wr) (fun i _ => vs.length - (intOf i).toNat)
  case atStart => exact ⟨0, Nat.zero_le _, rfl, HR, hg0⟩
  case round =>
    obtain ⟨k, hk, rfl, hr0, hg⟩ := hrel
    by_cases hlt : k < vs.length
    · obtain ⟨b, off, rfl, hcell0⟩ := hv k hlt
      have hcell := hg.cell hcell0
      have hzk := hz k hlt
      obtain ⟨x, hx⟩ : ∃ x, x = vs[k] := ⟨_, rfl⟩
      obtain ⟨q, hq⟩ : ∃ q, anyP p [] (bl x) = q := ⟨_, rfl⟩
      have HQ := hid hq
      have HX := hid hx
      rw [← hx] at hcell hzk
      clear hq hx
      go_wp2_with fail
      go_loopw [9, 27] (fun f i wr => ∃ from_ j : Nat, f = .int .i64 from_ ∧ i = .int .i64 j ∧ (j ≤ x.size ∧ from_ ≤ j ∧ Hid (anyP p (((bl x).drop from_).take (j - from_)) ((bl x).drop j) = q) ∨ j = x.size + 1 ∧ Hid (q = false)) ∧ Gr w wr) (fun _ i _ => x.size + 1 - (intOf i).toNat)
      case atStart => exact ⟨0, 0, rfl, rfl, .inl ⟨Nat.zero_le _, Nat.le_refl _, HQ⟩, hg⟩
      case round =>
        obtain ⟨f, j, rfl, rfl, hj, hg⟩ := hrel
        rcases hj with ⟨hj, hfj, hr⟩ | ⟨rfl, hr⟩
        · have hps := part_size x f j hzk
          by_cases hjl : j < x.size
          · by_cases hc : (x[j]).toNat = 44
            · have c0 : (((x[j]).toNat : Int) != 44) = false := neF hc
              go_wp2_with fail
              refine (trimmed_any (x.extract f j) _ hps).mono ?_
              rintro e w2 ⟨⟨y, rfl, hy, hsz⟩, rfl⟩
              have HY := hid hy
              clear hy
              go_wp2_with fail
              refine (fold_any y _ (Nat.le_trans hsz hps)).mono ?_
              rintro e w2 ⟨⟨got, is, rfl, hgot⟩, hg1⟩
              have hpv := verdict HP.out HW.out hgot HY.out
              clear hgot
              cases hv : (ok && is && (got.toList == want.toList))
              · have HN := hid (show anyP p [] ((bl x).drop (j + 1)) = q by
                  have h1 := part_comma p x _ j q hjl hc hr.out
                  rwa [hpv, hv, Bool.false_or] at h1)
                clear hpv
                cases ok <;> cases is <;> (try (have he : (got.toList == want.toList) = false := by simpa using hv)) <;> clear hv
                all_goals
                  go_wp2
                  go_roundw
                  case rel => exact ⟨j + 1, j + 1, by go_num, by go_num, .inl ⟨by omega, Nat.le_refl _, by rw [Nat.sub_self]; exact HN⟩, hg.trans hg1⟩
                  case measure => simp [intOf]; omega
              · have HN := hid (show true = q by
                  have h1 := part_comma p x _ j q hjl hc hr.out
                  rwa [hpv, hv, Bool.true_or] at h1)
                clear hpv
                rw [Bool.and_eq_true, Bool.and_eq_true] at hv
                obtain ⟨⟨rfl, rfl⟩, he⟩ := hv
                go_wp2
                go_ret
                exact ⟨ret_bool (vsAny_yes (fun v => anyP p [] (bl v)) vs k hlt R hr0.out (by rw [← HX.out, HQ.out]; exact HN.out.symm)), hg.trans hg1⟩
            · have c0 : (((x[j]).toNat : Int) != 44) = true := neT hc
              have HN := hid (part_next p x f j q hfj hjl hc hr.out)
              go_wp2_with fail
              go_roundw
              case rel => exact ⟨f, j + 1, rfl, by go_num, .inl ⟨by omega, by omega, HN⟩, hg⟩
              case measure => simp [intOf]; omega
          · go_wp2_with fail
            refine (trimmed_any (x.extract f j) _ hps).mono ?_
            rintro e w2 ⟨⟨y, rfl, hy, hsz⟩, rfl⟩
            have HY := hid hy
            clear hy
            go_wp2_with fail
            refine (fold_any y _ (Nat.le_trans hsz hps)).mono ?_
            rintro e w2 ⟨⟨got, is, rfl, hgot⟩, hg1⟩
            have hpv := verdict HP.out HW.out hgot HY.out
            clear hgot
            cases hv : (ok && is && (got.toList == want.toList))
            · have HN := hid (show q = false by
                have h1 := part_end p x _ j q hjl hr.out
                rw [← h1, hpv, hv])
              clear hpv
              cases ok <;> cases is <;> (try (have he : (got.toList == want.toList) = false := by simpa using hv)) <;> clear hv
              all_goals
                go_wp2
                go_roundw
                case rel => exact ⟨j + 1, j + 1, by go_num, by go_num, .inr ⟨by omega, HN⟩, hg.trans hg1⟩
                case measure => simp [intOf]; omega
            · have HN := hid (show true = q by
                have h1 := part_end p x _ j q hjl hr.out
                rw [← h1, hpv, hv])
              clear hpv
              rw [Bool.and_eq_true, Bool.and_eq_true] at hv
              obtain ⟨⟨rfl, rfl⟩, he⟩ := hv
              go_wp2
              go_ret
              exact ⟨ret_bool (vsAny_yes (fun v => anyP p [] (bl v)) vs k hlt R hr0.out (by rw [← HX.out, HQ.out]; exact HN.out.symm)), hg.trans hg1⟩
        · have c1 : ¬ ((x.size + 1 : Nat) : Int) < (x.size : Int) + 1 := by omega
          have HN := hid (vsAny_no (fun v => anyP p [] (bl v)) vs k hlt R hr0.out (by rw [← HX.out, HQ.out]; exact hr.out))
          go_wp2
          go_roundw
          case rel => exact ⟨k + 1, by omega, by go_num, HN, hg⟩
          case measure => simp [intOf]; omega
    · have HN := hid (vsAny_end _ vs k hlt R hr0.out)
      go_wp2
      go_ret
      exact ⟨ret_bool HN.out, hg⟩


theorem allTok_asc (l : Bs) (h : l.all (fun c => tokB c.toNat) = true) : asc l = true := by
  unfold asc
  rw [List.all_eq_true] at h ⊢
  intro c hc
  have h1 := h c hc
  have h2 : ∀ n : Nat, tokB n = true → n < 128 := by
    intro n hn
    simp only [tokB, alpB, lowB, uppB, digB, Bool.or_eq_true, Bool.and_eq_true, decide_eq_true_eq] at hn
    rcases hn with ((h | h) | h) | h
    · omega
    · omega
    · omega
    · simp [amongB, tokMarks] at h
      omega
  simpa using h2 _ h1

theorem vs_one (w : World) (s : ByteArray) (t : TypeId) : Vs (w.alloc (.cells #[.string s] t)) (some ⟨w.heap.size, 0, none⟩) [s] := by
  intro i hi
  have : i = 0 := by simpa using hi
  subst this
  refine ⟨_, _, rfl, ?_⟩
  simp

set_option maxHeartbeats 2000000 in
/-- The law's walk. -/
theorem lawHasToken_walk (a : Option Addr) (cap : Nat) (vs : List ByteArray) (t : ByteArray) (w : World) (hl : vs.length ≤ maxLen) (hz : ∀ i (h : i < vs.length), (vs[i]).size ≤ maxLen) (ht : t.size ≤ maxLen) (hv : Vs w a vs) :
    Calls Try.prog 4 #[.slice a vs.length cap, .string t] w fun e w' => e = .returned (.bool true) ∧ Gr w w' := by
  cases hf : fits vs
  · go_enter Try.func4, Try.ntmps4
    go_wp2_with fail
    refine (fits_any a cap vs _ hl hv).mono ?_
    rintro e w1 ⟨rfl, rfl⟩
    rw [hf]
    go_wp2
    go_ret
    exact ⟨rfl, Gr.refl _⟩
  · by_cases h2 : t.size ≤ 2147483647
    · cases hn : ((bl t).all (fun c => tokB c.toNat) && !t.toList.isEmpty)
      · go_enter Try.func4, Try.ntmps4
        go_wp2_with fail
        refine (fits_any a cap vs _ hl hv).mono ?_
        rintro e w1 ⟨rfl, rfl⟩
        rw [hf]
        go_wp2_with fail
        refine (tokenName_any t _ ht).mono ?_
        rintro e w1 ⟨rfl, rfl⟩
        rw [hn]
        go_wp2_with fail
        refine (works_any _).mono ?_
        rintro e w1 ⟨rfl, hg⟩
        go_wp2_with fail
        go_ret
        exact ⟨rfl, hg⟩
      · have hasc := allTok_asc _ (Bool.and_eq_true _ _ ▸ hn).1
        have hz2 : ∀ i (h : i < vs.length), (vs[i]).size ≤ 2147483647 := by
          intro i hi
          rw [fits, Bool.and_eq_true, List.all_eq_true] at hf
          simpa using hf.2 _ (List.getElem_mem hi)
        have hp := isEq_isTok t hasc
        have hz1 : ∀ i (h : i < ([⟨#[97, 44, 32, 98]⟩] : List ByteArray).length), (([⟨#[97, 44, 32, 98]⟩] : List ByteArray)[i]).size ≤ maxLen := by
          intro i hi
          have : i = 0 := by simpa using hi
          subst this
          show (⟨#[97, 44, 32, 98]⟩ : ByteArray).size ≤ maxLen
          decide
        have one : ([⟨#[97, 44, 32, 98]⟩] : List ByteArray).any (fun v => anyP (isEq ⟨#[66]⟩) [] (bl v)) = true := by decide
        go_enter Try.func4, Try.ntmps4
        go_wp2_with fail
        refine (fits_any a cap vs _ hl hv).mono ?_
        rintro e w1 ⟨rfl, rfl⟩
        rw [hf]
        go_wp2_with fail
        refine (tokenName_any t _ ht).mono ?_
        rintro e w1 ⟨rfl, rfl⟩
        rw [hn]
        go_wp2_with fail
        refine (implHas_any a cap vs t _ hl hz hv).mono ?_
        rintro e w1 ⟨rfl, hg1⟩
        have hv1 : Vs w1 a vs := fun i hi => by
          obtain ⟨b, off, h1, h2⟩ := hv i hi
          exact ⟨b, off, h1, hg1.cell h2⟩
        go_wp2_with fail
        refine (specHas_any a cap vs t _ hl hz2 ht hv1).mono ?_
        rintro e w2 ⟨rfl, hg2⟩
        have hv2 := vs_one w2 ⟨#[97, 44, 32, 98]⟩ 9
        go_wp2_with fail
        refine (implHas_any _ 1 [⟨#[97, 44, 32, 98]⟩] ⟨#[66]⟩ _ (by decide) hz1 hv2).mono ?_
        rintro e w3 ⟨rfl, hg3⟩
        rw [one]
        go_wp2_with fail
        go_ret
        exact ⟨rfl, ((hg1.trans hg2).alloc _).trans hg3⟩
    · go_enter Try.func4, Try.ntmps4
      go_wp2_with fail
      refine (fits_any a cap vs _ hl hv).mono ?_
      rintro e w1 ⟨rfl, rfl⟩
      rw [hf]
      go_wp2
      go_ret
      exact ⟨rfl, Gr.refl _⟩
end Go.Proofs.Ytkiopdmnkinphaa
