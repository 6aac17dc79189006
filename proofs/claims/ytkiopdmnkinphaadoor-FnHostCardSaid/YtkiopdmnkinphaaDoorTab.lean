/-
  What the listed tables give the walks: each cell of the two tables of bools.
-/
import Derived.Test.YtkiopdmnkinphaaDoorRows
import Derived.Test.YtkiopdmnkinphaaDoorTok
import Derived.WalkKit
import Derived.ProofKit
import Derived.LaidMore
import Derived.OpenShut
import Derived.MakeChecks
namespace Go.Proofs.YtkiopdmnkinphaaDoor
open Go.ChangeShapes Go.WideShapes Go.ChangeAt Go.RowKit

theorem gTok : Tryd.prog.globalNamed "httpfields/pub/httpguts.isTokenTable" = some 0 := by kernel_rfl
theorem gHost : Tryd.prog.globalNamed "httpfields/pub/httpguts.validHostByte" = some 1 := by kernel_rfl
theorem tTok : (Tryd.prog.globals[0]?).map (·.type) = some 26 := by kernel_rfl
theorem tHost : (Tryd.prog.globals[1]?).map (·.type) = some 26 := by kernel_rfl
theorem cBool : Tryd.prog.cellsOf 4 = 1 := by kernel_rfl

/-- The datum of a table. -/
def tabD (p : Nat → Bool) : DataW Unit := .agg ((List.range 256).map fun i => .lit (.bool (p i)))
theorem tokD : (Rows.laid_httpfields_pub_httpguts_isTokenTable : DataW Unit) = tabD tokB := by kernel_rfl
theorem hostD : (Rows.laid_httpfields_pub_httpguts_validHostByte : DataW Unit) = tabD hostB := by kernel_rfl

theorem tab_of_trod {W : World} {n : String} {g fuel : Nat} {cs : Array Value} {q : List MemPlace} {p : Nat → Bool} (hg : Tryd.prog.globalNamed n = some g) (hv : W.var? Tryd.prog n = some cs)
    (hd : DataW.trod (fun _ => ()) Tryd.prog W 0 (fun _ => true) false fuel 26 cs.toList = some (tabD p, q)) : BoolTab g p W := by
  intro i hi
  obtain ⟨xs, m1, rfl, hx1, hlen, hn3, hel⟩ := DataW.trod_array Tryd.underlying26 hd
  have h1 := hel i hi
  rw [cBool, Nat.mul_one] at h1
  obtain ⟨x, hx⟩ : ∃ x, xs[i]? = some x := ⟨xs[i]'(by omega), List.getElem?_eq_getElem (by omega)⟩
  rw [hx] at h1
  obtain ⟨b, hb, rfl⟩ := DataW.trod_bool Tryd.underlying4 h1
  have hmap : (xs.map (·.1)) = (List.range 256).map fun i => (.lit (.bool (p i)) : DataW Unit) := by
    have := congrArg Prod.fst hx1
    unfold tabD at this
    simpa using this.symm
  have hbi : b = p i := by
    have h2 : (xs.map (·.1))[i]? = some (.lit (.bool b)) := by simp [hx]
    rw [hmap] at h2
    have hr : (List.range 256)[i]? = some i := by rw [List.getElem?_range hi]
    simp only [List.getElem?_map, hr, Option.map_some] at h2
    injection h2 with h2
    injection h2 with h2
    injection h2 with h2
    exact h2.symm
  subst hbi
  rw [World.var?_cell hg hv i]
  have h3 : cs.toList[i]? = some (.bool (p i)) := by
    have := congrArg (·[0]?) hb
    simpa [List.getElem?_take, List.getElem?_drop] using this
  simpa using h3

theorem tok_of_laid {W : World} (h : laidMetH Tryd.prog [("httpfields/pub/httpguts.isTokenTable", Rows.laid_httpfields_pub_httpguts_isTokenTable)] W) : BoolTab 0 tokB W := by
  rw [tokD, MakeChecks.laidMetH_plain _ _ _ (by kernel_rfl)] at h
  obtain ⟨ps, ⟨g0, t0, cs0, f0, p0, q0, hg0, ht0, hv0, hd0, _, _⟩, _⟩ := h
  obtain rfl := Option.some.inj (gTok.symm.trans hg0)
  obtain rfl := Option.some.inj (tTok.symm.trans ht0)
  exact tab_of_trod hg0 hv0 hd0

theorem host_of_laid {W : World} (h : laidMetH Tryd.prog [("httpfields/pub/httpguts.validHostByte", Rows.laid_httpfields_pub_httpguts_validHostByte)] W) : BoolTab 1 hostB W := by
  rw [hostD, MakeChecks.laidMetH_plain _ _ _ (by kernel_rfl)] at h
  obtain ⟨ps, ⟨g0, t0, cs0, f0, p0, q0, hg0, ht0, hv0, hd0, _, _⟩, _⟩ := h
  obtain rfl := Option.some.inj (gHost.symm.trans hg0)
  obtain rfl := Option.some.inj (tHost.symm.trans ht0)
  exact tab_of_trod hg0 hv0 hd0
end Go.Proofs.YtkiopdmnkinphaaDoor
