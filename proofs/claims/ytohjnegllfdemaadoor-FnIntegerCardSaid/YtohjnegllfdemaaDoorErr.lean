/-
  What the row's laid variable strconv.ErrSyntax gives a walk: an interface value that is not nil.
-/
import Derived.Test.YtohjnegllfdemaaDoorRows
import Derived.Test.YtohjnegllfdemaaDoorGr
import Derived.Stop.LaidErr
import Derived.LaidMore
import Derived.MakeChecks
import Derived.ProofKit
set_option maxRecDepth 100000
namespace Go.Proofs.YtohjnegllfdemaaDoor
open Go.RowKit

theorem starS : "*" ++ "errors.errorString" = "*errors.errorString" := by decide
theorem rowStar (u : TypeId) (h : Tryd.prog.typeName? 3 u = some "*errors.errorString") : u = 129 :=
  typeName_ptr_named (nm := "errors.errorString") (by rw [starS]; kernel_rfl) (by kernel_rfl) (by decide) u (by rw [starS]; exact h)
theorem err_of_laid {W : World} (h : laidMetH Tryd.prog Rows.fnIntegerRow.laid W) : ∃ (tp : TypeId) (p : Value), W.cell? ⟨2, 0, none⟩ = some (.iface tp p) := by
  rw [MakeChecks.laidMetH_plain _ _ _ (by kernel_rfl)] at h
  have h4 := h.tail.tail.tail.tail
  have hg : Tryd.prog.globalNamed "strconv.ErrSyntax" = some 2 := by kernel_rfl
  obtain ⟨a, s, hv, _⟩ := laid_sentinel h4 hg (ti := 91) (by kernel_rfl) Tryd.underlying91 rowStar Tryd.underlying129 Tryd.underlying131 rfl rfl Tryd.underlying9 (by kernel_rfl) (by kernel_rfl)
  exact ⟨_, _, by have h0 := World.var?_cell hg hv 0; simpa using h0⟩

end Go.Proofs.YtohjnegllfdemaaDoor
