/-
  What the two listed tables of unicode/utf8 give the walks.
-/
import Derived.Test.YtohjnegllfdemaaDoorRows
import Derived.Test.YtohjnegllfdemaaDoorClo
import Derived.Lib.LaidU8T
import Derived.ProofKit
import Derived.LaidMore
import Derived.MakeChecks
set_option maxRecDepth 100000
namespace Go.Proofs.YtohjnegllfdemaaDoor
open Go.ChangeShapes Go.WideShapes Go.ChangeAt Go.RowKit

/-- The numbers that the four types and two variables have here. -/
def u8ren : Go.Shelf.Ren := ⟨fun n => n, fun | 5 => 5 | 119 => 109 | 138 => 111 | 139 => 112 | n => n, fun | 3 => 0 | 4 => 1 | n => n⟩
theorem u8types : U8Types Tryd.prog u8ren := { t5 := Tryd.underlying5, t119 := Tryd.underlying109, t138 := Tryd.underlying111, t139 := Tryd.underlying112 }
theorem u8extra : U8Extra Tryd.prog u8ren := ⟨by kernel_rfl, by kernel_rfl, by kernel_rfl, by kernel_rfl, by kernel_rfl, by kernel_rfl, by kernel_rfl⟩

theorem tabs_of_laid {W : World} (h : laidMetH Tryd.prog [("unicode/utf8.acceptRanges", Rows.laid_unicode_utf8_acceptRanges), ("unicode/utf8.first", Rows.laid_unicode_utf8_first)] W) : Lib.Utf8Tabs 0 1 W := by
  rw [MakeChecks.laidMetH_plain _ _ _ (by kernel_rfl)] at h
  have e1 : (Rows.laid_unicode_utf8_acceptRanges : DataW Unit) = Lib.acceptData := by kernel_rfl
  have e2 : (Rows.laid_unicode_utf8_first : DataW Unit) = Lib.firstData := by kernel_rfl
  rw [e1, e2] at h
  exact utf8Tabs_of_readsT u8types u8extra (Lib.laidMet.reads h (.tail _ (.head _))) (Lib.laidMet.reads h (.head _))

end Go.Proofs.YtohjnegllfdemaaDoor
