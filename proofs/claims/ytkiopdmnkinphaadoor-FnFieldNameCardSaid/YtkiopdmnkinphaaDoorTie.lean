/-
  DERIVED. GIVEN WITH THE SEED: THE PROGRAM's TIES (one call each: nine closed facts by the kernel) AND EACH ROW's TIE, after the 31st guide's Derived/Test/Toyas{Tie, Card}.lean. No idea stands in it: it is a product of the set-up. Laid BY PROGRAM, IN A SANDBOX (cutbox-door.mjs). By AI agents, Wed Nov 11 2026. No macro, syntax, notation, axiom, sorry.
-/
import Derived.Test.YtkiopdmnkinphaaDoorRows
import Derived.LaidByTextLater
import Derived.SevenTiedAt
import Derived.LaidSub
import Derived.LaidOnce
namespace Go.Proofs.YtkiopdmnkinphaaDoor
open Go
set_option maxRecDepth 100000
theorem seatTie1 : Tryd.prog.laidByTextLater [("httpfields/pub/httpguts.isTokenTable", Rows.laid_httpfields_pub_httpguts_isTokenTable)] [.data] true :=
  Program.laidByTextLater_by_one 19 8 257 (by kernel_rfl) (by kernel_rfl) (by kernel_rfl) (by kernel_rfl) (by kernel_rfl) (by kernel_rfl) (fun _ _ => by kernel_rfl)
theorem seatTie2 : Tryd.prog.laidByTextLater [("httpfields/pub/httpguts.validHostByte", Rows.laid_httpfields_pub_httpguts_validHostByte)] [.data] true :=
  Program.laidByTextLater_by_one 19 8 257 (by kernel_rfl) (by kernel_rfl) (by kernel_rfl) (by kernel_rfl) (by kernel_rfl) (by kernel_rfl) (fun _ _ => by kernel_rfl)
theorem noOwnUnsafe : Tryd.pinned.checked.prog.headLifts.contains "ownunsafe" = false := by kernel_rfl
theorem tie : Tryd.prog.laidByTextLater [("httpfields/pub/httpguts.isTokenTable", Rows.laid_httpfields_pub_httpguts_isTokenTable)] [.data] true :=
  Program.laidByTextLater.sub seatTie1 ["httpfields/pub/httpguts.isTokenTable"] (by kernel_rfl) (by kernel_rfl)
theorem fnTokenRune_row_tie : Rows.fnTokenRuneRow.laidByTextAt .later Tryd.pinned [.data] true :=
  OpenClaim.laidByTextAt_later rfl rfl tie noOwnUnsafe
theorem fnFieldName_row_tie : Rows.fnFieldNameRow.laidByTextAt .later Tryd.pinned [.data] true :=
  OpenClaim.laidByTextAt_later rfl rfl tie noOwnUnsafe
theorem tie2 : Tryd.prog.laidByTextLater [("httpfields/pub/httpguts.validHostByte", Rows.laid_httpfields_pub_httpguts_validHostByte)] [.data] true :=
  Program.laidByTextLater.sub seatTie2 ["httpfields/pub/httpguts.validHostByte"] (by kernel_rfl) (by kernel_rfl)
theorem fnHost_row_tie : Rows.fnHostRow.laidByTextAt .later Tryd.pinned [.data] true :=
  OpenClaim.laidByTextAt_later rfl rfl tie2 noOwnUnsafe
theorem fnTokenRuneUpto_row_tie : Rows.fnTokenRuneUptoRow.laidByTextAt .later Tryd.pinned [.data] true :=
  OpenClaim.laidByTextAt_later rfl rfl tie noOwnUnsafe
theorem fnFieldNameUpto_row_tie : Rows.fnFieldNameUptoRow.laidByTextAt .later Tryd.pinned [.data] true :=
  OpenClaim.laidByTextAt_later rfl rfl tie noOwnUnsafe
theorem fnHostUpto_row_tie : Rows.fnHostUptoRow.laidByTextAt .later Tryd.pinned [.data] true :=
  OpenClaim.laidByTextAt_later rfl rfl tie2 noOwnUnsafe
end Go.Proofs.YtkiopdmnkinphaaDoor
