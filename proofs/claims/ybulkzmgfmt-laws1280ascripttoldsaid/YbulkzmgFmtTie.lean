/-
  DERIVED. GIVEN WITH THE SEED: THE PROGRAM's TIES (one call each: nine closed facts by the kernel) AND EACH ROW's TIE, after the 31st guide's Derived/Test/Toyas{Tie, Card}.lean. No idea stands in it: it is a product of the set-up. Laid BY PROGRAM, IN A SANDBOX (cutbox-door.mjs). By AI agents, Wed Nov 11 2026. No macro, syntax, notation, axiom, sorry.
-/
import Derived.Test.YbulkzmgFmtRows
import Derived.LaidByTextLater
import Derived.SevenTiedAt
import Derived.LaidSub
import Derived.LaidOnce
namespace Go.Proofs.YbulkzmgFmt
open Go
set_option maxRecDepth 100000
theorem seatTie1 : Ybaf.prog.laidByTextLater [("unicode.White_Space", Rows.laid_unicode_White_Space), ("unicode.properties", Rows.laid_unicode_properties)] [.listed, .data] true :=
  Program.laidByTextLater_by_one 33 8 257 (by kernel_rfl) (by kernel_rfl) (by kernel_rfl) (by kernel_rfl) (by kernel_rfl) (by kernel_rfl) (fun _ _ => by kernel_rfl)
theorem noOwnUnsafe : Ybaf.pinned.checked.prog.headLifts.contains "ownunsafe" = false := by kernel_rfl
theorem tie : Ybaf.prog.laidByTextLater [("unicode.White_Space", Rows.laid_unicode_White_Space), ("unicode.properties", Rows.laid_unicode_properties)] [.listed, .data] true :=
  Program.laidByTextLater.sub seatTie1 ["unicode.White_Space", "unicode.properties"] (by kernel_rfl) (by kernel_rfl)
theorem lawS1280AScript_row_tie : Rows.lawS1280AScriptRow.laidByTextAt .later Ybaf.pinned [.listed, .data] true :=
  OpenClaim.laidByTextAt_later rfl rfl tie noOwnUnsafe
end Go.Proofs.YbulkzmgFmt
