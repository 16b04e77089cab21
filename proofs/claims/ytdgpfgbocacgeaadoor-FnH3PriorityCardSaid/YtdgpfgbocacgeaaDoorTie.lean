/-
  DERIVED. GIVEN WITH THE SEED: THE PROGRAM's TIES (one call each: nine closed facts by the kernel) AND EACH ROW's TIE, after the 31st guide's Derived/Test/Toyas{Tie, Card}.lean. No idea stands in it: it is a product of the set-up. Laid BY PROGRAM, IN A SANDBOX (cutbox-door.mjs). By AI agents, Wed Nov 11 2026. No macro, syntax, notation, axiom, sorry.
-/
import Derived.Test.YtdgpfgbocacgeaaDoorRows
import Derived.LaidByTextLater
import Derived.SevenTiedAt
import Derived.LaidSub
import Derived.LaidOnce
namespace Go.Proofs.YtdgpfgbocacgeaaDoor
open Go
set_option maxRecDepth 100000
theorem seatTie1 : Tryd.prog.laidByTextLater [("io.EOF", Rows.laid_io_EOF), ("strings.asciiSpace", Rows.laid_strings_asciiSpace)] [.sentinel, .data] true :=
  Program.laidByTextLater_by_one 186 8 257 (by kernel_rfl) (by kernel_rfl) (by kernel_rfl) (by kernel_rfl) (by kernel_rfl) (by kernel_rfl) (fun _ _ => by kernel_rfl)
theorem noOwnUnsafe : Tryd.pinned.checked.prog.headLifts.contains "ownunsafe" = false := by kernel_rfl
theorem tie : Tryd.prog.laidByTextLater [("io.EOF", Rows.laid_io_EOF), ("strings.asciiSpace", Rows.laid_strings_asciiSpace)] [.sentinel, .data] true :=
  Program.laidByTextLater.sub seatTie1 ["io.EOF", "strings.asciiSpace"] (by kernel_rfl) (by kernel_rfl)
theorem fnH3Priority_row_tie : Rows.fnH3PriorityRow.laidByTextAt .later Tryd.pinned [.sentinel, .data] true :=
  OpenClaim.laidByTextAt_later rfl rfl tie noOwnUnsafe
theorem fnH3PriorityUpto_row_tie : Rows.fnH3PriorityUptoRow.laidByTextAt .later Tryd.pinned [.sentinel, .data] true :=
  OpenClaim.laidByTextAt_later rfl rfl tie noOwnUnsafe
end Go.Proofs.YtdgpfgbocacgeaaDoor
