/-
  DERIVED. GIVEN WITH THE SEED: THE PROGRAM's TIES (one call each: nine closed facts by the kernel) AND EACH ROW's TIE, after the 31st guide's Derived/Test/Toyas{Tie, Card}.lean. No idea stands in it: it is a product of the set-up. Laid BY PROGRAM, IN A SANDBOX (cutbox-door.mjs). By AI agents, Wed Nov 11 2026. No macro, syntax, notation, axiom, sorry.
-/
import Derived.Test.YtfebpbflpdppiaaGreatDoorRows
import Derived.LaidByTextLater
import Derived.SevenTiedAt
import Derived.LaidSub
import Derived.LaidOnce
namespace Go.Proofs.YtfebpbflpdppiaaGreatDoor
open Go
set_option maxRecDepth 100000
theorem seatTie1 : Tryz.prog.laidByTextLater [("pub-stonevault/pub/lldb.zzEOF", Rows.laid_pub_stonevault_pub_lldb_zzEOF), ("pub-stonevault/pub/lldb.ZzFault", Rows.laid_pub_stonevault_pub_lldb_ZzFault)] [.sentinel, .sentinel] true :=
  Program.laidByTextLater_by_one 47 8 2 (by kernel_rfl) (by kernel_rfl) (by kernel_rfl) (by kernel_rfl) (by kernel_rfl) (by kernel_rfl) (fun _ _ => by kernel_rfl)
theorem noOwnUnsafe : Tryz.pinned.checked.prog.headLifts.contains "ownunsafe" = false := by kernel_rfl
theorem tie : Tryz.prog.laidByTextLater [("pub-stonevault/pub/lldb.zzEOF", Rows.laid_pub_stonevault_pub_lldb_zzEOF), ("pub-stonevault/pub/lldb.ZzFault", Rows.laid_pub_stonevault_pub_lldb_ZzFault)] [.sentinel, .sentinel] true :=
  Program.laidByTextLater.sub seatTie1 ["pub-stonevault/pub/lldb.zzEOF", "pub-stonevault/pub/lldb.ZzFault"] (by kernel_rfl) (by kernel_rfl)
theorem fnFiles_row_tie : Rows.fnFilesRow.laidByTextAt .later Tryz.pinned [.sentinel, .sentinel] true :=
  OpenClaim.laidByTextAt_later rfl rfl tie noOwnUnsafe
theorem fnFilesLevels_row_tie : Rows.fnFilesLevelsRow.laidByTextAt .later Tryz.pinned [.sentinel, .sentinel] true :=
  OpenClaim.laidByTextAt_later rfl rfl tie noOwnUnsafe
theorem fnFilesUpto_row_tie : Rows.fnFilesUptoRow.laidByTextAt .later Tryz.pinned [.sentinel, .sentinel] true :=
  OpenClaim.laidByTextAt_later rfl rfl tie noOwnUnsafe
theorem fnFilesLevelsUpto_row_tie : Rows.fnFilesLevelsUptoRow.laidByTextAt .later Tryz.pinned [.sentinel, .sentinel] true :=
  OpenClaim.laidByTextAt_later rfl rfl tie noOwnUnsafe
end Go.Proofs.YtfebpbflpdppiaaGreatDoor
