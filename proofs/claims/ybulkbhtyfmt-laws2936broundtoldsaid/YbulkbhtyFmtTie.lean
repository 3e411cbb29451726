/-
  DERIVED. GIVEN WITH THE SEED: THE PROGRAM's TIES (one call each: nine closed facts by the kernel) AND EACH ROW's TIE, after the 31st guide's Derived/Test/Toyas{Tie, Card}.lean. No idea stands in it: it is a product of the set-up. Laid BY PROGRAM, IN A SANDBOX (cutbox-door.mjs). By AI agents, Wed Nov 11 2026. No macro, syntax, notation, axiom, sorry.
-/
import Derived.Test.YbulkbhtyFmtRows
import Derived.LaidByTextLater
import Derived.SevenTiedAt
import Derived.LaidSub
import Derived.LaidOnce
namespace Go.Proofs.YbulkbhtyFmt
open Go
set_option maxRecDepth 100000
theorem seatTie1 : Ybaf.prog.laidByTextLater [("example.com/interlock/interlock/lock.policyNames", Rows.laid_example_com_interlock_interlock_lock_policyNames)] [.widerDeep] true :=
  Program.laidByTextLater_by_one 14 8 4 (by kernel_rfl) (by kernel_rfl) (by kernel_rfl) (by kernel_rfl) (by kernel_rfl) (by kernel_rfl) (fun _ _ => by kernel_rfl)
theorem noOwnUnsafe : Ybaf.pinned.checked.prog.headLifts.contains "ownunsafe" = false := by kernel_rfl
theorem tie : Ybaf.prog.laidByTextLater [("example.com/interlock/interlock/lock.policyNames", Rows.laid_example_com_interlock_interlock_lock_policyNames)] [.widerDeep] true :=
  Program.laidByTextLater.sub seatTie1 ["example.com/interlock/interlock/lock.policyNames"] (by kernel_rfl) (by kernel_rfl)
theorem lawS2936BExact_row_tie : Rows.lawS2936BExactRow.laidByTextAt .later Ybaf.pinned [.widerDeep] true :=
  OpenClaim.laidByTextAt_later rfl rfl tie noOwnUnsafe
theorem lawS2936BRound_row_tie : Rows.lawS2936BRoundRow.laidByTextAt .later Ybaf.pinned [.widerDeep] true :=
  OpenClaim.laidByTextAt_later rfl rfl tie noOwnUnsafe
end Go.Proofs.YbulkbhtyFmt
