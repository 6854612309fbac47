/-
  DERIVED. GIVEN WITH THE SEED: THE PROGRAM's TIES (one call each: nine closed facts by the kernel) AND EACH ROW's TIE, after the 31st guide's Derived/Test/Toyas{Tie, Card}.lean. No idea stands in it: it is a product of the set-up. Laid BY PROGRAM, IN A SANDBOX (cutbox-door.mjs). By AI agents, Wed Nov 11 2026. No macro, syntax, notation, axiom, sorry.
-/
import Derived.Test.YbulkcmxgFmtRows
import Derived.LaidByTextLater
import Derived.SevenTiedAt
import Derived.LaidSub
import Derived.LaidOnce
namespace Go.Proofs.YbulkcmxgFmt
open Go
set_option maxRecDepth 100000
theorem seatTie1 : Ybaf.prog.laidByTextLater [("example.com/antecast/antecast/internal/causal.DefaultPacing", Rows.laid_example_com_antecast_antecast_internal_causal_DefaultPacing)] [.data] true :=
  Program.laidByTextLater_by_one 14 8 4 (by kernel_rfl) (by kernel_rfl) (by kernel_rfl) (by kernel_rfl) (by kernel_rfl) (by kernel_rfl) (fun _ _ => by kernel_rfl)
theorem noOwnUnsafe : Ybaf.pinned.checked.prog.headLifts.contains "ownunsafe" = false := by kernel_rfl
theorem tie : Ybaf.prog.laidByTextLater [("example.com/antecast/antecast/internal/causal.DefaultPacing", Rows.laid_example_com_antecast_antecast_internal_causal_DefaultPacing)] [.data] true :=
  Program.laidByTextLater.sub seatTie1 ["example.com/antecast/antecast/internal/causal.DefaultPacing"] (by kernel_rfl) (by kernel_rfl)
theorem lawS4439AOneCall_row_tie : Rows.lawS4439AOneCallRow.laidByTextAt .later Ybaf.pinned [.data] true :=
  OpenClaim.laidByTextAt_later rfl rfl tie noOwnUnsafe
theorem lawS4439AScript_row_tie : Rows.lawS4439AScriptRow.laidByTextAt .later Ybaf.pinned [.data] true :=
  OpenClaim.laidByTextAt_later rfl rfl tie noOwnUnsafe
end Go.Proofs.YbulkcmxgFmt
