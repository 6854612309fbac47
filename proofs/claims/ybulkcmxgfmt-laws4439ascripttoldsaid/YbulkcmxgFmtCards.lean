/-
  DERIVED. GIVEN WITH THE SEED: THE CARDS: each row of YbulkcmxgFmtRows.lean that lists a variable, with what it lists TIED to the program's text (the seventh form; the later family's looks); each row that meets fmt, with fmt's text TOLD by the authors' own Lean function (tested against real Go, not proved from fmt's source: count such statements apart). THE CARD IS WHAT COUNTS. Prove the row's statement (the work); the ties are given (YbulkcmxgFmtTie.lean); close each card by the builder's one call (the guide's Derived/Test/ToyasCard.lean, 'card_holds'). Laid BY PROGRAM, IN A SANDBOX (cutbox-door.mjs). By AI agents, Wed Nov 11 2026. No macro, syntax, notation, axiom, sorry.
-/
import Derived.Test.YbulkcmxgFmtRows
import GoSem.ClaimSeven
namespace Go.Proofs.YbulkcmxgFmt
namespace Rows

/-- THE TOLD AND TIED CARD OF 'causal.LawS4439AOneCall'. -/
def lawS4439AOneCallCard : Claim7 := { stood := { row := lawS4439AOneCallRow, standIns := [], harness := (true, "51549e6bba34156db536187b90223ee1387d7401bf1212c6e3cdc2353cca7cd3"), looks := false }, told := true, laidByText := true, laidKinds := [.data], laidTests := true, laidLooks := .later, goes := false }
def LawS4439AOneCallToldSaid : Prop := Claim7.holds Ybaf.pinned (.plain (OpenSpec.ofChange lawS4439AOneCallSpec)) lawS4439AOneCallCard
/-- ITS FALSE NEIGHBOUR. Refute it at one input. -/
def LawS4439AOneCallToldWrongFalsely : Prop := Claim7.holds Ybaf.pinned (.plain (OpenSpec.ofChange lawS4439AOneCallWrong)) lawS4439AOneCallCard

/-- THE TOLD AND TIED CARD OF 'causal.LawS4439AScript'. -/
def lawS4439AScriptCard : Claim7 := { stood := { row := lawS4439AScriptRow, standIns := [], harness := (true, "51549e6bba34156db536187b90223ee1387d7401bf1212c6e3cdc2353cca7cd3"), looks := false }, told := true, laidByText := true, laidKinds := [.data], laidTests := true, laidLooks := .later, goes := false }
def LawS4439AScriptToldSaid : Prop := Claim7.holds Ybaf.pinned (.plain (OpenSpec.ofChange lawS4439AScriptSpec)) lawS4439AScriptCard
/-- ITS FALSE NEIGHBOUR. Refute it at one input. -/
def LawS4439AScriptToldWrongFalsely : Prop := Claim7.holds Ybaf.pinned (.plain (OpenSpec.ofChange lawS4439AScriptWrong)) lawS4439AScriptCard
end Rows
end Go.Proofs.YbulkcmxgFmt
