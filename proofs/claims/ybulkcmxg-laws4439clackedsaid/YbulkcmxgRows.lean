/-
  No cell of these rows narrows 'for every input' (looked for: loops, veiled, ifaces, maps, wideKeys, modest, calm, conditions, laid).
  DERIVED. THE GIVEN ROWS OF THIS SEAT. 4 by the template 'for every input the law returns true; each argument reads behind the call as it read before'; 0 by the template 'total and deterministic' (their statements: YbulkcmxgTotals.lean).
  GIVEN WITH THE SEED: the statements are not yours to turn. If you find one false, say at which input.
  Laid BY PROGRAM, IN A SANDBOX (cutbox-rows.mjs): the forced cells as the released guide's own fill.sh prints them over the translation 598368d07f45e397… (all of the seat's roots in one cut). By AI agents, Wed Nov 11 2026. No macro, syntax, notation, axiom, sorry.
-/
import Derived.Test.YbulkcmxgChecked
import GoSem.Claim
import GoSem.ClaimJoined
import GoSem.ClaimMapViews
import Derived.JoinedTies
import Derived.KernelRfl
namespace Go.Proofs.Ybulkcmxg
/- THE CELL 'sum', in the pinned program and in every row, IS THE sha256 OF THE DUMP (.gsa) THAT YbulkcmxgProg.lean LOADS. Nothing in Lean hashes anything: it is a label: what it is worth is what the hold of that sum in a sandbox is worth. -/
noncomputable def Yba.pinned : Pinned := { name := "ybulkcmxg", sum := "598368d07f45e397621a2c5d6148b2aeb46965014e7fee37b815988b689a128b", checked := Yba.checked }
namespace Rows
def none {H : Type} : Left H := { results := [], args := [] }

/-- 'sim.LawS4439BManhattan': WHATEVER THE INPUT: true; the input reads as it did. -/
def lawS4439BManhattanSpec : ChangeSpec := { name := "lawS4439BManhattan", fn := fun _ => fun
  | [d1, d2, d3] => { results := [.lit (.bool true)], args := [d1, d2, d3] }
  | _ => none }
def lawS4439BManhattanRow : OpenClaim := { program := "ybulkcmxg", sum := "598368d07f45e397621a2c5d6148b2aeb46965014e7fee37b815988b689a128b", func := "example.com/antecast/antecast/internal/sim.LawS4439BManhattan", spec := "lawS4439BManhattan", plainKeys := false, apart := false }
def LawS4439BManhattanSaid : Prop := lawS4439BManhattanRow.holds Yba.pinned (OpenSpec.ofChange lawS4439BManhattanSpec)

/-- ITS FALSE NEIGHBOUR: 'it returns false'. Refute it at one input. -/
def lawS4439BManhattanWrong : ChangeSpec := { name := "lawS4439BManhattan", fn := fun _ => fun
  | [d1, d2, d3] => { results := [.lit (.bool false)], args := [d1, d2, d3] }
  | _ => none }
def LawS4439BManhattanWrongFalsely : Prop := lawS4439BManhattanRow.holds Yba.pinned (OpenSpec.ofChange lawS4439BManhattanWrong)

/-- 'sim.LawS4439BNeighbours': WHATEVER THE INPUT: true; the input reads as it did. -/
def lawS4439BNeighboursSpec : ChangeSpec := { name := "lawS4439BNeighbours", fn := fun _ => fun
  | [d1, d2] => { results := [.lit (.bool true)], args := [d1, d2] }
  | _ => none }
def lawS4439BNeighboursRow : OpenClaim := { program := "ybulkcmxg", sum := "598368d07f45e397621a2c5d6148b2aeb46965014e7fee37b815988b689a128b", func := "example.com/antecast/antecast/internal/sim.LawS4439BNeighbours", spec := "lawS4439BNeighbours", plainKeys := false, apart := false }
def LawS4439BNeighboursSaid : Prop := lawS4439BNeighboursRow.holds Yba.pinned (OpenSpec.ofChange lawS4439BNeighboursSpec)

/-- ITS FALSE NEIGHBOUR: 'it returns false'. Refute it at one input. -/
def lawS4439BNeighboursWrong : ChangeSpec := { name := "lawS4439BNeighbours", fn := fun _ => fun
  | [d1, d2] => { results := [.lit (.bool false)], args := [d1, d2] }
  | _ => none }
def LawS4439BNeighboursWrongFalsely : Prop := lawS4439BNeighboursRow.holds Yba.pinned (OpenSpec.ofChange lawS4439BNeighboursWrong)

/-- 'causal.LawS4439CVisits': WHATEVER THE INPUT: true; the input reads as it did. -/
def lawS4439CVisitsSpec : ChangeSpec := { name := "lawS4439CVisits", fn := fun _ => fun
  | [d1, d2, d3, d4] => { results := [.lit (.bool true)], args := [d1, d2, d3, d4] }
  | _ => none }
def lawS4439CVisitsRow : OpenClaim := { program := "ybulkcmxg", sum := "598368d07f45e397621a2c5d6148b2aeb46965014e7fee37b815988b689a128b", func := "example.com/antecast/antecast/internal/causal.LawS4439CVisits", spec := "lawS4439CVisits", unfollowed := true, recurses := true, plainKeys := false, apart := false }
def LawS4439CVisitsSaid : Prop := lawS4439CVisitsRow.holds Yba.pinned (OpenSpec.ofChange lawS4439CVisitsSpec)

/-- ITS FALSE NEIGHBOUR: 'it returns false'. Refute it at one input. -/
def lawS4439CVisitsWrong : ChangeSpec := { name := "lawS4439CVisits", fn := fun _ => fun
  | [d1, d2, d3, d4] => { results := [.lit (.bool false)], args := [d1, d2, d3, d4] }
  | _ => none }
def LawS4439CVisitsWrongFalsely : Prop := lawS4439CVisitsRow.holds Yba.pinned (OpenSpec.ofChange lawS4439CVisitsWrong)

/-- 'causal.LawS4439CLacked': WHATEVER THE INPUT: true; the input reads as it did. -/
def lawS4439CLackedSpec : ChangeSpec := { name := "lawS4439CLacked", fn := fun _ => fun
  | [d1, d2, d3] => { results := [.lit (.bool true)], args := [d1, d2, d3] }
  | _ => none }
def lawS4439CLackedRow : OpenClaim := { program := "ybulkcmxg", sum := "598368d07f45e397621a2c5d6148b2aeb46965014e7fee37b815988b689a128b", func := "example.com/antecast/antecast/internal/causal.LawS4439CLacked", spec := "lawS4439CLacked", unfollowed := true, recurses := true, plainKeys := false, apart := false }
def LawS4439CLackedSaid : Prop := lawS4439CLackedRow.holds Yba.pinned (OpenSpec.ofChange lawS4439CLackedSpec)

/-- ITS FALSE NEIGHBOUR: 'it returns false'. Refute it at one input. -/
def lawS4439CLackedWrong : ChangeSpec := { name := "lawS4439CLacked", fn := fun _ => fun
  | [d1, d2, d3] => { results := [.lit (.bool false)], args := [d1, d2, d3] }
  | _ => none }
def LawS4439CLackedWrongFalsely : Prop := lawS4439CLackedRow.holds Yba.pinned (OpenSpec.ofChange lawS4439CLackedWrong)

end Rows
end Go.Proofs.Ybulkcmxg
