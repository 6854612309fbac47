/-
  No cell of these rows narrows 'for every input' (looked for: loops, veiled, ifaces, maps, wideKeys, modest, calm, conditions, laid).
  DERIVED. THE GIVEN ROWS OF THIS SEAT. 2 by the template 'for every input the law returns true; each argument reads behind the call as it read before'; 0 by the template 'total and deterministic' (their statements: YbulkcmywTotals.lean).
  GIVEN WITH THE SEED: the statements are not yours to turn. If you find one false, say at which input.
  Laid BY PROGRAM, IN A SANDBOX (cutbox-rows.mjs): the forced cells as the released guide's own fill.sh prints them over the translation ca17f3a3b3084878… (all of the seat's roots in one cut). By AI agents, Wed Nov 11 2026. No macro, syntax, notation, axiom, sorry.
-/
import Derived.Test.YbulkcmywChecked
import GoSem.Claim
import GoSem.ClaimJoined
import GoSem.ClaimMapViews
import Derived.JoinedTies
import Derived.KernelRfl
namespace Go.Proofs.Ybulkcmyw
/- THE CELL 'sum', in the pinned program and in every row, IS THE sha256 OF THE DUMP (.gsa) THAT YbulkcmywProg.lean LOADS. Nothing in Lean hashes anything: it is a label: what it is worth is what the hold of that sum in a sandbox is worth. -/
noncomputable def Yba.pinned : Pinned := { name := "ybulkcmyw", sum := "ca17f3a3b3084878ad936424d86da9781658f712ee111d2a05afc59b75b7d302", checked := Yba.checked }
namespace Rows
def none {H : Type} : Left H := { results := [], args := [] }

/-- 'eval.LawS4442ACalls': WHATEVER THE INPUT: true; the input reads as it did. -/
def lawS4442ACallsSpec : ChangeSpec := { name := "lawS4442ACalls", fn := fun _ => fun
  | [d1, d2] => { results := [.lit (.bool true)], args := [d1, d2] }
  | _ => none }
def lawS4442ACallsRow : OpenClaim := { program := "ybulkcmyw", sum := "ca17f3a3b3084878ad936424d86da9781658f712ee111d2a05afc59b75b7d302", func := "example.com/tideshell/tideshell/eval.LawS4442ACalls", spec := "lawS4442ACalls", unfollowed := true, recurses := true, apart := false }
def LawS4442ACallsSaid : Prop := lawS4442ACallsRow.holds Yba.pinned (OpenSpec.ofChange lawS4442ACallsSpec)

/-- ITS FALSE NEIGHBOUR: 'it returns false'. Refute it at one input. -/
def lawS4442ACallsWrong : ChangeSpec := { name := "lawS4442ACalls", fn := fun _ => fun
  | [d1, d2] => { results := [.lit (.bool false)], args := [d1, d2] }
  | _ => none }
def LawS4442ACallsWrongFalsely : Prop := lawS4442ACallsRow.holds Yba.pinned (OpenSpec.ofChange lawS4442ACallsWrong)

/-- 'eval.LawS4442ASorted': WHATEVER THE INPUT: true; the input reads as it did. -/
def lawS4442ASortedSpec : ChangeSpec := { name := "lawS4442ASorted", fn := fun _ => fun
  | [d] => { results := [.lit (.bool true)], args := [d] }
  | _ => none }
def lawS4442ASortedRow : OpenClaim := { program := "ybulkcmyw", sum := "ca17f3a3b3084878ad936424d86da9781658f712ee111d2a05afc59b75b7d302", func := "example.com/tideshell/tideshell/eval.LawS4442ASorted", spec := "lawS4442ASorted", unfollowed := true, recurses := true, apart := false }
def LawS4442ASortedSaid : Prop := lawS4442ASortedRow.holds Yba.pinned (OpenSpec.ofChange lawS4442ASortedSpec)

/-- ITS FALSE NEIGHBOUR: 'it returns false'. Refute it at one input. -/
def lawS4442ASortedWrong : ChangeSpec := { name := "lawS4442ASorted", fn := fun _ => fun
  | [d] => { results := [.lit (.bool false)], args := [d] }
  | _ => none }
def LawS4442ASortedWrongFalsely : Prop := lawS4442ASortedRow.holds Yba.pinned (OpenSpec.ofChange lawS4442ASortedWrong)

end Rows
end Go.Proofs.Ybulkcmyw
