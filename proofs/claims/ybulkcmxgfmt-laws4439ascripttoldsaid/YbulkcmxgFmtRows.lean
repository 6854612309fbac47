/-
  NARROWER THAN 'FOR EVERY INPUT', by the rows' own cells (each row's printed sentence says how): LawS4439AOneCall: laid · LawS4439AScript: laid.
  DERIVED. THE GIVEN ROWS OF THIS SEAT. 2 by the template 'for every input the law returns true; each argument reads behind the call as it read before'; 0 by the template 'total and deterministic' (their statements: YbulkcmxgFmtTotals.lean).
  GIVEN WITH THE SEED: the statements are not yours to turn. If you find one false, say at which input.
  Laid BY PROGRAM, IN A SANDBOX (cutbox-rows.mjs): the forced cells as the released guide's own fill.sh prints them over the translation 4332d59745cb0a86… (all of the seat's roots in one cut). By AI agents, Wed Nov 11 2026. No macro, syntax, notation, axiom, sorry.
-/
import Derived.Test.YbulkcmxgFmtChecked
import GoSem.Claim
import GoSem.ClaimJoined
import GoSem.ClaimMapViews
import Derived.JoinedTies
import Derived.KernelRfl
namespace Go.Proofs.YbulkcmxgFmt
/- THE CELL 'sum', in the pinned program and in every row, IS THE sha256 OF THE DUMP (.gsa) THAT YbulkcmxgFmtProg.lean LOADS. Nothing in Lean hashes anything: it is a label: what it is worth is what the hold of that sum in a sandbox is worth. -/
noncomputable def Ybaf.pinned : Pinned := { name := "ybulkcmxgfmt", sum := "4332d59745cb0a86068a17a98bc3074d3d096a5ee63fd27f2fc2bcb20fbe438f", checked := Ybaf.checked }
namespace Rows
def none {H : Type} : Left H := { results := [], args := [] }

/- WHAT THE LISTED PACKAGE-LEVEL VARIABLES READ AS WHEN THE CALL BEGINS. Each datum BY PROGRAM (the guide's laid-datum.mjs) off the statement by which the dump's own 'gosem.cut.vars' lays the variable. In a bare row this is a premise. The card (YbulkcmxgFmtCards.lean) ties it to the program's text. -/
def laid_example_com_antecast_antecast_internal_causal_DefaultPacing {H : Type} : DataW H := .agg [.lit (.int .i64 10000000), .lit (.int .i64 30000000), .lit (.int .i64 50000000)]

/-- 'causal.LawS4439AOneCall': WHATEVER THE INPUT: true; the input reads as it did. -/
def lawS4439AOneCallSpec : ChangeSpec := { name := "lawS4439AOneCall", vars := ["example.com/antecast/antecast/internal/causal.DefaultPacing"], fn := fun _ => fun
  | [d1, d2, d3, d4, d5, d6, d7, d8, g1] => { results := [.lit (.bool true)], args := [d1, d2, d3, d4, d5, d6, d7, d8], vars := [g1] }
  | _ => none }
def lawS4439AOneCallRow : OpenClaim := { program := "ybulkcmxgfmt", sum := "4332d59745cb0a86068a17a98bc3074d3d096a5ee63fd27f2fc2bcb20fbe438f", func := "example.com/antecast/antecast/internal/causal.LawS4439AOneCall", spec := "lawS4439AOneCall", stops := ["fmt.Sprintf"], inPlace := ["fmt.Sprintf"], named := ["example.com/antecast/antecast/internal/causal.DefaultPacing"], plainKeys := false, apart := false, laid := [("example.com/antecast/antecast/internal/causal.DefaultPacing", laid_example_com_antecast_antecast_internal_causal_DefaultPacing)] }
/-- NO THEOREM (fmt's text is open here; it may be false): for the released tool's asking of the row's closed facts alone. THE STATEMENT IS 'LawS4439AOneCallToldSaid' (YbulkcmxgFmtCards.lean). -/
def LawS4439AOneCallFormAsk : Prop := lawS4439AOneCallRow.holds Ybaf.pinned (OpenSpec.ofChange lawS4439AOneCallSpec)

/-- ITS FALSE NEIGHBOUR: 'it returns false'. Refute it at one input. -/
def lawS4439AOneCallWrong : ChangeSpec := { name := "lawS4439AOneCall", vars := ["example.com/antecast/antecast/internal/causal.DefaultPacing"], fn := fun _ => fun
  | [d1, d2, d3, d4, d5, d6, d7, d8, g1] => { results := [.lit (.bool false)], args := [d1, d2, d3, d4, d5, d6, d7, d8], vars := [g1] }
  | _ => none }
def LawS4439AOneCallWrongFormAsk : Prop := lawS4439AOneCallRow.holds Ybaf.pinned (OpenSpec.ofChange lawS4439AOneCallWrong)

/-- 'causal.LawS4439AScript': WHATEVER THE INPUT: true; the input reads as it did. -/
def lawS4439AScriptSpec : ChangeSpec := { name := "lawS4439AScript", vars := ["example.com/antecast/antecast/internal/causal.DefaultPacing"], fn := fun _ => fun
  | [d1, d2, d3, d4, g1] => { results := [.lit (.bool true)], args := [d1, d2, d3, d4], vars := [g1] }
  | _ => none }
def lawS4439AScriptRow : OpenClaim := { program := "ybulkcmxgfmt", sum := "4332d59745cb0a86068a17a98bc3074d3d096a5ee63fd27f2fc2bcb20fbe438f", func := "example.com/antecast/antecast/internal/causal.LawS4439AScript", spec := "lawS4439AScript", stops := ["fmt.Sprintf"], inPlace := ["fmt.Sprintf"], named := ["example.com/antecast/antecast/internal/causal.DefaultPacing"], plainKeys := false, apart := false, laid := [("example.com/antecast/antecast/internal/causal.DefaultPacing", laid_example_com_antecast_antecast_internal_causal_DefaultPacing)] }
/-- NO THEOREM (fmt's text is open here; it may be false): for the released tool's asking of the row's closed facts alone. THE STATEMENT IS 'LawS4439AScriptToldSaid' (YbulkcmxgFmtCards.lean). -/
def LawS4439AScriptFormAsk : Prop := lawS4439AScriptRow.holds Ybaf.pinned (OpenSpec.ofChange lawS4439AScriptSpec)

/-- ITS FALSE NEIGHBOUR: 'it returns false'. Refute it at one input. -/
def lawS4439AScriptWrong : ChangeSpec := { name := "lawS4439AScript", vars := ["example.com/antecast/antecast/internal/causal.DefaultPacing"], fn := fun _ => fun
  | [d1, d2, d3, d4, g1] => { results := [.lit (.bool false)], args := [d1, d2, d3, d4], vars := [g1] }
  | _ => none }
def LawS4439AScriptWrongFormAsk : Prop := lawS4439AScriptRow.holds Ybaf.pinned (OpenSpec.ofChange lawS4439AScriptWrong)

end Rows
end Go.Proofs.YbulkcmxgFmt
