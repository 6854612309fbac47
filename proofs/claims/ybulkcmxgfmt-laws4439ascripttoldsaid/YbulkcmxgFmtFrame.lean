import Derived.Test.YbulkcmxgFmtOne
import Derived.Test.YbulkcmxgFmtCards
import Derived.Test.YbulkcmxgFmtTie
import Derived.ProofKit
import Derived.Stop.JoinedAt
import Derived.Stop.JoinedTold
import Derived.Deep.DeepWitnessRef
import Derived.Deep.Strs
import Derived.LaidLaws
import Derived.OpenVars
namespace Go.Proofs.YbulkcmxgFmt
open Go.ChangeShapes Go.WideShapes Go.ChangeAt Go.RowKit
open Go.Extern.Stop Go.Stop Go.Extern

theorem Ybaf.own : ownKnob Ybaf.prog.godebug = none := by kernel_rfl
theorem Ybaf.laidOut : laidOutB Ybaf.pinned.checked.prog = true := by kernel_rfl
theorem Ybaf.stops : Ybaf.pinned.checked.prog.stops = ["fmt.Sprintf"] := by kernel_rfl
theorem Ybaf.stopKnobs : Ybaf.pinned.checked.prog.stopKnobs = [] := by kernel_rfl
theorem Ybaf.quiet (os : Os) : Stop.quiet Ybaf.pinned.checked.prog os := by
  intro k hk
  rw [Ybaf.stopKnobs] at hk
  cases hk
theorem Ybaf.gPace : Ybaf.prog.globalNamed "example.com/antecast/antecast/internal/causal.DefaultPacing" = some 0 := by kernel_rfl
theorem Ybaf.tPace : (Ybaf.prog.globals[0]?).map (·.type) = some 55 := by kernel_rfl
theorem Ybaf.cells53 : Ybaf.prog.cellsOf 53 = 1 := by kernel_rfl
theorem Ybaf.cells55 : Ybaf.prog.cellsOf 55 = 3 := by kernel_rfl

theorem len3 {α : Type} (l : List α) (h : l.length = 3) : ∃ a b c, l = [a, b, c] := by
  match l, h with
  | [a, b, c], _ => exact ⟨a, b, c, rfl⟩

/-- The listed variable's three cells, off 'laid'. -/
theorem pace_of_laid {W : World} (h : laidMetH Ybaf.prog Rows.lawS4439AOneCallRow.laid W) : PaceAt W := by
  rw [MakeChecks.laidMetH_plain _ _ _ (by kernel_rfl)] at h
  obtain ⟨ps, ⟨g, t, cs, fuel, p, q, hg, ht, hvar, hd, _, _⟩, _⟩ := h
  obtain rfl := Option.some.inj (Ybaf.gPace.symm.trans hg)
  obtain rfl := Option.some.inj (Ybaf.tPace.symm.trans ht)
  obtain ⟨y0, y1, y2, n, hx, hl, d0, d1, d2⟩ := Go.Deep.trod_struct3 Ybaf.underlying55 hd
  rw [Ybaf.cells55] at hl
  obtain ⟨l⟩ := cs
  obtain ⟨a, b, c, rfl⟩ := len3 l hl
  simp only [Ybaf.cells53, List.drop_zero, List.drop_succ_cons, List.take_succ_cons, List.take_zero] at d0 d1 d2
  obtain ⟨s0, e0, f0, _⟩ := DataW.trod_int Ybaf.underlying53 d0
  obtain ⟨s1, e1, f1, _⟩ := DataW.trod_int Ybaf.underlying53 d1
  obtain ⟨s2, e2, f2, _⟩ := DataW.trod_int Ybaf.underlying53 d2
  subst f0; subst f1; subst f2
  simp [Rows.laid_example_com_antecast_antecast_internal_causal_DefaultPacing] at hx e0 e1 e2
  obtain ⟨⟨rfl, rfl, rfl⟩, _⟩ := hx
  subst e0; subst e1; subst e2
  have h0 := World.var?_cell hg hvar 0
  have h1 := World.var?_cell hg hvar 1
  have h2 := World.var?_cell hg hvar 2
  refine ⟨?_, by simpa using h0, by simpa using h1, by simpa using h2⟩
  exact block_lt_of_cell (a := ⟨0, 0, none⟩) (by simpa using h0)

/-- A world with the variable laid. -/
def paceIn (w : World) : World := { w with heap := w.heap.modify 0 fun
  | .cells _ t frozen => .cells #[.int .i64 10000000, .int .i64 30000000, .int .i64 50000000] t frozen
  | o => o }

theorem laid_met (os : Os) (args : Array Value) : laidMet Ybaf.prog Rows.lawS4439AOneCallRow.laid ((paceIn (World.holding Ybaf.prog os ⟨#[], #[], []⟩)).forCall (fun _ _ => 0) ⟨#[], args, []⟩).memory :=
  laidMet_of_run' 8 (by kernel_rfl) (by kernel_rfl)

end Go.Proofs.YbulkcmxgFmt
