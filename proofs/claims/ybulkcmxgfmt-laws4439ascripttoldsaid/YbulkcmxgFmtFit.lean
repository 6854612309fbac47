import Derived.Test.YbulkcmxgFmtLedger
namespace Go.Proofs.YbulkcmxgFmt
open Go.RowKit

/-- The listed variable's three cells. -/
def PaceAt (w : World) : Prop := 0 < w.heap.size ∧ w.cell? ⟨0, 0, none⟩ = some (.int .i64 10000000) ∧ w.cell? ⟨0, 1, none⟩ = some (.int .i64 30000000) ∧ w.cell? ⟨0, 2, none⟩ = some (.int .i64 50000000)

set_option maxHeartbeats 2000000 in
theorem fit_any (nb gt m j : Nat) (x2 x3 x4 : Value) (w : World) (hj : j < m) (hp : PaceAt w) (hnb : nb < w.heap.size) (hgt : gt < w.heap.size)
    (h44 : w.cell? ⟨nb, 44, none⟩ = some (.slice (some ⟨gt, 0, none⟩) m m)) (h41 : w.cell? ⟨nb, 41, none⟩ = some (.int .i64 0)) (h42 : w.cell? ⟨nb, 42, none⟩ = some (.int .i64 0)) (h43 : w.cell? ⟨nb, 43, none⟩ = some (.int .i64 0))
    (h0 : w.cell? ⟨gt, j * 15, none⟩ = some (.int .i64 0)) (h2 : w.cell? ⟨gt, j * 15 + 2, none⟩ = some x2) (h3 : w.cell? ⟨gt, j * 15 + 2 + 1, none⟩ = some x3) (h4 : w.cell? ⟨gt, j * 15 + 2 + 2, none⟩ = some x4)
    (hf : ∀ i, w.frozen? ⟨gt, i, none⟩ = false) :
    Calls Ybaf.prog 13 #[.pointer (some ⟨nb, 0, none⟩), .int .i64 (j : Int)] w fun e w' => e = .returned (.tuple #[]) ∧
      w' = (((((w.setCell ⟨gt, j * 15 + 2, none⟩ (.int .i64 10000000)).setCell ⟨gt, j * 15 + 2 + 1, none⟩ (.int .i64 30000000)).setCell ⟨gt, j * 15 + 2 + 2, none⟩ (.int .i64 50000000)).alloc (.cells #[.int .i64 10000000, .int .i64 30000000, .int .i64 50000000] 55)).alloc (.cells #[.int .i64 10000000, .int .i64 30000000, .int .i64 50000000] 55)) := by
  obtain ⟨hz, p0, p1, p2⟩ := hp
  go_enter Ybaf.func13, Ybaf.ntmps13
  go_wp2
  go_end0
  exact ⟨rfl, rfl⟩

end Go.Proofs.YbulkcmxgFmt
