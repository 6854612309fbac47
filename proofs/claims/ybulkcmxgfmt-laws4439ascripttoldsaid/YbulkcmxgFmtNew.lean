import Derived.Test.YbulkcmxgFmtRegion
namespace Go.Proofs.YbulkcmxgFmt
open Go.RowKit

/-- An element type's row of the table: its zero value is there, its size is modest. -/
theorem info_some {P : Program} {e : TypeId} (h1 : ((P.info? e).bind (·.zero)).isSome = true) (h2 : (P.info? e).map (fun i => decide (i.bytes ≤ 1000000)) = some true) :
    ∃ z size bytes, (P.info? e).map (fun i => (i.zero, i.size, i.bytes)) = some (some z, size, bytes) ∧ bytes ≤ 1000000 := by
  cases hi : P.info? e with
  | none => simp [hi] at h1
  | some i =>
    cases hz : i.zero with
    | none => simp [hi, hz] at h1
    | some z =>
      refine ⟨z, i.size, i.bytes, by simp [hz], ?_⟩
      simpa [hi] using h2

theorem make_some {t e : TypeId} {m : Nat} (ht : Ybaf.prog.underlying t = some (.slice e)) (h1 : ((Ybaf.prog.info? e).bind (·.zero)).isSome = true) (h2 : (Ybaf.prog.info? e).map (fun i => decide (i.bytes ≤ 1000000)) = some true) (hm : m ≤ 64) :
    ∃ cs : Array Value, ∀ w, (Instr.makeSlice t (.int .i64 (m : Int)) (.int .i64 (m : Int))).run Ybaf.prog w = .ok (.slice (some ⟨w.heap.size, 0, none⟩) m m) (w.alloc (.cells cs e)) := by
  obtain ⟨z, size, bytes, hi, hb⟩ := info_some h1 h2
  obtain ⟨i, hi, hz, hs, hby⟩ := info_parts hi
  have h1 : bytes * m ≤ 1000000 * 64 := Nat.mul_le_mul hb hm
  refine ⟨madeCells z.cells (m * size), fun w => ?_⟩
  have hr := run_make (P := Ybaf.prog) w t e i z ht hi hz .i64 .i64 (m : Int) (m : Int) (by omega) (Int.le_refl _) (by rw [hby, ← Int.natCast_mul]; omega) (by omega)
  simpa only [Int.toNat_natCast, hs] using hr

set_option maxHeartbeats 2000000 in
theorem newStatus_any (m : Nat) (w : World) (hm : m ≤ 8) :
    Calls Ybaf.prog 12 #[.int .i64 (m : Int)] w fun e w' => ∃ g1 g2 g3, e = .returned (.agg #[.slice (some ⟨g1, 0, none⟩) m m, .slice (some ⟨g2, 0, none⟩) m m, .slice (some ⟨g3, 0, none⟩) m m, .slice none 0 0, .slice none 0 0]) ∧ Below w.heap.size w w' := by
  obtain ⟨c1, h24⟩ := make_some (m := m) Ybaf.underlying24 (by kernel_rfl) (by kernel_rfl) (by omega)
  obtain ⟨c2, h41⟩ := make_some (m := m) Ybaf.underlying41 (by kernel_rfl) (by kernel_rfl) (by omega)
  go_enter Ybaf.func12, Ybaf.ntmps12
  go_wp2
  go_region
  all_goals go_wp2
  all_goals
    refine bodyPost_ret (v := .agg #[.slice (some ⟨_, 0, none⟩) m m, .slice (some ⟨_, 0, none⟩) m m, .slice (some ⟨_, 0, none⟩) m m, .slice none 0 0, .slice none 0 0]) (by simp [results, Ybaf.results12, go_sem]; exact ⟨rfl, rfl, rfl⟩) rfl ⟨_, _, _, rfl, ?_⟩
    repeat' (first | with_reducible refine Below.setCell ?_ ?_ _ | with_reducible refine below_drewN ?_ _ | with_reducible refine Below.drew ?_ | with_reducible refine Below.alloc ?_ ?_ _ | with_reducible exact Below.refl _ _ | (simp; done) | (simp; omega))

end Go.Proofs.YbulkcmxgFmt
