import Derived.Test.YbulkcmxgFmtLogRoom
namespace Go.Proofs.YbulkcmxgFmt
open Go.RowKit

/-- The same change stands at place p of two rows. -/
def SameAt (au av : Array Value) (p : Nat) : Prop := ∃ k st n x q, 0 ≤ n ∧ n < 1073741824 ∧ ChgAt au p k st n x q ∧ ChgAt av p k st n x q

/-- The two rows: alike from lo on below hi. -/
structure Two (C U V lo hi : Nat) (au av : Array Value) (w : World) : Prop where
  rU : w.heap[U]? = some (.cells au 75 (0, 0))
  rV : w.heap[V]? = some (.cells av 75 (0, 0))
  sU : au.size = C * 6
  sV : av.size = C * 6
  ne : U ≠ V
  same : ∀ p, lo ≤ p → p < hi → SameAt au av p

theorem two_pre {C U V i : Nat} {au av : Array Value} {w : World} {k q : Int} {ob : Obj} (h : Two C U V 0 i au av w) (hi : i < C) :
    ∃ au' av', Two C U V 0 (i + 1) au' av' (((w.setCells U (i * 6) (chgL k 0 0 0 q)).setCells V (i * 6) (chgL k 0 0 0 q)).alloc ob) := by
  obtain ⟨rU, rV, sU, sV, ne, same⟩ := h
  have ne' : V ≠ U := fun e => ne e.symm
  obtain ⟨au', a1, a2, a3, a4⟩ := setCells_blk U 75 (chgL k 0 0 0 q) (i * 6) w au rU
  obtain ⟨av', b1, b2, b3, b4⟩ := setCells_blk V 75 (chgL k 0 0 0 q) (i * 6) (w.setCells U (i * 6) (chgL k 0 0 0 q)) av ((setCells_far ne' _ _ _).trans rV)
  refine ⟨au', av', ?_⟩
  have lU : U < w.heap.size := (Array.getElem?_eq_some_iff.1 rU).1
  have lV : V < w.heap.size := (Array.getElem?_eq_some_iff.1 rV).1
  have hU : ((w.setCells U (i * 6) (chgL k 0 0 0 q)).setCells V (i * 6) (chgL k 0 0 0 q)).heap[U]? = some (.cells au' 75 (0, 0)) := (setCells_far ne _ _ _).trans a1
  have mU : U < ((w.setCells U (i * 6) (chgL k 0 0 0 q)).setCells V (i * 6) (chgL k 0 0 0 q)).heap.size := (Array.getElem?_eq_some_iff.1 hU).1
  have mV : V < ((w.setCells U (i * 6) (chgL k 0 0 0 q)).setCells V (i * 6) (chgL k 0 0 0 q)).heap.size := (Array.getElem?_eq_some_iff.1 b1).1
  refine ⟨(Below.heap_alloc _ _ _ mU).trans hU, (Below.heap_alloc _ _ _ mV).trans b1, by rw [a2]; exact sU, by rw [b2]; exact sV, ne, fun p _ hp => ?_⟩
  by_cases hpi : p = i
  · subst hpi
    refine ⟨k, 0, 0, 0, q, by decide, by decide, ⟨?_, ?_, ?_, ?_, ?_, ?_⟩, ⟨?_, ?_, ?_, ?_, ?_, ?_⟩⟩
    · exact a4 0 _ rfl (by omega)
    · exact a4 1 _ rfl (by omega)
    · exact a4 2 _ rfl (by omega)
    · exact a4 3 _ rfl (by omega)
    · exact a4 4 _ rfl (by omega)
    · exact a4 5 _ rfl (by omega)
    · exact b4 0 _ rfl (by omega)
    · exact b4 1 _ rfl (by omega)
    · exact b4 2 _ rfl (by omega)
    · exact b4 3 _ rfl (by omega)
    · exact b4 4 _ rfl (by omega)
    · exact b4 5 _ rfl (by omega)
  · obtain ⟨k', st', n', x', q', h0, h1, ⟨c0, c1, c2, c3, c4, c5⟩, d0, d1, d2, d3, d4, d5⟩ := same p (Nat.zero_le _) (by omega)
    exact ⟨k', st', n', x', q', h0, h1, ⟨(a3 _ (by omega)).trans c0, (a3 _ (by omega)).trans c1, (a3 _ (by omega)).trans c2, (a3 _ (by omega)).trans c3, (a3 _ (by omega)).trans c4, (a3 _ (by omega)).trans c5⟩,
      (b3 _ (by omega)).trans d0, (b3 _ (by omega)).trans d1, (b3 _ (by omega)).trans d2, (b3 _ (by omega)).trans d3, (b3 _ (by omega)).trans d4, (b3 _ (by omega)).trans d5⟩

end Go.Proofs.YbulkcmxgFmt
