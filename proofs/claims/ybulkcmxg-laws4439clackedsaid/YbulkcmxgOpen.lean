import Derived.Test.YbulkcmxgBuildParts
import Derived.Deep.Slices
import Derived.OpenShut
namespace Go.Proofs.Ybulkcmxg
open Go.RowKit Go.Deep Go.ChangeShapes Go.WideShapes

theorem Yba.cells52 : Yba.prog.cellsOf 52 = 3 := by kernel_rfl
theorem Yba.cells58 : Yba.prog.cellsOf 58 = 2 := by kernel_rfl
theorem Yba.cells5 : Yba.prog.cellsOf 5 = 1 := by kernel_rfl
theorem Yba.cells41 : Yba.prog.cellsOf 41 = 1 := by kernel_rfl

theorem spot_none {w : World} {a : Addr} {v : Value} (h : w.cell? a = some v) : a = ⟨a.block, a.off, none⟩ := by
  obtain ⟨b, o, s⟩ := a
  cases s with
  | none => rfl
  | some x => unfold World.cell? at h; split at h <;> simp at h

theorem getD_range_map {α : Type} (f : Nat → α) (n i : Nat) (d : α) (h : i < n) : ((List.range n).map f).getD i d = f i := by simp [List.getD, h]

set_option maxRecDepth 100000 in
theorem open_spans {H : Type} {enc : TypeId × Value → H} {W : World} {fuel : Nat} {a : Option Addr} {len cap : Nat} {x : DataW H × List MemPlace}
    (h : DataW.trod enc Yba.prog W 0 (fun _ => true) true fuel 34 [.slice a len cap] = some x) : ∃ sp, sp.length = len ∧ len ≤ maxLen ∧ SpansIn W W.heap.size a sp := by
  rcases open_slice Yba.underlying34 h with ⟨e, _⟩ | ⟨a', len', cap', m, n, D, Pl, e, hb, hl, hm, hmm, _, hx⟩
  · simp at e; obtain ⟨rfl, rfl, rfl⟩ := e
    exact ⟨[], rfl, by simp [maxLen], .inl rfl⟩
  · simp at e; obtain ⟨rfl, rfl, rfl⟩ := e
    simp at hmm; subst hmm
    rw [Yba.cells52] at hx
    have each : ∀ i, i < len → ∃ q : Int × Int × Int, 0 ≤ q.1 ∧ q.1 ≤ 255 ∧ 0 ≤ q.2.1 ∧ q.2.1 ≤ 18446744073709551615 ∧ 0 ≤ q.2.2 ∧ q.2.2 ≤ 255 ∧
        W.cell? (a'.add (i * 3)) = some (.int .u8 q.1) ∧ W.cell? (a'.add (i * 3 + 1)) = some (.int .u64 q.2.1) ∧ W.cell? (a'.add (i * 3 + 2)) = some (.int .u8 q.2.2) := by
      intro i hi
      obtain ⟨cs', h1, h2⟩ := hx i (by omega)
      obtain ⟨_, hlen, hcell⟩ := World.cells?_some h1
      obtain ⟨xs, k, hk, hxy, _, hxl, hf⟩ := DataW.trod_struct Yba.underlying52 h2
      have hxl' : xs.length = 3 := hxl
      match xs, hxl', cs', hlen with
      | [y0, y1, y2], _, [v0, v1, v2], _ =>
        have g0 := hf 0 _ rfl
        have g1 := hf 1 _ rfl
        have g2 := hf 2 _ rfl
        simp [Yba.cells5, Yba.cells41] at g0 g1 g2
        obtain ⟨p0, c0, _, f0⟩ := DataW.trod_int Yba.underlying5 g0
        obtain ⟨p1, c1, _, f1⟩ := DataW.trod_int Yba.underlying41 g1
        obtain ⟨p2, c2, _, f2⟩ := DataW.trod_int Yba.underlying5 g2
        simp at c0 c1 c2
        subst c0 c1 c2
        have e0 := hcell 0 (by omega)
        have e1 := hcell 1 (by omega)
        have e2 := hcell 2 (by omega)
        rw [add_add] at e0 e1 e2
        exact ⟨(p0, p1, p2), (bounds_u8 f0).1, (bounds_u8 f0).2, (bounds_u64 f1).1, (bounds_u64 f1).2, (bounds_u8 f2).1, (bounds_u8 f2).2, by simpa using e0, by simpa using e1, by simpa using e2⟩
    obtain ⟨q, hq⟩ := choose_lt each
    refine ⟨(List.range len).map q, by simp, by omega, ?_⟩
    by_cases h0 : len = 0
    · subst h0; exact .inl rfl
    · right
      have hz := (hq 0 (by omega)).2.2.2.2.2.2.1
      have hs := spot_none hz
      simp [Addr.add] at hs
      obtain ⟨b, off, sp⟩ := a'
      simp at hs
      subst hs
      refine ⟨b, off, rfl, ?_, ?_⟩
      · exact World.block_lt_of_cell? W ⟨b, off, none⟩ (by simpa [Addr.add] using hz)
      · intro j hj
        have hj' : j < len := by simpa using hj
        have := hq j hj'
        rw [getD_range_map q len j _ hj']
        simp only [Addr.add_lit] at this
        exact ⟨_, _, _, rfl, this.1, this.2.1, this.2.2.1, this.2.2.2.1, this.2.2.2.2.1, this.2.2.2.2.2.1, this.2.2.2.2.2.2.1, by rw [Nat.add_assoc]; exact this.2.2.2.2.2.2.2.1, by rw [Nat.add_assoc]; exact this.2.2.2.2.2.2.2.2⟩

set_option maxRecDepth 100000 in
theorem open_helds {H : Type} {enc : TypeId × Value → H} {W : World} {fuel : Nat} {a : Option Addr} {len cap : Nat} {x : DataW H × List MemPlace}
    (h : DataW.trod enc Yba.prog W 0 (fun _ => true) true fuel 35 [.slice a len cap] = some x) : ∃ sp : List (Int × Int), sp.length = len ∧ len ≤ maxLen ∧ HeldIn W W.heap.size a sp := by
  rcases open_slice Yba.underlying35 h with ⟨e, _⟩ | ⟨a', len', cap', m, n, D, Pl, e, hb, hl, hm, hmm, _, hx⟩
  · simp at e; obtain ⟨rfl, rfl, rfl⟩ := e
    exact ⟨[], rfl, by simp [maxLen], .inl rfl⟩
  · simp at e; obtain ⟨rfl, rfl, rfl⟩ := e
    simp at hmm; subst hmm
    rw [Yba.cells58] at hx
    have each : ∀ i, i < len → ∃ q : Int × Int, 0 ≤ q.1 ∧ q.1 ≤ 255 ∧ 0 ≤ q.2 ∧ q.2 ≤ 18446744073709551615 ∧
        W.cell? (a'.add (i * 2)) = some (.int .u8 q.1) ∧ W.cell? (a'.add (i * 2 + 1)) = some (.int .u64 q.2) := by
      intro i hi
      obtain ⟨cs', h1, h2⟩ := hx i (by omega)
      obtain ⟨_, hlen, hcell⟩ := World.cells?_some h1
      obtain ⟨xs, k, hk, hxy, _, hxl, hf⟩ := DataW.trod_struct Yba.underlying58 h2
      have hxl' : xs.length = 2 := hxl
      match xs, hxl', cs', hlen with
      | [y0, y1], _, [v0, v1], _ =>
        have g0 := hf 0 _ rfl
        have g1 := hf 1 _ rfl
        simp [Yba.cells5, Yba.cells41] at g0 g1
        obtain ⟨p0, c0, _, f0⟩ := DataW.trod_int Yba.underlying5 g0
        obtain ⟨p1, c1, _, f1⟩ := DataW.trod_int Yba.underlying41 g1
        simp at c0 c1
        subst c0 c1
        have e0 := hcell 0 (by omega)
        have e1 := hcell 1 (by omega)
        rw [add_add] at e0 e1
        exact ⟨(p0, p1), (bounds_u8 f0).1, (bounds_u8 f0).2, (bounds_u64 f1).1, (bounds_u64 f1).2, by simpa using e0, by simpa using e1⟩
    obtain ⟨q, hq⟩ := choose_lt each
    refine ⟨(List.range len).map q, by simp, by omega, ?_⟩
    by_cases h0 : len = 0
    · subst h0; exact .inl rfl
    · right
      have hz := (hq 0 (by omega)).2.2.2.2.1
      have hs := spot_none hz
      simp [Addr.add] at hs
      obtain ⟨b, off, sp⟩ := a'
      simp at hs
      subst hs
      refine ⟨b, off, rfl, ?_, ?_⟩
      · exact World.block_lt_of_cell? W ⟨b, off, none⟩ (by simpa [Addr.add] using hz)
      · intro j hj
        have hj' : j < len := by simpa using hj
        have := hq j hj'
        rw [getD_range_map q len j _ hj']
        simp only [Addr.add_lit] at this
        exact ⟨_, _, rfl, this.1, this.2.1, this.2.2.1, this.2.2.2.1, this.2.2.2.2.1, by rw [Nat.add_assoc]; exact this.2.2.2.2.2⟩

end Go.Proofs.Ybulkcmxg
