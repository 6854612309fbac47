import Derived.Test.YbulkcmxgFmtNew
import Derived.Deep.Cut
import Derived.Deep.CutRange
import Derived.Deep.RegionHeld3
namespace Go.Proofs.YbulkcmxgFmt
open Go.RowKit

theorem act_eq {a : Act} {l : List Value} (hd : a.defers = []) (hs : a.tmps.size = l.length) (h : ∀ t, t < l.length → a.tmps.getD t undef = l.getD t undef) : a = ⟨l.toArray, []⟩ := by
  obtain ⟨tm, df⟩ := a
  simp only at hd hs h
  subst hd
  congr 1
  apply Array.ext
  · simpa using hs
  · intro i h1 h2
    have := h i (by simpa using h2)
    simpa [h1, List.getD, List.getElem?_eq_getElem (show i < l.length by simpa using h2)] using this

/-- A made row: its block, of element type e, n cells. -/
def Rw (w : World) (N g e n : Nat) : Prop := N ≤ g ∧ ∃ arr : Array Value, w.heap[g]? = some (.cells arr e (0, 0)) ∧ arr.size = n
def Sl (m : Nat) (v : Value) : Prop := ∃ g, v = .slice (some ⟨g, 0, none⟩) m m
def SlRw (w : World) (N m e n : Nat) (v : Value) : Prop := ∃ g, v = .slice (some ⟨g, 0, none⟩) m m ∧ Rw w N g e n

theorem Rw.lt {w : World} {N g e n : Nat} (h : Rw w N g e n) : g < w.heap.size := by
  obtain ⟨_, arr, h, _⟩ := h
  exact (Array.getElem?_eq_some_iff.1 h).1
theorem Rw.mono {w w' : World} {N g e n : Nat} (h : Rw w N g e n) (hB : Below w.heap.size w w') : Rw w' N g e n := by
  have hlt := h.lt
  obtain ⟨h0, arr, h1, h2⟩ := h
  exact ⟨h0, arr, (hB.block g hlt).trans h1, h2⟩
theorem SlRw.mono {w w' : World} {N m e n : Nat} {v : Value} (h : SlRw w N m e n v) (hB : Below w.heap.size w w') : SlRw w' N m e n v := by
  obtain ⟨g, h1, h2⟩ := h
  exact ⟨g, h1, h2.mono hB⟩

theorem Rw.new (w : World) (N e n : Nat) (arr : Array Value) (hN : N ≤ w.heap.size) (hn : arr.size = n) : Rw (w.alloc (.cells arr e)) N w.heap.size e n :=
  ⟨hN, arr, heap_alloc_new w _, hn⟩

/-- The ledger's six fields: the three rows that are written later lie apart from it, each of its own element type. -/
def LedCells (m gn gc ga : Nat) (cs : Array Value) : Prop := ∃ s0 s2 s4, cs = #[s0, .slice (some ⟨gn, 0, none⟩) m m, s2, .slice (some ⟨gc, 0, none⟩) m m, s4, .slice (some ⟨ga, 0, none⟩) m m]
structure Led (N m g gn gc ga : Nat) (w : World) : Prop where
  hg : N ≤ g ∧ ∃ cs, w.heap[g]? = some (.cells cs 93 (0, 0)) ∧ LedCells m gn gc ga cs
  hn : Rw w N gn 94 m
  hc : Rw w N gc 4 m
  ha : Rw w N ga 3 m

def D11 : List Nat := [6, 7, 8, 9, 10, 11, 12, 13, 14, 15, 16, 17, 18, 19, 3]
def good11 (N m : Nat) (j : Nat) (v : Value) (w : World) : Prop :=
  match j with
  | 0 | 2 | 4 | 6 | 8 | 10 => v = .int .i64 (m : Int)
  | 1 | 5 | 9 => Sl m v
  | 3 => SlRw w N m 94 m v
  | 7 => SlRw w N m 4 m v
  | 11 => SlRw w N m 3 m v
  | 12 => ∃ cs gn gc ga, v = .agg cs ∧ LedCells m gn gc ga cs ∧ Rw w N gn 94 m ∧ Rw w N gc 4 m ∧ Rw w N ga 3 m
  | _ => ∃ g gn gc ga, v = .pointer (some ⟨g, 0, none⟩) ∧ Led N m g gn gc ga w

theorem Led.mono {N m g gn gc ga : Nat} {w w' : World} (h : Led N m g gn gc ga w) (hB : Below w.heap.size w w') : Led N m g gn gc ga w' := by
  refine ⟨?_, h.hn.mono hB, h.hc.mono hB, h.ha.mono hB⟩
  obtain ⟨h0, cs, h1, h2⟩ := h.hg
  exact ⟨h0, cs, (hB.block g (Array.getElem?_eq_some_iff.1 h1).1).trans h1, h2⟩

theorem good11_mono (N m : Nat) : ∀ j v w w', good11 N m j v w → Below w.heap.size w w' → good11 N m j v w' := by
  intro j v w w' h hB
  unfold good11 at *
  split at h
  all_goals first
    | exact h
    | exact SlRw.mono h hB
    | (obtain ⟨cs, gn, gc, ga, h1, h2, h3, h4, h5⟩ := h; exact ⟨cs, gn, gc, ga, h1, h2, h3.mono hB, h4.mono hB, h5.mono hB⟩)
    | (obtain ⟨g, gn, gc, ga, h1, h2⟩ := h; exact ⟨g, gn, gc, ga, h1, h2.mono hB⟩)

theorem make_at {t e : TypeId} {z : Value} {size bytes m : Nat} (ht : Ybaf.prog.underlying t = some (.slice e)) (hi : (Ybaf.prog.info? e).map (fun i => (i.zero, i.size, i.bytes)) = some (some z, size, bytes)) (hb : bytes ≤ 1000000) (hm : m ≤ 64) (w : World) :
    (Instr.makeSlice t (.int .i64 (m : Int)) (.int .i64 (m : Int))).run Ybaf.prog w = .ok (.slice (some ⟨w.heap.size, 0, none⟩) m m) (w.alloc (.cells (madeCells z.cells (m * size)) e)) := by
  obtain ⟨i, hi, hz, hs, hby⟩ := info_parts hi
  have h1 : bytes * m ≤ 1000000 * 64 := Nat.mul_le_mul hb hm
  have hr := run_make (P := Ybaf.prog) w t e i z ht hi hz .i64 .i64 (m : Int) (m : Int) (by omega) (Int.le_refl _) (by rw [hby, ← Int.natCast_mul]; omega) (by omega)
  simpa only [Int.toNat_natCast, hs] using hr

theorem exec_makeSlice {o : Oper} {x y : Operand} {a : Act} {w w' : World} {t : TypeId} {v : Value} (ho : o.op = .makeSlice t x y) (hr : (Instr.makeSlice t (a.eval x) (a.eval y)).run Ybaf.prog w = .ok v w') : (execOp a.eval o).run Ybaf.prog w = .ok (.value v) w' := by
  simp [execOp, ho, hr, Result.andThen]

theorem Ybaf.info94 : (Ybaf.prog.info? 94).map (fun i => (i.zero, i.size, i.bytes)) = some (some (.slice none 0 0), 1, 24) := by kernel_rfl
theorem Ybaf.info4 : (Ybaf.prog.info? 4).map (fun i => (i.zero, i.size, i.bytes)) = some (some (.bool false), 1, 1) := by kernel_rfl
theorem Ybaf.info3 : (Ybaf.prog.info? 3).map (fun i => (i.zero, i.size, i.bytes)) = some (some (.int .i64 0), 1, 8) := by kernel_rfl

theorem exec_build {o : Oper} {a : Act} {w : World} {t : TypeId} {parts : Array (Nat × Operand)} {v : Value} (ho : o.op = .build t parts) (hr : (Instr.build t (parts.map fun (i, x) => (i, a.eval x))).run Ybaf.prog w = .ok v w) : (execOp a.eval o).run Ybaf.prog w = .ok (.value v) w := by
  simp [execOp, ho, hr, Result.andThen]
theorem exec_box {o : Oper} {a : Act} {w : World} {t : TypeId} {x : Operand} {cs : Array Value} (ho : o.op = .box t x) (hx : a.eval x = .agg cs) : (execOp a.eval o).run Ybaf.prog w = .ok (.value (.pointer (some ⟨w.heap.size, 0, none⟩))) (w.alloc (.cells cs t)) := by
  simp [execOp, ho, hx, Instr.box, newVar, newRow, Value.cells, Result.andThen]

theorem blk_ne {w : World} {g g' e e' : Nat} {c c' : Array Value} (h : w.heap[g]? = some (.cells c e (0, 0))) (h' : w.heap[g']? = some (.cells c' e' (0, 0))) (hne : e ≠ e') : g ≠ g' := by
  intro e1; subst e1; rw [h] at h'; simp at h'; exact hne h'.2

theorem Led.ne {N m g gn gc ga : Nat} {w : World} (h : Led N m g gn gc ga w) : g ≠ gn ∧ g ≠ gc ∧ g ≠ ga ∧ gn ≠ gc ∧ gn ≠ ga ∧ gc ≠ ga := by
  obtain ⟨_, cs, h1, _⟩ := h.hg
  obtain ⟨_, a1, h2, _⟩ := h.hn
  obtain ⟨_, a2, h3, _⟩ := h.hc
  obtain ⟨_, a3, h4, _⟩ := h.ha
  exact ⟨blk_ne h1 h2 (by decide), blk_ne h1 h3 (by decide), blk_ne h1 h4 (by decide), blk_ne h2 h3 (by decide), blk_ne h2 h4 (by decide), blk_ne h3 h4 (by decide)⟩

theorem cell_of_blk {w : World} {g e : Nat} {c : Array Value} (h : w.heap[g]? = some (.cells c e (0, 0))) (i : Nat) : w.cell? ⟨g, i, none⟩ = c[i]? := by simp [World.cell?, h]
theorem frozen_of_blk {w : World} {g e : Nat} {c : Array Value} (h : w.heap[g]? = some (.cells c e (0, 0))) (i : Nat) : w.frozen? ⟨g, i, none⟩ = false := by simp [World.frozen?, h]

theorem Led.fields {N m g gn gc ga : Nat} {w : World} (h : Led N m g gn gc ga w) : w.cell? ⟨g, 1, none⟩ = some (.slice (some ⟨gn, 0, none⟩) m m) ∧ w.cell? ⟨g, 3, none⟩ = some (.slice (some ⟨gc, 0, none⟩) m m) ∧ w.cell? ⟨g, 5, none⟩ = some (.slice (some ⟨ga, 0, none⟩) m m) := by
  obtain ⟨_, cs, h1, s0, s2, s4, rfl⟩ := h.hg
  exact ⟨cell_of_blk h1 1, cell_of_blk h1 3, cell_of_blk h1 5⟩

theorem Rw.at {w : World} {N g e n : Nat} (h : Rw w N g e n) {i : Nat} (hi : i < n) : (∃ v, w.cell? ⟨g, i, none⟩ = some v) ∧ w.frozen? ⟨g, i, none⟩ = false := by
  obtain ⟨_, arr, h1, h2⟩ := h
  exact ⟨⟨arr[i], by rw [cell_of_blk h1, Array.getElem?_eq_getElem (by omega)]⟩, frozen_of_blk h1 i⟩

theorem heap_set {w : World} {g e i : Nat} {c : Array Value} {v : Value} (h : w.heap[g]? = some (.cells c e (0, 0))) : (w.setCell ⟨g, i, none⟩ v).heap[g]? = some (.cells (c.setIfInBounds i v) e (0, 0)) := by
  simp [World.setCell, Array.getElem?_modify, h]

theorem Rw.set {w : World} {N g e n g' i : Nat} {v : Value} (h : Rw w N g e n) : Rw (w.setCell ⟨g', i, none⟩ v) N g e n := by
  obtain ⟨h0, arr, h1, h2⟩ := h
  by_cases e1 : g' = g
  · subst e1; exact ⟨h0, _, heap_set h1, by simpa using h2⟩
  · exact ⟨h0, arr, (Below.heap_setCell _ _ _ _ (fun h => e1 h.symm)).trans h1, h2⟩

theorem Led.set {N m g gn gc ga : Nat} {w : World} {g' i : Nat} {v : Value} (h : Led N m g gn gc ga w) (hne : g ≠ g') : Led N m g gn gc ga (w.setCell ⟨g', i, none⟩ v) := by
  refine ⟨?_, h.hn.set, h.hc.set, h.ha.set⟩
  obtain ⟨h0, cs, h1, h2⟩ := h.hg
  exact ⟨h0, cs, (Below.heap_setCell _ _ _ _ hne).trans h1, h2⟩

theorem run_build93 (v0 v1 v2 v3 v4 v5 : Option Addr) (m : Nat) (w : World) :
    (Instr.build 93 #[(0, .slice v0 m m), (1, .slice v1 m m), (2, .slice v2 m m), (3, .slice v3 m m), (4, .slice v4 m m), (5, .slice v5 m m)]).run Ybaf.prog w = .ok (.agg #[.slice v0 m m, .slice v1 m m, .slice v2 m m, .slice v3 m m, .slice v4 m m, .slice v5 m m]) w := by kernel_rfl

set_option maxHeartbeats 4000000 in
set_option maxRecDepth 1000000 in
theorem newLedger_any (m : Nat) (w : World) (hm1 : 1 ≤ m) (hm : m ≤ 8) :
    Calls Ybaf.prog 11 #[.int .i64 (m : Int)] w fun e w' => ∃ g, e = .returned (.pointer (some ⟨g, 0, none⟩)) ∧ Below w.heap.size w w' := by
  go_enter Ybaf.func11, Ybaf.ntmps11
  go_wp2
  go_cut [3] from 6 to 19 (fun v wr => (∃ g gn gc ga, v = .pointer (some ⟨g, 0, none⟩) ∧ Led w.heap.size m g gn gc ga wr) ∧ Below w.heap.size w wr)
  case first =>
    rename_i J K' hJ hK
    refine wp_region_inv (RInv D11 (good11 w.heap.size m) w _) (by kernel_rfl) (by kernel_rfl) ?_ ?_ RInv.start
    · intro listed a w1 i hs hI hi
      obtain ⟨hl0, o, ho, hall⟩ := mem_ready.1 hi
      have hl : listed.size = D11.length := hs
      have hN : w.heap.size ≤ w1.heap.size := hI.old.size
      have hput := fun {i : Nat} {v : Value} {w' : World} => hI.put (i := i) (v := v) (w' := w') (by decide) (show ∀ d ∈ D11, d < 66 by decide) (good11_mono _ _) hl
      have hlt : i < 15 := (Array.getElem?_eq_some_iff.1 ho).1
      have ev : ∀ t, a.eval (.tmp t) = a.tmps.getD t undef := eval_tmp a
      match i, hlt, ho with
      | 0, _, ho =>
        obtain rfl := Option.some.inj ho
        refine wpOp_run ho rfl (exec_move rfl) (hput (by decide) (Below.refl _ _) ?_)
        show a.eval (.tmp 0) = _
        rw [ev, hI.slot (by decide)]; rfl
      | 1, _, ho =>
        obtain rfl := Option.some.inj ho
        have e1 : a.eval (.tmp 6) = .int .i64 (m : Int) := (ev _).trans (hI.good 0 (hall ⟨0, .data⟩ (by simp) rfl))
        obtain ⟨cs, hmk⟩ := make_some (m := m) Ybaf.underlying24 (by kernel_rfl) (by kernel_rfl) (by omega)
        exact wpOp_run ho rfl (exec_makeSlice rfl (by rw [e1]; exact hmk w1)) (hput (by decide) ((Below.refl _ _).alloc (Nat.le_refl _) _) ⟨_, rfl⟩)
      | 2, _, ho =>
        obtain rfl := Option.some.inj ho
        refine wpOp_run ho rfl (exec_move rfl) (hput (by decide) (Below.refl _ _) ?_)
        show a.eval (.tmp 0) = _
        rw [ev, hI.slot (by decide)]; rfl
      | 3, _, ho =>
        obtain rfl := Option.some.inj ho
        have e1 : a.eval (.tmp 8) = .int .i64 (m : Int) := (ev _).trans (hI.good 2 (hall ⟨2, .data⟩ (by simp) rfl))
        exact wpOp_run ho rfl (exec_makeSlice rfl (by rw [e1]; exact make_at Ybaf.underlying91 Ybaf.info94 (by omega) (by omega) w1)) (hput (by decide) ((Below.refl _ _).alloc (Nat.le_refl _) _) ⟨_, rfl, Rw.new _ _ _ _ _ hN (by simp [size_madeCells])⟩)
      | 4, _, ho =>
        obtain rfl := Option.some.inj ho
        refine wpOp_run ho rfl (exec_move rfl) (hput (by decide) (Below.refl _ _) ?_)
        show a.eval (.tmp 0) = _
        rw [ev, hI.slot (by decide)]; rfl
      | 5, _, ho =>
        obtain rfl := Option.some.inj ho
        have e1 : a.eval (.tmp 10) = .int .i64 (m : Int) := (ev _).trans (hI.good 4 (hall ⟨4, .data⟩ (by simp) rfl))
        obtain ⟨cs, hmk⟩ := make_some (m := m) Ybaf.underlying63 (by kernel_rfl) (by kernel_rfl) (by omega)
        exact wpOp_run ho rfl (exec_makeSlice rfl (by rw [e1]; exact hmk w1)) (hput (by decide) ((Below.refl _ _).alloc (Nat.le_refl _) _) ⟨_, rfl⟩)
      | 6, _, ho =>
        obtain rfl := Option.some.inj ho
        refine wpOp_run ho rfl (exec_move rfl) (hput (by decide) (Below.refl _ _) ?_)
        show a.eval (.tmp 0) = _
        rw [ev, hI.slot (by decide)]; rfl
      | 7, _, ho =>
        obtain rfl := Option.some.inj ho
        have e1 : a.eval (.tmp 12) = .int .i64 (m : Int) := (ev _).trans (hI.good 6 (hall ⟨6, .data⟩ (by simp) rfl))
        exact wpOp_run ho rfl (exec_makeSlice rfl (by rw [e1]; exact make_at Ybaf.underlying39 Ybaf.info4 (by omega) (by omega) w1)) (hput (by decide) ((Below.refl _ _).alloc (Nat.le_refl _) _) ⟨_, rfl, Rw.new _ _ _ _ _ hN (by simp [size_madeCells])⟩)
      | 8, _, ho =>
        obtain rfl := Option.some.inj ho
        refine wpOp_run ho rfl (exec_move rfl) (hput (by decide) (Below.refl _ _) ?_)
        show a.eval (.tmp 0) = _
        rw [ev, hI.slot (by decide)]; rfl
      | 9, _, ho =>
        obtain rfl := Option.some.inj ho
        have e1 : a.eval (.tmp 14) = .int .i64 (m : Int) := (ev _).trans (hI.good 8 (hall ⟨8, .data⟩ (by simp) rfl))
        obtain ⟨cs, hmk⟩ := make_some (m := m) Ybaf.underlying24 (by kernel_rfl) (by kernel_rfl) (by omega)
        exact wpOp_run ho rfl (exec_makeSlice rfl (by rw [e1]; exact hmk w1)) (hput (by decide) ((Below.refl _ _).alloc (Nat.le_refl _) _) ⟨_, rfl⟩)
      | 10, _, ho =>
        obtain rfl := Option.some.inj ho
        refine wpOp_run ho rfl (exec_move rfl) (hput (by decide) (Below.refl _ _) ?_)
        show a.eval (.tmp 0) = _
        rw [ev, hI.slot (by decide)]; rfl
      | 11, _, ho =>
        obtain rfl := Option.some.inj ho
        have e1 : a.eval (.tmp 16) = .int .i64 (m : Int) := (ev _).trans (hI.good 10 (hall ⟨10, .data⟩ (by simp) rfl))
        exact wpOp_run ho rfl (exec_makeSlice rfl (by rw [e1]; exact make_at Ybaf.underlying34 Ybaf.info3 (by omega) (by omega) w1)) (hput (by decide) ((Below.refl _ _).alloc (Nat.le_refl _) _) ⟨_, rfl, Rw.new _ _ _ _ _ hN (by simp [size_madeCells])⟩)
      | 12, _, ho =>
        obtain rfl := Option.some.inj ho
        obtain ⟨g0, b0⟩ := hI.good 1 (hall ⟨1, .data⟩ (by simp) rfl)
        obtain ⟨g1, b1, r1⟩ := hI.good 3 (hall ⟨3, .data⟩ (by simp) rfl)
        obtain ⟨g2, b2⟩ := hI.good 5 (hall ⟨5, .data⟩ (by simp) rfl)
        obtain ⟨g3, b3, r3⟩ := hI.good 7 (hall ⟨7, .data⟩ (by simp) rfl)
        obtain ⟨g4, b4⟩ := hI.good 9 (hall ⟨9, .data⟩ (by simp) rfl)
        obtain ⟨g5, b5, r5⟩ := hI.good 11 (hall ⟨11, .data⟩ (by simp) rfl)
        have c0 : a.eval (.tmp 7) = _ := (ev 7).trans b0
        have c1 : a.eval (.tmp 9) = _ := (ev 9).trans b1
        have c2 : a.eval (.tmp 11) = _ := (ev 11).trans b2
        have c3 : a.eval (.tmp 13) = _ := (ev 13).trans b3
        have c4 : a.eval (.tmp 15) = _ := (ev 15).trans b4
        have c5 : a.eval (.tmp 17) = _ := (ev 17).trans b5
        refine wpOp_run (v := .agg #[.slice (some ⟨g0, 0, none⟩) m m, .slice (some ⟨g1, 0, none⟩) m m, .slice (some ⟨g2, 0, none⟩) m m, .slice (some ⟨g3, 0, none⟩) m m, .slice (some ⟨g4, 0, none⟩) m m, .slice (some ⟨g5, 0, none⟩) m m]) ho rfl (exec_build rfl ?_) (hput (by decide) (Below.refl _ _) ⟨_, g1, g3, g5, rfl, ⟨_, _, _, rfl⟩, r1, r3, r5⟩)
        simp only [List.map_toArray, List.map_cons, List.map_nil, c0, c1, c2, c3, c4, c5]
        exact run_build93 _ _ _ _ _ _ m w1
      | 13, _, ho =>
        obtain rfl := Option.some.inj ho
        obtain ⟨cs, gn, gc, ga, b0, hcs, r1, r2, r3⟩ := hI.good 12 (hall ⟨12, .data⟩ (by simp) rfl)
        have hB : Below w1.heap.size w1 (w1.alloc (.cells cs 93)) := (Below.refl _ _).alloc (Nat.le_refl _) _
        exact wpOp_run ho rfl (exec_box rfl ((ev 18).trans b0)) (hput (by decide) hB ⟨_, gn, gc, ga, rfl, ⟨hN, cs, heap_alloc_new w1 _, hcs⟩, r1.mono hB, r2.mono hB, r3.mono hB⟩)
      | 14, _, ho =>
        obtain rfl := Option.some.inj ho
        obtain ⟨g, gn, gc, ga, b0, hL⟩ := hI.good 13 (hall ⟨13, .data⟩ (by simp) rfl)
        exact wpOp_run ho rfl (exec_assign rfl) (hput (by decide) (Below.refl _ _) ⟨g, gn, gc, ga, (ev 19).trans b0, hL⟩)
    · intro listed a w1 hs hI hall
      have h14 := hI.good 14 (hall 14 (by decide))
      refine hK _ _ (Met.intro (hJ _ _ ⟨a.tmps.getD 3 undef, a.tmps.getD 6 undef, a.tmps.getD 7 undef, a.tmps.getD 8 undef, a.tmps.getD 9 undef, a.tmps.getD 10 undef, a.tmps.getD 11 undef, a.tmps.getD 12 undef, a.tmps.getD 13 undef, a.tmps.getD 14 undef, a.tmps.getD 15 undef, a.tmps.getD 16 undef, a.tmps.getD 17 undef, a.tmps.getD 18 undef, a.tmps.getD 19 undef, ⟨h14, hI.old⟩, act_eq hI.defers hI.size ?_⟩))
      intro t ht0
      have ht : t < 66 := ht0
      have sl := fun t (h : t ∉ D11) => hI.slot (t := t) h
      match t, ht with
      | 0, _ => exact sl 0 (by decide)
      | 1, _ => exact sl 1 (by decide)
      | 2, _ => exact sl 2 (by decide)
      | 3, _ => rfl
      | 4, _ => exact sl 4 (by decide)
      | 5, _ => exact sl 5 (by decide)
      | 6, _ => rfl
      | 7, _ => rfl
      | 8, _ => rfl
      | 9, _ => rfl
      | 10, _ => rfl
      | 11, _ => rfl
      | 12, _ => rfl
      | 13, _ => rfl
      | 14, _ => rfl
      | 15, _ => rfl
      | 16, _ => rfl
      | 17, _ => rfl
      | 18, _ => rfl
      | 19, _ => rfl
      | 20, _ => exact sl 20 (by decide)
      | 21, _ => exact sl 21 (by decide)
      | 22, _ => exact sl 22 (by decide)
      | 23, _ => exact sl 23 (by decide)
      | 24, _ => exact sl 24 (by decide)
      | 25, _ => exact sl 25 (by decide)
      | 26, _ => exact sl 26 (by decide)
      | 27, _ => exact sl 27 (by decide)
      | 28, _ => exact sl 28 (by decide)
      | 29, _ => exact sl 29 (by decide)
      | 30, _ => exact sl 30 (by decide)
      | 31, _ => exact sl 31 (by decide)
      | 32, _ => exact sl 32 (by decide)
      | 33, _ => exact sl 33 (by decide)
      | 34, _ => exact sl 34 (by decide)
      | 35, _ => exact sl 35 (by decide)
      | 36, _ => exact sl 36 (by decide)
      | 37, _ => exact sl 37 (by decide)
      | 38, _ => exact sl 38 (by decide)
      | 39, _ => exact sl 39 (by decide)
      | 40, _ => exact sl 40 (by decide)
      | 41, _ => exact sl 41 (by decide)
      | 42, _ => exact sl 42 (by decide)
      | 43, _ => exact sl 43 (by decide)
      | 44, _ => exact sl 44 (by decide)
      | 45, _ => exact sl 45 (by decide)
      | 46, _ => exact sl 46 (by decide)
      | 47, _ => exact sl 47 (by decide)
      | 48, _ => exact sl 48 (by decide)
      | 49, _ => exact sl 49 (by decide)
      | 50, _ => exact sl 50 (by decide)
      | 51, _ => exact sl 51 (by decide)
      | 52, _ => exact sl 52 (by decide)
      | 53, _ => exact sl 53 (by decide)
      | 54, _ => exact sl 54 (by decide)
      | 55, _ => exact sl 55 (by decide)
      | 56, _ => exact sl 56 (by decide)
      | 57, _ => exact sl 57 (by decide)
      | 58, _ => exact sl 58 (by decide)
      | 59, _ => exact sl 59 (by decide)
      | 60, _ => exact sl 60 (by decide)
      | 61, _ => exact sl 61 (by decide)
      | 62, _ => exact sl 62 (by decide)
      | 63, _ => exact sl 63 (by decide)
      | 64, _ => exact sl 64 (by decide)
      | 65, _ => exact sl 65 (by decide)
      | n + 66, h => exact absurd h (by omega)
  case rest =>
    obtain ⟨⟨g, gn, gc, ga, rfl, hL⟩, hB⟩ := hcut
    have HL : Hid (Led w.heap.size m g gn gc ga wc) := hL
    obtain ⟨f1, f3, f5⟩ := hL.fields
    have hgl : g < wc.heap.size := (Array.getElem?_eq_some_iff.1 hL.hg.2.choose_spec.1).1
    have hmm0 : (0 : Int) ≤ (m : Int) * (m : Int) := Int.mul_nonneg (by omega) (by omega)
    have hmm1 : (m : Int) * (m : Int) ≤ 8 * 8 := Int.mul_le_mul (by omega) (by omega) (by omega) (by omega)
    have hmn : m * m ≤ 64 := Nat.mul_le_mul hm hm
    obtain ⟨cn, h94⟩ := make_some (m := m * m) Ybaf.underlying94 (by kernel_rfl) (by kernel_rfl) hmn
    simp only [Int.natCast_mul] at h94
    clear hL
    go_wp2
    clear h94 f1 f3 f5
    go_loopw [29] (fun i wr => ∃ l : Nat, l ≤ m ∧ i = .int .i64 l ∧ Led w.heap.size m g gn gc ga wr ∧ Below w.heap.size w wr) (fun i _ => m - (intOf i).toNat)
    case atStart => exact ⟨0, Nat.zero_le _, rfl, HL.out.mono ((Below.refl _ _).alloc (Nat.le_refl _) _), hB.alloc hB.size _⟩
    case round =>
      obtain ⟨wq, rfl⟩ : ∃ wq, wq = wr := ⟨_, rfl⟩
      obtain ⟨l, hl, rfl, hL, hBq⟩ := hrel
      by_cases hlt : l < m
      · obtain ⟨f1, f3, f5⟩ := hL.fields
        obtain ⟨n1, n2, n3, n4, n5, n6⟩ := hL.ne
        obtain ⟨⟨x1, y1⟩, z1⟩ := hL.hn.at hlt
        obtain ⟨⟨x2, y2⟩, z2⟩ := hL.hc.at hlt
        obtain ⟨⟨x3, y3⟩, z3⟩ := hL.ha.at hlt
        have HLq : Hid (Led w.heap.size m g gn gc ga wq) := hL
        have q1 : (0 : Int) ≤ (l : Int) * (m : Int) := Int.mul_nonneg (by omega) (by omega)
        have q2 : ((l : Int) + 1) * (m : Int) = (l : Int) * (m : Int) + (m : Int) := by rw [Int.add_mul]; omega
        have q3 : ((l : Int) + 1) * (m : Int) ≤ (m : Int) * (m : Int) := Int.mul_le_mul_of_nonneg_right (by omega) (by omega)
        have q4 : (l : Int) * (m : Int) ≤ ((l : Int) + 1) * (m : Int) := by omega
        have q5 : ((l : Int) + 1) * (m : Int) ≤ ((m * m : Nat) : Int) := by rw [Int.natCast_mul]; exact q3
        have w1 : IntKind.i64.wrap ((l : Int) * (m : Int)) = (l : Int) * (m : Int) := IntWalk.i64_in _ (by omega)
        have w2 : IntKind.i64.wrap (((l : Int) + 1) * (m : Int)) = ((l : Int) + 1) * (m : Int) := IntWalk.i64_in _ (by omega)
        have w3 : IntKind.i64.wrap ((l : Int) + 1) = (l : Int) + 1 := IntWalk.i64_in _ (by omega)
        have q6 : (0 : Int) ≤ (l : Int) := by omega
        have q7 : (l : Int) < (m : Int) := by omega
        have q8 : ¬ (((l : Int) + 1) * (m : Int)).toNat = ((l : Int) * (m : Int)).toNat := by omega
        have k1 : ∀ x, (wq.setCell ⟨gn, l, none⟩ x).cell? ⟨g, 1, none⟩ = some (.slice (some ⟨gn, 0, none⟩) m m) := fun x => (World.cell?_setCell_other _ _ _ _ (fun h => n1 (congrArg Addr.block h).symm)).trans f1
        clear q2 hL
        go_wp2
        go_region_held3 (fun w' => w'.cell? ⟨g, 1, none⟩ = some (.slice (some ⟨gn, 0, none⟩) m m)) (go_keep) (fail)
        all_goals clear k1
        all_goals go_wp2
        go_roundw
        case rel =>
          refine ⟨l + 1, by omega, by go_num, ?_, ?_⟩
          · exact Led.mono ((((HLq.out.set n1).set n2).set n3)) ⟨rfl, rfl, rfl, Nat.le_refl _, fun _ _ => rfl⟩
          · exact (((hBq.setCell (p := ⟨gn, l, none⟩) HLq.out.hn.1 _).setCell (p := ⟨gc, l, none⟩) HLq.out.hc.1 _).setCell (p := ⟨ga, l, none⟩) HLq.out.ha.1 _).trans ⟨rfl, rfl, rfl, Nat.le_refl _, fun _ _ => rfl⟩
        case measure => simp [intOf]; omega
      · go_wp2
        go_ret
        exact ⟨g, rfl, hBq⟩

end Go.Proofs.YbulkcmxgFmt
