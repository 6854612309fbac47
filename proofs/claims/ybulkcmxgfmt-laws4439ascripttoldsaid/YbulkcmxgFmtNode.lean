import Derived.Test.YbulkcmxgFmtFit
namespace Go.Proofs.YbulkcmxgFmt
open Go.RowKit

theorem Ybaf.info99 : (Ybaf.prog.info? 99).map (fun i => (i.zero, i.size, i.bytes)) = some (some (.agg #[.int .i64 0, .int .i64 0, .int .i64 0, .int .i64 0, .int .i64 0, .int .i64 0, .int .u64 0, .int .u64 0, .int .i64 0, .pointer none, .int .u64 0, .int .u64 0, .int .i64 0, .pointer none, .bool false]), 15, 120) := by kernel_rfl

/-- What a new node's cells hold, of what is read later. -/
structure NCells (m : Nat) (s : Int) (gt gf gg : Nat) (cs : Array Value) : Prop where
  size : cs.size = 84
  self : cs[0]? = some (.int .i64 s)
  pace1 : cs[41]? = some (.int .i64 0)
  pace2 : cs[42]? = some (.int .i64 0)
  pace3 : cs[43]? = some (.int .i64 0)
  trips : cs[44]? = some (.slice (some ⟨gt, 0, none⟩) m m)
  failed : cs[71]? = some (.slice (some ⟨gf, 0, none⟩) m m)
  givenUp : cs[73]? = some (.slice (some ⟨gg, 0, none⟩) m m)
  unread : cs[79]? = some (.slice none 0 0)
  made : cs[80]? = some (.int .u64 0)

set_option maxRecDepth 1000000 in
theorem run_build68 (m : Nat) (s : Int) (g1 g2 g3 g4 g5 p g6 r g7 g8 g9 g10 g11 g12 g13 gt g14 g15 g16 gf g17 gg g18 : Nat) (x0 x1 x2 x3 x4 y0 y1 y2 y3 y4 : Value) (w : World) :
    ∃ cs, (Instr.build 68 #[(0, .int .i64 s), (1, .slice (some ⟨g1, 0, none⟩) m m), (2, .slice (some ⟨g2, 0, none⟩) m m), (3, .slice (some ⟨g3, 0, none⟩) m m), (4, .slice (some ⟨g4, 0, none⟩) m m), (5, .slice (some ⟨g5, 0, none⟩) m m), (7, .pointer (some ⟨p, 0, none⟩)), (8, .slice (some ⟨g6, 0, none⟩) m m), (9, .map (some r)), (11, .slice (some ⟨g7, 0, none⟩) m m), (12, .slice (some ⟨g8, 0, none⟩) m m), (13, .slice (some ⟨g9, 0, none⟩) m m), (14, .slice (some ⟨g10, 0, none⟩) m m), (16, .slice (some ⟨g11, 0, none⟩) m m), (20, .agg #[x0, x1, x2, x3, x4]), (21, .agg #[y0, y1, y2, y3, y4]), (25, .slice (some ⟨g12, 0, none⟩) m m), (26, .slice (some ⟨g13, 0, none⟩) m m), (28, .slice (some ⟨gt, 0, none⟩) m m), (33, .slice (some ⟨g14, 0, none⟩) m m), (38, .int .i64 1000000000), (39, .slice (some ⟨g15, 0, none⟩) m m), (40, .slice (some ⟨g16, 0, none⟩) m m), (41, .slice (some ⟨gf, 0, none⟩) m m), (42, .slice (some ⟨g17, 0, none⟩) m m), (43, .slice (some ⟨gg, 0, none⟩) m m), (44, .slice (some ⟨g18, 0, none⟩) m m)]).run Ybaf.prog w = .ok (.agg cs) w ∧ NCells m s gt gf gg cs := by
  refine ⟨match (Instr.build 68 #[(0, .int .i64 s), (1, .slice (some ⟨g1, 0, none⟩) m m), (2, .slice (some ⟨g2, 0, none⟩) m m), (3, .slice (some ⟨g3, 0, none⟩) m m), (4, .slice (some ⟨g4, 0, none⟩) m m), (5, .slice (some ⟨g5, 0, none⟩) m m), (7, .pointer (some ⟨p, 0, none⟩)), (8, .slice (some ⟨g6, 0, none⟩) m m), (9, .map (some r)), (11, .slice (some ⟨g7, 0, none⟩) m m), (12, .slice (some ⟨g8, 0, none⟩) m m), (13, .slice (some ⟨g9, 0, none⟩) m m), (14, .slice (some ⟨g10, 0, none⟩) m m), (16, .slice (some ⟨g11, 0, none⟩) m m), (20, .agg #[x0, x1, x2, x3, x4]), (21, .agg #[y0, y1, y2, y3, y4]), (25, .slice (some ⟨g12, 0, none⟩) m m), (26, .slice (some ⟨g13, 0, none⟩) m m), (28, .slice (some ⟨gt, 0, none⟩) m m), (33, .slice (some ⟨g14, 0, none⟩) m m), (38, .int .i64 1000000000), (39, .slice (some ⟨g15, 0, none⟩) m m), (40, .slice (some ⟨g16, 0, none⟩) m m), (41, .slice (some ⟨gf, 0, none⟩) m m), (42, .slice (some ⟨g17, 0, none⟩) m m), (43, .slice (some ⟨gg, 0, none⟩) m m), (44, .slice (some ⟨g18, 0, none⟩) m m)]).run Ybaf.prog w with | .ok (.agg cs) _ => cs | _ => #[], ?_, ?_⟩
  · kernel_rfl
  · exact ⟨by kernel_rfl, by kernel_rfl, by kernel_rfl, by kernel_rfl, by kernel_rfl, by kernel_rfl, by kernel_rfl, by kernel_rfl, by kernel_rfl, by kernel_rfl⟩

theorem run_build44 (m g1 g2 : Nat) (w : World) : (Instr.build 44 #[(1, .slice (some ⟨g1, 0, none⟩) m m), (2, .slice (some ⟨g2, 0, none⟩) m m)]).run Ybaf.prog w = .ok (.agg #[.slice none 0 0, .slice (some ⟨g1, 0, none⟩) m m, .slice (some ⟨g2, 0, none⟩) m m, .slice none 0 0, .slice none 0 0]) w := by kernel_rfl

theorem exec_makeMap {o : Oper} {a : Act} {w : World} (ho : o.op = .makeMap 31 none) : (execOp a.eval o).run Ybaf.prog w = .ok (.value (.map (some w.heap.size))) (w.alloc (.map #[] 0)) := by
  have := @run_makeMap Ybaf.prog
  simp [execOp, ho, this, Result.andThen]

theorem ent11 : ∀ args w1, (callFunc 11 args).run Ybaf.prog w1 = .ok (.enter 11 args) w1 := fun _ _ => by kernel_rfl
theorem ent12 : ∀ args w1, (callFunc 12 args).run Ybaf.prog w1 = .ok (.enter 12 args) w1 := fun _ _ => by kernel_rfl

theorem exec_call1 {o : Oper} {a : Act} {w : World} {f t : Nat} {ty : TypeId} {v : Value} (ho : o.op = .call { callee := .value (.func f), args := #[.tmp t], argTypes := #[ty] }) (hx : a.eval (.tmp t) = v) (hent : ∀ args w1, (callFunc f args).run Ybaf.prog w1 = .ok (.enter f args) w1) :
    (execOp a.eval o).run Ybaf.prog w = .ok (.enter f #[v]) w := by
  subst hx
  simp [execOp, ho, resolve, Deferred.ofValue, Act.eval, invoke, hent]

theorem wp_region_rinv {P : Program} {ops : Array Oper} {Q : Exit → Act → World → Prop} {id : Nat} {a : Act} {w : World} (D : List Nat) (Good : Nat → Value → World → Prop) (Pair : Array Bool → Act → Prop) (hm : P.follows .mixedOrders = true) (he : edgesB .any ops = true)
    (step : ∀ listed a' w' i, listed.size = ops.size → RInv D Good w a listed a' w' → Pair listed a' → i ∈ Region.ready .any ops listed → wpOp P ops Q i (fun a'' w'' => RInv D Good w a (listed.setIfInBounds i true) a'' w'' ∧ Pair (listed.setIfInBounds i true) a'') a' w')
    (done : ∀ listed a' w', listed.size = ops.size → RInv D Good w a listed a' w' → (∀ i, i < ops.size → listed.getD i false = true) → Q .normal a' w')
    (start : Pair (Array.replicate ops.size false) a) : (Code.region id ops true).wp P Q a w :=
  wp_region_inv (fun l a' w' => RInv D Good w a l a' w' ∧ Pair l a') hm he (fun l a' w' i hs h hi => step l a' w' i hs h.1 h.2 hi) (fun l a' w' hs h hall => done l a' w' hs h.1 hall) ⟨RInv.start, start⟩

/-- The row of round trips, as it is made. -/
def TripNew (w : World) (N m g : Nat) : Prop := N ≤ g ∧ w.heap[g]? = some (.cells (madeCells #[.int .i64 0, .int .i64 0, .int .i64 0, .int .i64 0, .int .i64 0, .int .i64 0, .int .u64 0, .int .u64 0, .int .i64 0, .pointer none, .int .u64 0, .int .u64 0, .int .i64 0, .pointer none, .bool false] (m * 15)) 99 (0, 0))
theorem TripNew.mono {w w' : World} {N m g : Nat} (h : TripNew w N m g) (hB : Below w.heap.size w w') : TripNew w' N m g :=
  ⟨h.1, (hB.block g (Array.getElem?_eq_some_iff.1 h.2).1).trans h.2⟩

/-- A new node in memory. -/
structure NodeNew (N m : Nat) (s : Int) (nb gt gf gg : Nat) (w : World) : Prop where
  node : N ≤ nb ∧ ∃ cs, w.heap[nb]? = some (.cells cs 68 (0, 0)) ∧ NCells m s gt gf gg cs
  trip : TripNew w N m gt
  rf : Rw w N gf 4 m
  rg : Rw w N gg 4 m
  ne : gf ≠ gg
theorem NodeNew.mono {N m : Nat} {s : Int} {nb gt gf gg : Nat} {w w' : World} (h : NodeNew N m s nb gt gf gg w) (hB : Below w.heap.size w w') : NodeNew N m s nb gt gf gg w' := by
  obtain ⟨h0, cs, h1, h2⟩ := h.node
  exact ⟨⟨h0, cs, (hB.block nb (Array.getElem?_eq_some_iff.1 h1).1).trans h1, h2⟩, h.trip.mono hB, h.rf.mono hB, h.rg.mono hB, h.ne⟩

/-- The node while its round trips are fitted: the first k are done. -/
structure NodeT (N m : Nat) (s : Int) (nb gt gf gg k : Nat) (w : World) : Prop where
  node : N ≤ nb ∧ ∃ cs, w.heap[nb]? = some (.cells cs 68 (0, 0)) ∧ NCells m s gt gf gg cs
  trip : N ≤ gt ∧ ∃ arr : Array Value, w.heap[gt]? = some (.cells arr 99 (0, 0)) ∧ arr.size = m * 15 ∧ ∀ l, k ≤ l → l < m → arr[l * 15]? = some (.int .i64 0)
  rf : Rw w N gf 4 m
  rg : Rw w N gg 4 m
  ne : gf ≠ gg

theorem nodeT_of {N m : Nat} {s : Int} {nb gt gf gg : Nat} {w : World} (h : NodeNew N m s nb gt gf gg w) : NodeT N m s nb gt gf gg 0 w := by
  refine ⟨h.node, ⟨h.trip.1, _, h.trip.2, by rw [size_madeCells], fun l _ hl => ?_⟩, h.rf, h.rg, h.ne⟩
  have hlt : l * 15 < m * 15 := by omega
  simp [madeCells, hlt]

theorem NodeT.ne_gt {N m : Nat} {s : Int} {nb gt gf gg k : Nat} {w : World} (h : NodeT N m s nb gt gf gg k w) : nb ≠ gt ∧ gf ≠ gt ∧ gg ≠ gt := by
  obtain ⟨_, cs, h1, _⟩ := h.node
  obtain ⟨_, arr, h2, _⟩ := h.trip
  obtain ⟨_, a3, h3, _⟩ := h.rf
  obtain ⟨_, a4, h4, _⟩ := h.rg
  exact ⟨blk_ne h1 h2 (by decide), blk_ne h3 h2 (by decide), blk_ne h4 h2 (by decide)⟩

theorem NodeT.lt {N m : Nat} {s : Int} {nb gt gf gg k : Nat} {w : World} (h : NodeT N m s nb gt gf gg k w) : nb < w.heap.size ∧ gt < w.heap.size := by
  obtain ⟨_, cs, h1, _⟩ := h.node
  obtain ⟨_, arr, h2, _⟩ := h.trip
  exact ⟨(Array.getElem?_eq_some_iff.1 h1).1, (Array.getElem?_eq_some_iff.1 h2).1⟩

theorem NodeT.step {N m : Nat} {s : Int} {nb gt gf gg k : Nat} {w : World} {o1 o2 : Obj} (h : NodeT N m s nb gt gf gg k w) (y2 y3 y4 : Value) :
    NodeT N m s nb gt gf gg (k + 1) (((((w.setCell ⟨gt, k * 15 + 2, none⟩ y2).setCell ⟨gt, k * 15 + 2 + 1, none⟩ y3).setCell ⟨gt, k * 15 + 2 + 2, none⟩ y4).alloc o1).alloc o2) := by
  obtain ⟨n1, n2, n3⟩ := h.ne_gt
  obtain ⟨l1, l2⟩ := h.lt
  have hB : ∀ w1 : World, Below w1.heap.size w1 ((w1.alloc o1).alloc o2) := fun w1 => ((Below.refl _ _).alloc (Nat.le_refl _) _).alloc (by simp) _
  refine ⟨?_, ?_, ((h.rf.set (g' := gt)).set.set).mono (hB _), ((h.rg.set (g' := gt)).set.set).mono (hB _), h.ne⟩
  · obtain ⟨h0, cs, h1, h2⟩ := h.node
    refine ⟨h0, cs, ?_, h2⟩
    rw [(hB _).block nb (by simp [World.setCell]; exact l1), Below.heap_setCell _ _ _ _ n1, Below.heap_setCell _ _ _ _ n1, Below.heap_setCell _ _ _ _ n1]; exact h1
  · obtain ⟨h0, arr, h1, h2, h3⟩ := h.trip
    refine ⟨h0, ((arr.setIfInBounds (k * 15 + 2) y2).setIfInBounds (k * 15 + 2 + 1) y3).setIfInBounds (k * 15 + 2 + 2) y4, ?_, by simpa using h2, fun l hl hlm => ?_⟩
    · rw [(hB _).block gt (by simp [World.setCell]; exact l2)]
      exact heap_set (heap_set (heap_set h1))
    · rw [Array.getElem?_setIfInBounds_ne (by omega), Array.getElem?_setIfInBounds_ne (by omega), Array.getElem?_setIfInBounds_ne (by omega)]
      exact h3 l (by omega) hlm

theorem NodeT.cells {N m : Nat} {s : Int} {nb gt gf gg k : Nat} {w : World} (h : NodeT N m s nb gt gf gg k w) :
    w.cell? ⟨nb, 41, none⟩ = some (.int .i64 0) ∧ w.cell? ⟨nb, 42, none⟩ = some (.int .i64 0) ∧ w.cell? ⟨nb, 43, none⟩ = some (.int .i64 0) ∧ w.cell? ⟨nb, 44, none⟩ = some (.slice (some ⟨gt, 0, none⟩) m m) := by
  obtain ⟨_, cs, h1, h2⟩ := h.node
  exact ⟨(cell_of_blk h1 _).trans h2.pace1, (cell_of_blk h1 _).trans h2.pace2, (cell_of_blk h1 _).trans h2.pace3, (cell_of_blk h1 _).trans h2.trips⟩

theorem NodeT.row {N m : Nat} {s : Int} {nb gt gf gg k : Nat} {w : World} (h : NodeT N m s nb gt gf gg k w) (hk : k < m) :
    w.cell? ⟨gt, k * 15, none⟩ = some (.int .i64 0) ∧ (∀ i, i < 15 → ∃ v, w.cell? ⟨gt, k * 15 + i, none⟩ = some v) ∧ ∀ i, w.frozen? ⟨gt, i, none⟩ = false := by
  obtain ⟨_, arr, h1, h2, h3⟩ := h.trip
  refine ⟨(cell_of_blk h1 _).trans (h3 k (Nat.le_refl _) hk), fun i hi => ?_, frozen_of_blk h1⟩
  have hlt : k * 15 + i < arr.size := by omega
  exact ⟨arr[k * 15 + i], (cell_of_blk h1 _).trans (Array.getElem?_eq_getElem hlt)⟩

theorem PaceAt.below {w w' : World} {B : Nat} (h : PaceAt w) (hB : Below B w w') (h0 : 0 < B) : PaceAt w' := by
  obtain ⟨z, p0, p1, p2⟩ := h
  exact ⟨Nat.lt_of_lt_of_le z hB.size, (hB.cell (by exact h0)).trans p0, (hB.cell (by exact h0)).trans p1, (hB.cell (by exact h0)).trans p2⟩

/-- The node as the laws go on with it. -/
structure NodeOk (N m : Nat) (s : Int) (nb gf gg : Nat) (w : World) : Prop where
  node : N ≤ nb ∧ ∃ cs : Array Value, w.heap[nb]? = some (.cells cs 68 (0, 0)) ∧ cs.size = 84 ∧ cs[0]? = some (.int .i64 s) ∧ cs[71]? = some (.slice (some ⟨gf, 0, none⟩) m m) ∧ cs[73]? = some (.slice (some ⟨gg, 0, none⟩) m m) ∧ cs[79]? = some (.slice none 0 0) ∧ cs[80]? = some (.int .u64 0)
  rf : Rw w N gf 4 m
  rg : Rw w N gg 4 m
  ne : gf ≠ gg

def Agg5 (v : Value) : Prop := ∃ x0 x1 x2 x3 x4, v = .agg #[x0, x1, x2, x3, x4]

def D5 : List Nat := [25, 26, 27, 28, 29, 30, 31, 32, 33, 34, 35, 36, 37, 38, 39, 40, 41, 42, 43, 44, 45, 46, 47, 48, 49, 50, 51, 52, 53, 54, 55, 56, 57, 58, 59, 60, 61, 62, 63, 64, 65, 66, 67, 68, 69, 70, 71, 72, 73, 74, 75, 76, 77, 78, 79, 5]
def good5 (N m : Nat) (s : Int) (j : Nat) (v : Value) (w : World) : Prop :=
  match j with
  | 0 => v = .int .i64 s
  | 1 | 3 | 5 | 7 | 9 | 11 | 13 | 16 | 18 | 20 | 22 | 24 | 26 | 28 | 30 | 33 | 35 | 37 | 39 | 41 | 43 | 45 | 47 | 49 | 51 => v = .int .i64 (m : Int)
  | 2 | 4 | 6 | 8 | 10 | 14 | 17 | 19 | 21 | 23 | 25 | 29 | 31 | 34 | 36 | 40 | 42 | 44 | 48 | 52 => Sl m v
  | 12 => ∃ g, v = .pointer (some ⟨g, 0, none⟩)
  | 15 => ∃ r, v = .map (some r)
  | 27 | 32 => Agg5 v
  | 38 => ∃ g, v = .slice (some ⟨g, 0, none⟩) m m ∧ TripNew w N m g
  | 46 | 50 => SlRw w N m 4 m v
  | 53 => ∃ cs gt gf gg, v = .agg cs ∧ NCells m s gt gf gg cs ∧ TripNew w N m gt ∧ Rw w N gf 4 m ∧ Rw w N gg 4 m ∧ gf ≠ gg
  | _ => ∃ nb gt gf gg, v = .pointer (some ⟨nb, 0, none⟩) ∧ NodeNew N m s nb gt gf gg w

theorem good5_mono (N m : Nat) (s : Int) : ∀ j v w w', good5 N m s j v w → Below w.heap.size w w' → good5 N m s j v w' := by
  intro j v w w' h hB
  unfold good5 at *
  split at h
  all_goals first
    | exact h
    | exact SlRw.mono h hB
    | (obtain ⟨g, h1, h2⟩ := h; exact ⟨g, h1, TripNew.mono h2 hB⟩)
    | (obtain ⟨cs, gt, gf, gg, h1, h2, h3, h4, h5, h6⟩ := h; exact ⟨cs, gt, gf, gg, h1, h2, h3.mono hB, h4.mono hB, h5.mono hB, h6⟩)
    | (obtain ⟨nb, gt, gf, gg, h1, h2⟩ := h; exact ⟨nb, gt, gf, gg, h1, h2.mono hB⟩)

def Pair5 (listed : Array Bool) (a : Act) : Prop := listed.getD 46 false = true → listed.getD 50 false = true → a.tmps.getD 71 undef ≠ a.tmps.getD 75 undef

theorem put_other {a : Act} {d t : Nat} {v : Value} (h : d ≠ t) : (a.put (some d) v).tmps.getD t undef = a.tmps.getD t undef := by
  simp only [Act.put, Array.getD_eq_getD_getElem?]
  rw [Array.getElem?_setIfInBounds_ne h]
theorem put_same {a : Act} {d : Nat} {v : Value} (h : d < a.tmps.size) : (a.put (some d) v).tmps.getD d undef = v := by
  simp only [Act.put, Array.getD_eq_getD_getElem?]
  rw [Array.getElem?_setIfInBounds_self_of_lt h]; rfl

theorem Pair5.put {listed : Array Bool} {a : Act} {i d : Nat} {v : Value} (h : Pair5 listed a) (h1 : i ≠ 46) (h2 : i ≠ 50) (d1 : d ≠ 71) (d2 : d ≠ 75) : Pair5 (listed.setIfInBounds i true) (a.put (some d) v) := by
  intro e1 e2
  rw [getD_set_ne false h1] at e1
  rw [getD_set_ne false h2] at e2
  rw [put_other d1, put_other d2]
  exact h e1 e2

set_option maxHeartbeats 8000000 in
set_option maxRecDepth 1000000 in
theorem newNode_any (s : Int) (m : Nat) (w : World) (hm1 : 1 ≤ m) (hm : m ≤ 8) (hs0 : 0 ≤ s) (hs1 : s < m) (hp : PaceAt w) :
    Calls Ybaf.prog 5 #[.int .i64 s, .int .i64 (m : Int)] w fun e w' => ∃ nb gf gg, e = .returned (.pointer (some ⟨nb, 0, none⟩)) ∧ NodeOk w.heap.size m s nb gf gg w' ∧ Below w.heap.size w w' := by
  have HP : Hid (PaceAt w) := hp
  have hpz := hp.1
  clear hp
  go_enter Ybaf.func5, Ybaf.ntmps5
  go_wp2
  go_cut [5] from 25 to 79 (fun v wr => (∃ nb gt gf gg, v = .pointer (some ⟨nb, 0, none⟩) ∧ NodeNew w.heap.size m s nb gt gf gg wr) ∧ Below w.heap.size w wr)
  case first =>
    rename_i J K' hJ hK
    refine wp_region_rinv D5 (good5 w.heap.size m s) Pair5 (by kernel_rfl) (by kernel_rfl) ?_ ?_ (fun h => by simp at h)
    · intro listed a w1 i hs hI hP hi
      obtain ⟨hl0, o, ho, hall⟩ := mem_ready.1 hi
      have hl : listed.size = D5.length := hs
      have hN : w.heap.size ≤ w1.heap.size := hI.old.size
      have hput := fun {i : Nat} {v : Value} {w' : World} => hI.put (i := i) (v := v) (w' := w') (by decide) (show ∀ d ∈ D5, d < 93 by decide) (good5_mono _ _ _) hl
      have hlt : i < 56 := (Array.getElem?_eq_some_iff.1 ho).1
      have ev : ∀ t, a.eval (.tmp t) = a.tmps.getD t undef := eval_tmp a
      match i, hlt, ho with
      | 0, _, ho =>
        obtain rfl := Option.some.inj ho
        refine wpOp_run ho rfl (exec_move rfl) ⟨hput (by decide) (Below.refl _ _) ?_, hP.put (by decide) (by decide) (by decide) (by decide)⟩
        show a.eval (.tmp 0) = _
        rw [ev, hI.slot (by decide)]; rfl
      | 1, _, ho =>
        obtain rfl := Option.some.inj ho
        refine wpOp_run ho rfl (exec_move rfl) ⟨hput (by decide) (Below.refl _ _) ?_, hP.put (by decide) (by decide) (by decide) (by decide)⟩
        show a.eval (.tmp 1) = _
        rw [ev, hI.slot (by decide)]; rfl
      | 2, _, ho =>
        obtain rfl := Option.some.inj ho
        have e1 : a.eval (.tmp 26) = .int .i64 (m : Int) := (ev _).trans (hI.good 1 (hall ⟨1, .data⟩ (by simp) rfl))
        obtain ⟨cs, hmk⟩ := make_some (m := m) Ybaf.underlying24 (by kernel_rfl) (by kernel_rfl) (by omega)
        exact wpOp_run ho rfl (exec_makeSlice rfl (by rw [e1]; exact hmk w1)) ⟨hput (by decide) ((Below.refl _ _).alloc (Nat.le_refl _) _) ⟨_, rfl⟩, hP.put (by decide) (by decide) (by decide) (by decide)⟩
      | 3, _, ho =>
        obtain rfl := Option.some.inj ho
        refine wpOp_run ho rfl (exec_move rfl) ⟨hput (by decide) (Below.refl _ _) ?_, hP.put (by decide) (by decide) (by decide) (by decide)⟩
        show a.eval (.tmp 1) = _
        rw [ev, hI.slot (by decide)]; rfl
      | 4, _, ho =>
        obtain rfl := Option.some.inj ho
        have e1 : a.eval (.tmp 28) = .int .i64 (m : Int) := (ev _).trans (hI.good 3 (hall ⟨3, .data⟩ (by simp) rfl))
        obtain ⟨cs, hmk⟩ := make_some (m := m) Ybaf.underlying25 (by kernel_rfl) (by kernel_rfl) (by omega)
        exact wpOp_run ho rfl (exec_makeSlice rfl (by rw [e1]; exact hmk w1)) ⟨hput (by decide) ((Below.refl _ _).alloc (Nat.le_refl _) _) ⟨_, rfl⟩, hP.put (by decide) (by decide) (by decide) (by decide)⟩
      | 5, _, ho =>
        obtain rfl := Option.some.inj ho
        refine wpOp_run ho rfl (exec_move rfl) ⟨hput (by decide) (Below.refl _ _) ?_, hP.put (by decide) (by decide) (by decide) (by decide)⟩
        show a.eval (.tmp 1) = _
        rw [ev, hI.slot (by decide)]; rfl
      | 6, _, ho =>
        obtain rfl := Option.some.inj ho
        have e1 : a.eval (.tmp 30) = .int .i64 (m : Int) := (ev _).trans (hI.good 5 (hall ⟨5, .data⟩ (by simp) rfl))
        obtain ⟨cs, hmk⟩ := make_some (m := m) Ybaf.underlying26 (by kernel_rfl) (by kernel_rfl) (by omega)
        exact wpOp_run ho rfl (exec_makeSlice rfl (by rw [e1]; exact hmk w1)) ⟨hput (by decide) ((Below.refl _ _).alloc (Nat.le_refl _) _) ⟨_, rfl⟩, hP.put (by decide) (by decide) (by decide) (by decide)⟩
      | 7, _, ho =>
        obtain rfl := Option.some.inj ho
        refine wpOp_run ho rfl (exec_move rfl) ⟨hput (by decide) (Below.refl _ _) ?_, hP.put (by decide) (by decide) (by decide) (by decide)⟩
        show a.eval (.tmp 1) = _
        rw [ev, hI.slot (by decide)]; rfl
      | 8, _, ho =>
        obtain rfl := Option.some.inj ho
        have e1 : a.eval (.tmp 32) = .int .i64 (m : Int) := (ev _).trans (hI.good 7 (hall ⟨7, .data⟩ (by simp) rfl))
        obtain ⟨cs, hmk⟩ := make_some (m := m) Ybaf.underlying27 (by kernel_rfl) (by kernel_rfl) (by omega)
        exact wpOp_run ho rfl (exec_makeSlice rfl (by rw [e1]; exact hmk w1)) ⟨hput (by decide) ((Below.refl _ _).alloc (Nat.le_refl _) _) ⟨_, rfl⟩, hP.put (by decide) (by decide) (by decide) (by decide)⟩
      | 9, _, ho =>
        obtain rfl := Option.some.inj ho
        refine wpOp_run ho rfl (exec_move rfl) ⟨hput (by decide) (Below.refl _ _) ?_, hP.put (by decide) (by decide) (by decide) (by decide)⟩
        show a.eval (.tmp 1) = _
        rw [ev, hI.slot (by decide)]; rfl
      | 10, _, ho =>
        obtain rfl := Option.some.inj ho
        have e1 : a.eval (.tmp 34) = .int .i64 (m : Int) := (ev _).trans (hI.good 9 (hall ⟨9, .data⟩ (by simp) rfl))
        obtain ⟨cs, hmk⟩ := make_some (m := m) Ybaf.underlying24 (by kernel_rfl) (by kernel_rfl) (by omega)
        exact wpOp_run ho rfl (exec_makeSlice rfl (by rw [e1]; exact hmk w1)) ⟨hput (by decide) ((Below.refl _ _).alloc (Nat.le_refl _) _) ⟨_, rfl⟩, hP.put (by decide) (by decide) (by decide) (by decide)⟩
      | 11, _, ho =>
        obtain rfl := Option.some.inj ho
        refine wpOp_run ho rfl (exec_move rfl) ⟨hput (by decide) (Below.refl _ _) ?_, hP.put (by decide) (by decide) (by decide) (by decide)⟩
        show a.eval (.tmp 1) = _
        rw [ev, hI.slot (by decide)]; rfl
      | 12, _, ho =>
        obtain rfl := Option.some.inj ho
        have e1 : a.eval (.tmp 36) = .int .i64 (m : Int) := (ev _).trans (hI.good 11 (hall ⟨11, .data⟩ (by simp) rfl))
        refine wpOp_enter ho rfl (exec_call1 rfl e1 ent11) ((newLedger_any m w1 hm1 hm).mono ?_)
        rintro e w2 ⟨g, rfl, hB⟩
        exact ⟨_, rfl, hput (by decide) hB ⟨g, rfl⟩, hP.put (by decide) (by decide) (by decide) (by decide)⟩
      | 13, _, ho =>
        obtain rfl := Option.some.inj ho
        refine wpOp_run ho rfl (exec_move rfl) ⟨hput (by decide) (Below.refl _ _) ?_, hP.put (by decide) (by decide) (by decide) (by decide)⟩
        show a.eval (.tmp 1) = _
        rw [ev, hI.slot (by decide)]; rfl
      | 14, _, ho =>
        obtain rfl := Option.some.inj ho
        have e1 : a.eval (.tmp 38) = .int .i64 (m : Int) := (ev _).trans (hI.good 13 (hall ⟨13, .data⟩ (by simp) rfl))
        obtain ⟨cs, hmk⟩ := make_some (m := m) Ybaf.underlying24 (by kernel_rfl) (by kernel_rfl) (by omega)
        exact wpOp_run ho rfl (exec_makeSlice rfl (by rw [e1]; exact hmk w1)) ⟨hput (by decide) ((Below.refl _ _).alloc (Nat.le_refl _) _) ⟨_, rfl⟩, hP.put (by decide) (by decide) (by decide) (by decide)⟩
      | 15, _, ho =>
        obtain rfl := Option.some.inj ho
        exact wpOp_run ho rfl (exec_makeMap rfl) ⟨hput (by decide) ((Below.refl _ _).alloc (Nat.le_refl _) _) ⟨_, rfl⟩, hP.put (by decide) (by decide) (by decide) (by decide)⟩
      | 16, _, ho =>
        obtain rfl := Option.some.inj ho
        refine wpOp_run ho rfl (exec_move rfl) ⟨hput (by decide) (Below.refl _ _) ?_, hP.put (by decide) (by decide) (by decide) (by decide)⟩
        show a.eval (.tmp 1) = _
        rw [ev, hI.slot (by decide)]; rfl
      | 17, _, ho =>
        obtain rfl := Option.some.inj ho
        have e1 : a.eval (.tmp 41) = .int .i64 (m : Int) := (ev _).trans (hI.good 16 (hall ⟨16, .data⟩ (by simp) rfl))
        obtain ⟨cs, hmk⟩ := make_some (m := m) Ybaf.underlying32 (by kernel_rfl) (by kernel_rfl) (by omega)
        exact wpOp_run ho rfl (exec_makeSlice rfl (by rw [e1]; exact hmk w1)) ⟨hput (by decide) ((Below.refl _ _).alloc (Nat.le_refl _) _) ⟨_, rfl⟩, hP.put (by decide) (by decide) (by decide) (by decide)⟩
      | 18, _, ho =>
        obtain rfl := Option.some.inj ho
        refine wpOp_run ho rfl (exec_move rfl) ⟨hput (by decide) (Below.refl _ _) ?_, hP.put (by decide) (by decide) (by decide) (by decide)⟩
        show a.eval (.tmp 1) = _
        rw [ev, hI.slot (by decide)]; rfl
      | 19, _, ho =>
        obtain rfl := Option.some.inj ho
        have e1 : a.eval (.tmp 43) = .int .i64 (m : Int) := (ev _).trans (hI.good 18 (hall ⟨18, .data⟩ (by simp) rfl))
        obtain ⟨cs, hmk⟩ := make_some (m := m) Ybaf.underlying33 (by kernel_rfl) (by kernel_rfl) (by omega)
        exact wpOp_run ho rfl (exec_makeSlice rfl (by rw [e1]; exact hmk w1)) ⟨hput (by decide) ((Below.refl _ _).alloc (Nat.le_refl _) _) ⟨_, rfl⟩, hP.put (by decide) (by decide) (by decide) (by decide)⟩
      | 20, _, ho =>
        obtain rfl := Option.some.inj ho
        refine wpOp_run ho rfl (exec_move rfl) ⟨hput (by decide) (Below.refl _ _) ?_, hP.put (by decide) (by decide) (by decide) (by decide)⟩
        show a.eval (.tmp 1) = _
        rw [ev, hI.slot (by decide)]; rfl
      | 21, _, ho =>
        obtain rfl := Option.some.inj ho
        have e1 : a.eval (.tmp 45) = .int .i64 (m : Int) := (ev _).trans (hI.good 20 (hall ⟨20, .data⟩ (by simp) rfl))
        obtain ⟨cs, hmk⟩ := make_some (m := m) Ybaf.underlying34 (by kernel_rfl) (by kernel_rfl) (by omega)
        exact wpOp_run ho rfl (exec_makeSlice rfl (by rw [e1]; exact hmk w1)) ⟨hput (by decide) ((Below.refl _ _).alloc (Nat.le_refl _) _) ⟨_, rfl⟩, hP.put (by decide) (by decide) (by decide) (by decide)⟩
      | 22, _, ho =>
        obtain rfl := Option.some.inj ho
        refine wpOp_run ho rfl (exec_move rfl) ⟨hput (by decide) (Below.refl _ _) ?_, hP.put (by decide) (by decide) (by decide) (by decide)⟩
        show a.eval (.tmp 1) = _
        rw [ev, hI.slot (by decide)]; rfl
      | 23, _, ho =>
        obtain rfl := Option.some.inj ho
        have e1 : a.eval (.tmp 47) = .int .i64 (m : Int) := (ev _).trans (hI.good 22 (hall ⟨22, .data⟩ (by simp) rfl))
        obtain ⟨cs, hmk⟩ := make_some (m := m) Ybaf.underlying33 (by kernel_rfl) (by kernel_rfl) (by omega)
        exact wpOp_run ho rfl (exec_makeSlice rfl (by rw [e1]; exact hmk w1)) ⟨hput (by decide) ((Below.refl _ _).alloc (Nat.le_refl _) _) ⟨_, rfl⟩, hP.put (by decide) (by decide) (by decide) (by decide)⟩
      | 24, _, ho =>
        obtain rfl := Option.some.inj ho
        refine wpOp_run ho rfl (exec_move rfl) ⟨hput (by decide) (Below.refl _ _) ?_, hP.put (by decide) (by decide) (by decide) (by decide)⟩
        show a.eval (.tmp 1) = _
        rw [ev, hI.slot (by decide)]; rfl
      | 25, _, ho =>
        obtain rfl := Option.some.inj ho
        have e1 : a.eval (.tmp 49) = .int .i64 (m : Int) := (ev _).trans (hI.good 24 (hall ⟨24, .data⟩ (by simp) rfl))
        obtain ⟨cs, hmk⟩ := make_some (m := m) Ybaf.underlying39 (by kernel_rfl) (by kernel_rfl) (by omega)
        exact wpOp_run ho rfl (exec_makeSlice rfl (by rw [e1]; exact hmk w1)) ⟨hput (by decide) ((Below.refl _ _).alloc (Nat.le_refl _) _) ⟨_, rfl⟩, hP.put (by decide) (by decide) (by decide) (by decide)⟩
      | 26, _, ho =>
        obtain rfl := Option.some.inj ho
        refine wpOp_run ho rfl (exec_move rfl) ⟨hput (by decide) (Below.refl _ _) ?_, hP.put (by decide) (by decide) (by decide) (by decide)⟩
        show a.eval (.tmp 1) = _
        rw [ev, hI.slot (by decide)]; rfl
      | 27, _, ho =>
        obtain rfl := Option.some.inj ho
        have e1 : a.eval (.tmp 51) = .int .i64 (m : Int) := (ev _).trans (hI.good 26 (hall ⟨26, .data⟩ (by simp) rfl))
        refine wpOp_enter ho rfl (exec_call1 rfl e1 ent12) ((newStatus_any m w1 hm).mono ?_)
        rintro e w2 ⟨g1, g2, g3, rfl, hB⟩
        exact ⟨_, rfl, hput (by decide) hB ⟨_, _, _, _, _, rfl⟩, hP.put (by decide) (by decide) (by decide) (by decide)⟩
      | 28, _, ho =>
        obtain rfl := Option.some.inj ho
        refine wpOp_run ho rfl (exec_move rfl) ⟨hput (by decide) (Below.refl _ _) ?_, hP.put (by decide) (by decide) (by decide) (by decide)⟩
        show a.eval (.tmp 1) = _
        rw [ev, hI.slot (by decide)]; rfl
      | 29, _, ho =>
        obtain rfl := Option.some.inj ho
        have e1 : a.eval (.tmp 53) = .int .i64 (m : Int) := (ev _).trans (hI.good 28 (hall ⟨28, .data⟩ (by simp) rfl))
        obtain ⟨cs, hmk⟩ := make_some (m := m) Ybaf.underlying24 (by kernel_rfl) (by kernel_rfl) (by omega)
        exact wpOp_run ho rfl (exec_makeSlice rfl (by rw [e1]; exact hmk w1)) ⟨hput (by decide) ((Below.refl _ _).alloc (Nat.le_refl _) _) ⟨_, rfl⟩, hP.put (by decide) (by decide) (by decide) (by decide)⟩
      | 30, _, ho =>
        obtain rfl := Option.some.inj ho
        refine wpOp_run ho rfl (exec_move rfl) ⟨hput (by decide) (Below.refl _ _) ?_, hP.put (by decide) (by decide) (by decide) (by decide)⟩
        show a.eval (.tmp 1) = _
        rw [ev, hI.slot (by decide)]; rfl
      | 31, _, ho =>
        obtain rfl := Option.some.inj ho
        have e1 : a.eval (.tmp 55) = .int .i64 (m : Int) := (ev _).trans (hI.good 30 (hall ⟨30, .data⟩ (by simp) rfl))
        obtain ⟨cs, hmk⟩ := make_some (m := m) Ybaf.underlying41 (by kernel_rfl) (by kernel_rfl) (by omega)
        exact wpOp_run ho rfl (exec_makeSlice rfl (by rw [e1]; exact hmk w1)) ⟨hput (by decide) ((Below.refl _ _).alloc (Nat.le_refl _) _) ⟨_, rfl⟩, hP.put (by decide) (by decide) (by decide) (by decide)⟩
      | 32, _, ho =>
        obtain rfl := Option.some.inj ho
        obtain ⟨g1, b1⟩ := hI.good 29 (hall ⟨29, .data⟩ (by simp) rfl)
        obtain ⟨g2, b2⟩ := hI.good 31 (hall ⟨31, .data⟩ (by simp) rfl)
        have c1 : a.eval (.tmp 54) = _ := (ev 54).trans b1
        have c2 : a.eval (.tmp 56) = _ := (ev 56).trans b2
        refine wpOp_run (v := .agg #[.slice none 0 0, .slice (some ⟨g1, 0, none⟩) m m, .slice (some ⟨g2, 0, none⟩) m m, .slice none 0 0, .slice none 0 0]) ho rfl (exec_build rfl ?_) ⟨hput (by decide) (Below.refl _ _) ⟨_, _, _, _, _, rfl⟩, hP.put (by decide) (by decide) (by decide) (by decide)⟩
        simp only [List.map_toArray, List.map_cons, List.map_nil, c1, c2]
        exact run_build44 m g1 g2 w1
      | 33, _, ho =>
        obtain rfl := Option.some.inj ho
        refine wpOp_run ho rfl (exec_move rfl) ⟨hput (by decide) (Below.refl _ _) ?_, hP.put (by decide) (by decide) (by decide) (by decide)⟩
        show a.eval (.tmp 1) = _
        rw [ev, hI.slot (by decide)]; rfl
      | 34, _, ho =>
        obtain rfl := Option.some.inj ho
        have e1 : a.eval (.tmp 58) = .int .i64 (m : Int) := (ev _).trans (hI.good 33 (hall ⟨33, .data⟩ (by simp) rfl))
        obtain ⟨cs, hmk⟩ := make_some (m := m) Ybaf.underlying24 (by kernel_rfl) (by kernel_rfl) (by omega)
        exact wpOp_run ho rfl (exec_makeSlice rfl (by rw [e1]; exact hmk w1)) ⟨hput (by decide) ((Below.refl _ _).alloc (Nat.le_refl _) _) ⟨_, rfl⟩, hP.put (by decide) (by decide) (by decide) (by decide)⟩
      | 35, _, ho =>
        obtain rfl := Option.some.inj ho
        refine wpOp_run ho rfl (exec_move rfl) ⟨hput (by decide) (Below.refl _ _) ?_, hP.put (by decide) (by decide) (by decide) (by decide)⟩
        show a.eval (.tmp 1) = _
        rw [ev, hI.slot (by decide)]; rfl
      | 36, _, ho =>
        obtain rfl := Option.some.inj ho
        have e1 : a.eval (.tmp 60) = .int .i64 (m : Int) := (ev _).trans (hI.good 35 (hall ⟨35, .data⟩ (by simp) rfl))
        obtain ⟨cs, hmk⟩ := make_some (m := m) Ybaf.underlying24 (by kernel_rfl) (by kernel_rfl) (by omega)
        exact wpOp_run ho rfl (exec_makeSlice rfl (by rw [e1]; exact hmk w1)) ⟨hput (by decide) ((Below.refl _ _).alloc (Nat.le_refl _) _) ⟨_, rfl⟩, hP.put (by decide) (by decide) (by decide) (by decide)⟩
      | 37, _, ho =>
        obtain rfl := Option.some.inj ho
        refine wpOp_run ho rfl (exec_move rfl) ⟨hput (by decide) (Below.refl _ _) ?_, hP.put (by decide) (by decide) (by decide) (by decide)⟩
        show a.eval (.tmp 1) = _
        rw [ev, hI.slot (by decide)]; rfl
      | 38, _, ho =>
        obtain rfl := Option.some.inj ho
        have e1 : a.eval (.tmp 62) = .int .i64 (m : Int) := (ev _).trans (hI.good 37 (hall ⟨37, .data⟩ (by simp) rfl))
        exact wpOp_run ho rfl (exec_makeSlice rfl (by rw [e1]; exact make_at Ybaf.underlying56 Ybaf.info99 (by omega) (by omega) w1)) ⟨hput (by decide) ((Below.refl _ _).alloc (Nat.le_refl _) _) ⟨_, rfl, hN, heap_alloc_new w1 _⟩, hP.put (by decide) (by decide) (by decide) (by decide)⟩
      | 39, _, ho =>
        obtain rfl := Option.some.inj ho
        refine wpOp_run ho rfl (exec_move rfl) ⟨hput (by decide) (Below.refl _ _) ?_, hP.put (by decide) (by decide) (by decide) (by decide)⟩
        show a.eval (.tmp 1) = _
        rw [ev, hI.slot (by decide)]; rfl
      | 40, _, ho =>
        obtain rfl := Option.some.inj ho
        have e1 : a.eval (.tmp 64) = .int .i64 (m : Int) := (ev _).trans (hI.good 39 (hall ⟨39, .data⟩ (by simp) rfl))
        obtain ⟨cs, hmk⟩ := make_some (m := m) Ybaf.underlying32 (by kernel_rfl) (by kernel_rfl) (by omega)
        exact wpOp_run ho rfl (exec_makeSlice rfl (by rw [e1]; exact hmk w1)) ⟨hput (by decide) ((Below.refl _ _).alloc (Nat.le_refl _) _) ⟨_, rfl⟩, hP.put (by decide) (by decide) (by decide) (by decide)⟩
      | 41, _, ho =>
        obtain rfl := Option.some.inj ho
        refine wpOp_run ho rfl (exec_move rfl) ⟨hput (by decide) (Below.refl _ _) ?_, hP.put (by decide) (by decide) (by decide) (by decide)⟩
        show a.eval (.tmp 1) = _
        rw [ev, hI.slot (by decide)]; rfl
      | 42, _, ho =>
        obtain rfl := Option.some.inj ho
        have e1 : a.eval (.tmp 66) = .int .i64 (m : Int) := (ev _).trans (hI.good 41 (hall ⟨41, .data⟩ (by simp) rfl))
        obtain ⟨cs, hmk⟩ := make_some (m := m) Ybaf.underlying39 (by kernel_rfl) (by kernel_rfl) (by omega)
        exact wpOp_run ho rfl (exec_makeSlice rfl (by rw [e1]; exact hmk w1)) ⟨hput (by decide) ((Below.refl _ _).alloc (Nat.le_refl _) _) ⟨_, rfl⟩, hP.put (by decide) (by decide) (by decide) (by decide)⟩
      | 43, _, ho =>
        obtain rfl := Option.some.inj ho
        refine wpOp_run ho rfl (exec_move rfl) ⟨hput (by decide) (Below.refl _ _) ?_, hP.put (by decide) (by decide) (by decide) (by decide)⟩
        show a.eval (.tmp 1) = _
        rw [ev, hI.slot (by decide)]; rfl
      | 44, _, ho =>
        obtain rfl := Option.some.inj ho
        have e1 : a.eval (.tmp 68) = .int .i64 (m : Int) := (ev _).trans (hI.good 43 (hall ⟨43, .data⟩ (by simp) rfl))
        obtain ⟨cs, hmk⟩ := make_some (m := m) Ybaf.underlying33 (by kernel_rfl) (by kernel_rfl) (by omega)
        exact wpOp_run ho rfl (exec_makeSlice rfl (by rw [e1]; exact hmk w1)) ⟨hput (by decide) ((Below.refl _ _).alloc (Nat.le_refl _) _) ⟨_, rfl⟩, hP.put (by decide) (by decide) (by decide) (by decide)⟩
      | 45, _, ho =>
        obtain rfl := Option.some.inj ho
        refine wpOp_run ho rfl (exec_move rfl) ⟨hput (by decide) (Below.refl _ _) ?_, hP.put (by decide) (by decide) (by decide) (by decide)⟩
        show a.eval (.tmp 1) = _
        rw [ev, hI.slot (by decide)]; rfl
      | 46, _, ho =>
        obtain rfl := Option.some.inj ho
        have e1 : a.eval (.tmp 70) = .int .i64 (m : Int) := (ev _).trans (hI.good 45 (hall ⟨45, .data⟩ (by simp) rfl))
        refine wpOp_run ho rfl (exec_makeSlice rfl (by rw [e1]; exact make_at Ybaf.underlying39 Ybaf.info4 (by omega) (by omega) w1)) ⟨hput (by decide) ((Below.refl _ _).alloc (Nat.le_refl _) _) ⟨_, rfl, Rw.new _ _ _ _ _ hN (by simp [size_madeCells])⟩, ?_⟩
        intro q1 q2
        rw [getD_set_ne false (by decide)] at q2
        obtain ⟨g, e2, r2⟩ := hI.good 50 q2
        have e2' : a.tmps.getD 75 undef = _ := e2
        have hsz : a.tmps.size = 93 := hI.size
        show (a.put (some 71) _).tmps.getD 71 undef ≠ (a.put (some 71) _).tmps.getD 75 undef
        rw [put_same (by omega), put_other (by decide), e2']
        intro e3
        have := r2.lt
        simp at e3
      | 47, _, ho =>
        obtain rfl := Option.some.inj ho
        refine wpOp_run ho rfl (exec_move rfl) ⟨hput (by decide) (Below.refl _ _) ?_, hP.put (by decide) (by decide) (by decide) (by decide)⟩
        show a.eval (.tmp 1) = _
        rw [ev, hI.slot (by decide)]; rfl
      | 48, _, ho =>
        obtain rfl := Option.some.inj ho
        have e1 : a.eval (.tmp 72) = .int .i64 (m : Int) := (ev _).trans (hI.good 47 (hall ⟨47, .data⟩ (by simp) rfl))
        obtain ⟨cs, hmk⟩ := make_some (m := m) Ybaf.underlying62 (by kernel_rfl) (by kernel_rfl) (by omega)
        exact wpOp_run ho rfl (exec_makeSlice rfl (by rw [e1]; exact hmk w1)) ⟨hput (by decide) ((Below.refl _ _).alloc (Nat.le_refl _) _) ⟨_, rfl⟩, hP.put (by decide) (by decide) (by decide) (by decide)⟩
      | 49, _, ho =>
        obtain rfl := Option.some.inj ho
        refine wpOp_run ho rfl (exec_move rfl) ⟨hput (by decide) (Below.refl _ _) ?_, hP.put (by decide) (by decide) (by decide) (by decide)⟩
        show a.eval (.tmp 1) = _
        rw [ev, hI.slot (by decide)]; rfl
      | 50, _, ho =>
        obtain rfl := Option.some.inj ho
        have e1 : a.eval (.tmp 74) = .int .i64 (m : Int) := (ev _).trans (hI.good 49 (hall ⟨49, .data⟩ (by simp) rfl))
        refine wpOp_run ho rfl (exec_makeSlice rfl (by rw [e1]; exact make_at Ybaf.underlying39 Ybaf.info4 (by omega) (by omega) w1)) ⟨hput (by decide) ((Below.refl _ _).alloc (Nat.le_refl _) _) ⟨_, rfl, Rw.new _ _ _ _ _ hN (by simp [size_madeCells])⟩, ?_⟩
        intro q1 q2
        rw [getD_set_ne false (by decide)] at q1
        obtain ⟨g, e2, r2⟩ := hI.good 46 q1
        have e2' : a.tmps.getD 71 undef = _ := e2
        have hsz : a.tmps.size = 93 := hI.size
        show (a.put (some 75) _).tmps.getD 71 undef ≠ (a.put (some 75) _).tmps.getD 75 undef
        rw [put_same (by omega), put_other (by decide), e2']
        intro e3
        have := r2.lt
        simp at e3
      | 51, _, ho =>
        obtain rfl := Option.some.inj ho
        refine wpOp_run ho rfl (exec_move rfl) ⟨hput (by decide) (Below.refl _ _) ?_, hP.put (by decide) (by decide) (by decide) (by decide)⟩
        show a.eval (.tmp 1) = _
        rw [ev, hI.slot (by decide)]; rfl
      | 52, _, ho =>
        obtain rfl := Option.some.inj ho
        have e1 : a.eval (.tmp 76) = .int .i64 (m : Int) := (ev _).trans (hI.good 51 (hall ⟨51, .data⟩ (by simp) rfl))
        obtain ⟨cs, hmk⟩ := make_some (m := m) Ybaf.underlying24 (by kernel_rfl) (by kernel_rfl) (by omega)
        exact wpOp_run ho rfl (exec_makeSlice rfl (by rw [e1]; exact hmk w1)) ⟨hput (by decide) ((Below.refl _ _).alloc (Nat.le_refl _) _) ⟨_, rfl⟩, hP.put (by decide) (by decide) (by decide) (by decide)⟩
      | 53, _, ho =>
        obtain rfl := Option.some.inj ho
        have b0 := (hI.good 0 (hall ⟨0, .data⟩ (by simp) rfl))
        have c0 : a.eval (.tmp 25) = _ := (ev 25).trans b0
        obtain ⟨g2, b2⟩ := (hI.good 2 (hall ⟨2, .data⟩ (by simp) rfl))
        have c2 : a.eval (.tmp 27) = _ := (ev 27).trans b2
        obtain ⟨g4, b4⟩ := (hI.good 4 (hall ⟨4, .data⟩ (by simp) rfl))
        have c4 : a.eval (.tmp 29) = _ := (ev 29).trans b4
        obtain ⟨g6, b6⟩ := (hI.good 6 (hall ⟨6, .data⟩ (by simp) rfl))
        have c6 : a.eval (.tmp 31) = _ := (ev 31).trans b6
        obtain ⟨g8, b8⟩ := (hI.good 8 (hall ⟨8, .data⟩ (by simp) rfl))
        have c8 : a.eval (.tmp 33) = _ := (ev 33).trans b8
        obtain ⟨g10, b10⟩ := (hI.good 10 (hall ⟨10, .data⟩ (by simp) rfl))
        have c10 : a.eval (.tmp 35) = _ := (ev 35).trans b10
        obtain ⟨g12, b12⟩ := (hI.good 12 (hall ⟨12, .data⟩ (by simp) rfl))
        have c12 : a.eval (.tmp 37) = _ := (ev 37).trans b12
        obtain ⟨g14, b14⟩ := (hI.good 14 (hall ⟨14, .data⟩ (by simp) rfl))
        have c14 : a.eval (.tmp 39) = _ := (ev 39).trans b14
        obtain ⟨g15, b15⟩ := (hI.good 15 (hall ⟨15, .data⟩ (by simp) rfl))
        have c15 : a.eval (.tmp 40) = _ := (ev 40).trans b15
        obtain ⟨g17, b17⟩ := (hI.good 17 (hall ⟨17, .data⟩ (by simp) rfl))
        have c17 : a.eval (.tmp 42) = _ := (ev 42).trans b17
        obtain ⟨g19, b19⟩ := (hI.good 19 (hall ⟨19, .data⟩ (by simp) rfl))
        have c19 : a.eval (.tmp 44) = _ := (ev 44).trans b19
        obtain ⟨g21, b21⟩ := (hI.good 21 (hall ⟨21, .data⟩ (by simp) rfl))
        have c21 : a.eval (.tmp 46) = _ := (ev 46).trans b21
        obtain ⟨g23, b23⟩ := (hI.good 23 (hall ⟨23, .data⟩ (by simp) rfl))
        have c23 : a.eval (.tmp 48) = _ := (ev 48).trans b23
        obtain ⟨g25, b25⟩ := (hI.good 25 (hall ⟨25, .data⟩ (by simp) rfl))
        have c25 : a.eval (.tmp 50) = _ := (ev 50).trans b25
        obtain ⟨x27a, x27b, x27c, x27d, x27e, b27⟩ := (hI.good 27 (hall ⟨27, .data⟩ (by simp) rfl))
        have c27 : a.eval (.tmp 52) = _ := (ev 52).trans b27
        obtain ⟨x32a, x32b, x32c, x32d, x32e, b32⟩ := (hI.good 32 (hall ⟨32, .data⟩ (by simp) rfl))
        have c32 : a.eval (.tmp 57) = _ := (ev 57).trans b32
        obtain ⟨g34, b34⟩ := (hI.good 34 (hall ⟨34, .data⟩ (by simp) rfl))
        have c34 : a.eval (.tmp 59) = _ := (ev 59).trans b34
        obtain ⟨g36, b36⟩ := (hI.good 36 (hall ⟨36, .data⟩ (by simp) rfl))
        have c36 : a.eval (.tmp 61) = _ := (ev 61).trans b36
        obtain ⟨g38, b38, r38⟩ := (hI.good 38 (hall ⟨38, .data⟩ (by simp) rfl))
        have c38 : a.eval (.tmp 63) = _ := (ev 63).trans b38
        obtain ⟨g40, b40⟩ := (hI.good 40 (hall ⟨40, .data⟩ (by simp) rfl))
        have c40 : a.eval (.tmp 65) = _ := (ev 65).trans b40
        obtain ⟨g42, b42⟩ := (hI.good 42 (hall ⟨42, .data⟩ (by simp) rfl))
        have c42 : a.eval (.tmp 67) = _ := (ev 67).trans b42
        obtain ⟨g44, b44⟩ := (hI.good 44 (hall ⟨44, .data⟩ (by simp) rfl))
        have c44 : a.eval (.tmp 69) = _ := (ev 69).trans b44
        obtain ⟨g46, b46, r46⟩ := (hI.good 46 (hall ⟨46, .data⟩ (by simp) rfl))
        have c46 : a.eval (.tmp 71) = _ := (ev 71).trans b46
        obtain ⟨g48, b48⟩ := (hI.good 48 (hall ⟨48, .data⟩ (by simp) rfl))
        have c48 : a.eval (.tmp 73) = _ := (ev 73).trans b48
        obtain ⟨g50, b50, r50⟩ := (hI.good 50 (hall ⟨50, .data⟩ (by simp) rfl))
        have c50 : a.eval (.tmp 75) = _ := (ev 75).trans b50
        obtain ⟨g52, b52⟩ := (hI.good 52 (hall ⟨52, .data⟩ (by simp) rfl))
        have c52 : a.eval (.tmp 77) = _ := (ev 77).trans b52
        have hne : g46 ≠ g50 := by
          have h := hP (hall ⟨46, .data⟩ (by simp) rfl) (hall ⟨50, .data⟩ (by simp) rfl)
          have q1 : a.tmps.getD 71 undef = _ := b46
          have q2 : a.tmps.getD 75 undef = _ := b50
          rw [q1, q2] at h
          intro e; exact h (by rw [e])
        obtain ⟨cs, hr, hcs⟩ := run_build68 m s g2 g4 g6 g8 g10 g12 g14 g15 g17 g19 g21 g23 g25 g34 g36 g38 g40 g42 g44 g46 g48 g50 g52 x27a x27b x27c x27d x27e x32a x32b x32c x32d x32e w1
        have c20 : a.eval (.const (.int .i64 1000000000)) = .int .i64 1000000000 := rfl
        refine wpOp_run (v := .agg cs) ho rfl (exec_build rfl ?_) ⟨hput (by decide) (Below.refl _ _) ⟨cs, g38, g46, g50, rfl, hcs, r38, r46, r50, hne⟩, hP.put (by decide) (by decide) (by decide) (by decide)⟩
        simp only [List.map_toArray, List.map_cons, List.map_nil, c20, c0, c2, c4, c6, c8, c10, c12, c14, c15, c17, c19, c21, c23, c25, c27, c32, c34, c36, c38, c40, c42, c44, c46, c48, c50, c52]
        exact hr
      | 54, _, ho =>
        obtain rfl := Option.some.inj ho
        obtain ⟨cs, gt, gf, gg, b0, hcs, r1, r2, r3, hne⟩ := hI.good 53 (hall ⟨53, .data⟩ (by simp) rfl)
        have hB : Below w1.heap.size w1 (w1.alloc (.cells cs 68)) := (Below.refl _ _).alloc (Nat.le_refl _) _
        exact wpOp_run ho rfl (exec_box rfl ((ev 78).trans b0)) ⟨hput (by decide) hB ⟨_, gt, gf, gg, rfl, ⟨hN, cs, heap_alloc_new w1 _, hcs⟩, r1.mono hB, r2.mono hB, r3.mono hB, hne⟩, hP.put (by decide) (by decide) (by decide) (by decide)⟩
      | 55, _, ho =>
        obtain rfl := Option.some.inj ho
        obtain ⟨nb, gt, gf, gg, b0, hL⟩ := hI.good 54 (hall ⟨54, .data⟩ (by simp) rfl)
        exact wpOp_run ho rfl (exec_assign rfl) ⟨hput (by decide) (Below.refl _ _) ⟨nb, gt, gf, gg, (ev 79).trans b0, hL⟩, hP.put (by decide) (by decide) (by decide) (by decide)⟩
    · intro listed a w1 hs hI hall
      have h55 := hI.good 55 (hall 55 (by decide))
      refine hK _ _ (Met.intro (hJ _ _ ⟨a.tmps.getD 5 undef, a.tmps.getD 25 undef, a.tmps.getD 26 undef, a.tmps.getD 27 undef, a.tmps.getD 28 undef, a.tmps.getD 29 undef, a.tmps.getD 30 undef, a.tmps.getD 31 undef, a.tmps.getD 32 undef, a.tmps.getD 33 undef, a.tmps.getD 34 undef, a.tmps.getD 35 undef, a.tmps.getD 36 undef, a.tmps.getD 37 undef, a.tmps.getD 38 undef, a.tmps.getD 39 undef, a.tmps.getD 40 undef, a.tmps.getD 41 undef, a.tmps.getD 42 undef, a.tmps.getD 43 undef, a.tmps.getD 44 undef, a.tmps.getD 45 undef, a.tmps.getD 46 undef, a.tmps.getD 47 undef, a.tmps.getD 48 undef, a.tmps.getD 49 undef, a.tmps.getD 50 undef, a.tmps.getD 51 undef, a.tmps.getD 52 undef, a.tmps.getD 53 undef, a.tmps.getD 54 undef, a.tmps.getD 55 undef, a.tmps.getD 56 undef, a.tmps.getD 57 undef, a.tmps.getD 58 undef, a.tmps.getD 59 undef, a.tmps.getD 60 undef, a.tmps.getD 61 undef, a.tmps.getD 62 undef, a.tmps.getD 63 undef, a.tmps.getD 64 undef, a.tmps.getD 65 undef, a.tmps.getD 66 undef, a.tmps.getD 67 undef, a.tmps.getD 68 undef, a.tmps.getD 69 undef, a.tmps.getD 70 undef, a.tmps.getD 71 undef, a.tmps.getD 72 undef, a.tmps.getD 73 undef, a.tmps.getD 74 undef, a.tmps.getD 75 undef, a.tmps.getD 76 undef, a.tmps.getD 77 undef, a.tmps.getD 78 undef, a.tmps.getD 79 undef, ⟨h55, hI.old⟩, act_eq hI.defers hI.size ?_⟩))
      intro t ht0
      have ht : t < 93 := ht0
      have sl := fun t (h : t ∉ D5) => hI.slot (t := t) h
      match t, ht with
      | 0, _ => exact sl 0 (by decide)
      | 1, _ => exact sl 1 (by decide)
      | 2, _ => exact sl 2 (by decide)
      | 3, _ => exact sl 3 (by decide)
      | 4, _ => exact sl 4 (by decide)
      | 5, _ => rfl
      | 6, _ => exact sl 6 (by decide)
      | 7, _ => exact sl 7 (by decide)
      | 8, _ => exact sl 8 (by decide)
      | 9, _ => exact sl 9 (by decide)
      | 10, _ => exact sl 10 (by decide)
      | 11, _ => exact sl 11 (by decide)
      | 12, _ => exact sl 12 (by decide)
      | 13, _ => exact sl 13 (by decide)
      | 14, _ => exact sl 14 (by decide)
      | 15, _ => exact sl 15 (by decide)
      | 16, _ => exact sl 16 (by decide)
      | 17, _ => exact sl 17 (by decide)
      | 18, _ => exact sl 18 (by decide)
      | 19, _ => exact sl 19 (by decide)
      | 20, _ => exact sl 20 (by decide)
      | 21, _ => exact sl 21 (by decide)
      | 22, _ => exact sl 22 (by decide)
      | 23, _ => exact sl 23 (by decide)
      | 24, _ => exact sl 24 (by decide)
      | 25, _ => rfl
      | 26, _ => rfl
      | 27, _ => rfl
      | 28, _ => rfl
      | 29, _ => rfl
      | 30, _ => rfl
      | 31, _ => rfl
      | 32, _ => rfl
      | 33, _ => rfl
      | 34, _ => rfl
      | 35, _ => rfl
      | 36, _ => rfl
      | 37, _ => rfl
      | 38, _ => rfl
      | 39, _ => rfl
      | 40, _ => rfl
      | 41, _ => rfl
      | 42, _ => rfl
      | 43, _ => rfl
      | 44, _ => rfl
      | 45, _ => rfl
      | 46, _ => rfl
      | 47, _ => rfl
      | 48, _ => rfl
      | 49, _ => rfl
      | 50, _ => rfl
      | 51, _ => rfl
      | 52, _ => rfl
      | 53, _ => rfl
      | 54, _ => rfl
      | 55, _ => rfl
      | 56, _ => rfl
      | 57, _ => rfl
      | 58, _ => rfl
      | 59, _ => rfl
      | 60, _ => rfl
      | 61, _ => rfl
      | 62, _ => rfl
      | 63, _ => rfl
      | 64, _ => rfl
      | 65, _ => rfl
      | 66, _ => rfl
      | 67, _ => rfl
      | 68, _ => rfl
      | 69, _ => rfl
      | 70, _ => rfl
      | 71, _ => rfl
      | 72, _ => rfl
      | 73, _ => rfl
      | 74, _ => rfl
      | 75, _ => rfl
      | 76, _ => rfl
      | 77, _ => rfl
      | 78, _ => rfl
      | 79, _ => rfl
      | 80, _ => exact sl 80 (by decide)
      | 81, _ => exact sl 81 (by decide)
      | 82, _ => exact sl 82 (by decide)
      | 83, _ => exact sl 83 (by decide)
      | 84, _ => exact sl 84 (by decide)
      | 85, _ => exact sl 85 (by decide)
      | 86, _ => exact sl 86 (by decide)
      | 87, _ => exact sl 87 (by decide)
      | 88, _ => exact sl 88 (by decide)
      | 89, _ => exact sl 89 (by decide)
      | 90, _ => exact sl 90 (by decide)
      | 91, _ => exact sl 91 (by decide)
      | 92, _ => exact sl 92 (by decide)
      | n + 93, h => exact absurd h (by omega)
  case rest =>
    obtain ⟨⟨nb, gt, gf, gg, rfl, hL⟩, hB⟩ := hcut
    have hT := nodeT_of hL
    have HT : Hid (NodeT w.heap.size m s nb gt gf gg 0 wc) := hT
    obtain ⟨t41, t42, t43, t44⟩ := hT.cells
    clear hL hT t41 t42 t43
    go_wp2
    clear t44
    go_loopw [85] (fun i wr => ∃ l : Nat, l ≤ m ∧ i = .int .i64 l ∧ NodeT w.heap.size m s nb gt gf gg l wr ∧ Below w.heap.size w wr) (fun i _ => m - (intOf i).toNat)
    case atStart => exact ⟨0, Nat.zero_le _, rfl, HT.out, hB⟩
    case round =>
      obtain ⟨wq, rfl⟩ : ∃ wq, wq = wr := ⟨_, rfl⟩
      obtain ⟨l, hl, rfl, hT, hBq⟩ := hrel
      by_cases hlt : l < m
      · have HTq : Hid (NodeT w.heap.size m s nb gt gf gg l wq) := hT
        clear hT
        go_wp2_with fail
        obtain ⟨t41, t42, t43, t44⟩ := HTq.out.cells
        obtain ⟨r0, r1, r2⟩ := HTq.out.row hlt
        obtain ⟨x2, q2⟩ := r1 2 (by omega)
        obtain ⟨x3, q3⟩ := r1 3 (by omega)
        obtain ⟨x4, q4⟩ := r1 4 (by omega)
        refine (fit_any nb gt m l x2 x3 x4 wq hlt (HP.out.below hBq hpz) HTq.out.lt.1 HTq.out.lt.2 t44 t41 t42 t43 r0 q2 q3 q4 r2).mono ?_
        rintro e w2 ⟨rfl, rfl⟩
        have hN := HTq.out.step (o1 := .cells #[.int .i64 10000000, .int .i64 30000000, .int .i64 50000000] 55) (o2 := .cells #[.int .i64 10000000, .int .i64 30000000, .int .i64 50000000] 55) (.int .i64 10000000) (.int .i64 30000000) (.int .i64 50000000)
        have hgN := HTq.out.trip.1
        have hB2 : Below w.heap.size w (((((wq.setCell ⟨gt, l * 15 + 2, none⟩ (.int .i64 10000000)).setCell ⟨gt, l * 15 + 2 + 1, none⟩ (.int .i64 30000000)).setCell ⟨gt, l * 15 + 2 + 2, none⟩ (.int .i64 50000000)).alloc (.cells #[.int .i64 10000000, .int .i64 30000000, .int .i64 50000000] 55)).alloc (.cells #[.int .i64 10000000, .int .i64 30000000, .int .i64 50000000] 55)) :=
          ((((hBq.setCell (p := ⟨gt, l * 15 + 2, none⟩) hgN _).setCell (p := ⟨gt, l * 15 + 2 + 1, none⟩) hgN _).setCell (p := ⟨gt, l * 15 + 2 + 2, none⟩) hgN _).alloc (by simp [World.setCell]; exact hBq.size) _).alloc (by simp [World.setCell]; have := hBq.size; omega) _
        generalize (((((wq.setCell ⟨gt, l * 15 + 2, none⟩ (.int .i64 10000000)).setCell ⟨gt, l * 15 + 2 + 1, none⟩ (.int .i64 30000000)).setCell ⟨gt, l * 15 + 2 + 2, none⟩ (.int .i64 50000000)).alloc (.cells #[.int .i64 10000000, .int .i64 30000000, .int .i64 50000000] 55)).alloc (.cells #[.int .i64 10000000, .int .i64 30000000, .int .i64 50000000] 55)) = w2 at hN hB2 ⊢
        have HN2 : Hid (NodeT w.heap.size m s nb gt gf gg (l + 1) w2) := hN
        clear hN t41 t42 t43 t44 r0 r1 r2 q2 q3 q4
        go_wp2
        go_roundw
        case rel => exact ⟨l + 1, by omega, by go_num, HN2.out, hB2⟩
        case measure => simp [intOf]; omega
      · go_wp2
        go_ret
        obtain ⟨h0, cs, h1, h2⟩ := hT.node
        exact ⟨nb, gf, gg, rfl, ⟨⟨h0, cs, h1, h2.size, h2.self, h2.failed, h2.givenUp, h2.unread, h2.made⟩, hT.rf, hT.rg, hT.ne⟩, hBq⟩

end Go.Proofs.YbulkcmxgFmt
