import Derived.Test.YbulkcmxgEach
import Derived.Maps.AppendAt
namespace Go.Proofs.Ybulkcmxg
open Go.RowKit

theorem Yba.info55 : (Yba.prog.info? 55).map (fun i => (i.zero, i.size, i.bytes)) = some (some (.agg #[.int .i64 0, .int .u64 0, .int .u64 0]), 3, 24) := by kernel_rfl
theorem Yba.info64 : (Yba.prog.info? 64).map (fun i => (i.zero, i.size, i.bytes)) = some (some (.agg #[.int .u64 0, .int .i32 0, .int .i32 0, .int .u64 0, .int .i64 0, .pointer none, .slice none 0 0]), 7, 64) := by kernel_rfl
theorem Yba.info41 : (Yba.prog.info? 41).map (fun i => (i.zero, i.size, i.bytes)) = some (some (.int .u64 0), 1, 8) := by kernel_rfl
theorem Yba.info53 : (Yba.prog.info? 53).map (fun i => (i.zero, i.size, i.bytes)) = some (some (.slice none 0 0), 1, 24) := by kernel_rfl

/-- The span that the law's builder makes of one datum (member, first, len). -/
def spanOf (s : Int × Int × Int) : Int × Int := if 18446744073709551615 - s.2.2 % 8 < s.2.1 then (s.2.1, 18446744073709551615) else (s.2.1, s.2.1 + s.2.2 % 8)
def isFor (m : Nat) (s : Int × Int × Int) : Bool := s.1 % 3 == (m : Int)
def spansFor (m : Nat) (sp : List (Int × Int × Int)) : List (Int × Int) := (sp.filter (isFor m)).map spanOf
def spanCells (m : Nat) (s : Int × Int) : List Value := [.int .i64 (m : Int), .int .u64 s.1, .int .u64 s.2]
def rowCells (m : Nat) (S : List (Int × Int)) : List Value := S.flatMap (spanCells m)

/-- The datum's slice of spans, as it came in. -/
def SpansIn (w : World) (B : Nat) (a : Option Addr) (sp : List (Int × Int × Int)) : Prop :=
  sp = [] ∨ ∃ b off, a = some ⟨b, off, none⟩ ∧ b < B ∧ ∀ j, j < sp.length → ∃ m f l : Int, sp.getD j (0, 0, 0) = (m, f, l) ∧ 0 ≤ m ∧ m ≤ 255 ∧ 0 ≤ f ∧ f ≤ 18446744073709551615 ∧ 0 ≤ l ∧ l ≤ 255 ∧
    w.cell? ⟨b, off + j * 3, none⟩ = some (.int .u8 m) ∧ w.cell? ⟨b, off + j * 3 + 1, none⟩ = some (.int .u64 f) ∧ w.cell? ⟨b, off + j * 3 + 2, none⟩ = some (.int .u8 l)
def HeldIn (w : World) (B : Nat) (a : Option Addr) (hl : List (Int × Int)) : Prop :=
  hl = [] ∨ ∃ b off, a = some ⟨b, off, none⟩ ∧ b < B ∧ ∀ j, j < hl.length → ∃ s q : Int, hl.getD j (0, 0) = (s, q) ∧ 0 ≤ s ∧ s ≤ 255 ∧ 0 ≤ q ∧ q ≤ 18446744073709551615 ∧
    w.cell? ⟨b, off + j * 2, none⟩ = some (.int .u8 s) ∧ w.cell? ⟨b, off + j * 2 + 1, none⟩ = some (.int .u64 q)

/-- The three slots of the row of lacked spans; no two of them in one row. -/
def Lack3 (w : World) (N : Nat) (sp : List (Int × Int × Int)) : Prop :=
  ∃ V : Nat → Value, (∀ m, m < 3 → w.cell? ⟨N, m, none⟩ = some (V m) ∧ w.frozen? ⟨N, m, none⟩ = false ∧ w.ownsRow (N + 1) 55 3 (V m) (spansFor m sp).length (rowCells m (spansFor m sp))) ∧
    ∀ m m', m < 3 → m' < 3 → m ≠ m' → (V m).ownBlock = none ∨ (V m).ownBlock ≠ (V m').ownBlock

theorem lack3_start (w : World) : Lack3 (w.alloc (.cells #[.slice none 0 0, .slice none 0 0, .slice none 0 0] 53)) w.heap.size [] := by
  refine ⟨fun _ => .slice none 0 0, fun m hm => ⟨?_, World.frozen?_alloc_at _ _ _ _ rfl, World.ownsRow_nil _ _ _ _⟩, fun _ _ _ _ _ => .inl rfl⟩
  rw [World.cell?_alloc_at _ _ _ _ rfl]
  match m, hm with
  | 0, _ => rfl
  | 1, _ => rfl
  | 2, _ => rfl

theorem grownBy_of_below {w w' : World} (h : Below w.heap.size w w') (row : Option Nat) : w.grownBy w' row := ⟨h.os, h.tape, h.output, h.size, fun k hk _ => h.block k hk⟩
theorem ownsRow_below {w w' : World} {base : Nat} {e : TypeId} {size : Nat} {v : Value} {n : Nat} {xs : List Value} (h : w.ownsRow base e size v n xs) (hB : Below w.heap.size w w') : w'.ownsRow base e size v n xs :=
  h.kept (grownBy_of_below hB none) (by cases v.ownBlock <;> simp)

theorem spansFor_snoc (m : Nat) (sp : List (Int × Int × Int)) (s : Int × Int × Int) : spansFor m (sp ++ [s]) = spansFor m sp ++ (if isFor m s then [spanOf s] else []) := by
  unfold spansFor; rw [List.filter_append, List.map_append]
  cases h : isFor m s <;> simp [h]

theorem rowCells_snoc (m : Nat) (S : List (Int × Int)) (s : Int × Int) : rowCells m (S ++ [s]) = rowCells m S ++ spanCells m s := by simp [rowCells, List.flatMap_append]

theorem lack3_step {w wr wr2 w1 : World} {N mm : Nat} {sp : List (Int × Int × Int)} {V : Nat → Value} {s : Int × Int × Int} {v' : Value}
    (hcells : ∀ m, m < 3 → wr.cell? ⟨N, m, none⟩ = some (V m) ∧ wr.frozen? ⟨N, m, none⟩ = false ∧ wr.ownsRow (N + 1) 55 3 (V m) (spansFor m sp).length (rowCells m (spansFor m sp)))
    (hdist : ∀ m m', m < 3 → m' < 3 → m ≠ m' → (V m).ownBlock = none ∨ (V m).ownBlock ≠ (V m').ownBlock)
    (hmm : mm < 3) (hm : s.1 % 3 = (mm : Int)) (hN : N < wr.heap.size) (hB : Below N w wr) (h2 : Below wr.heap.size wr wr2)
    (hown' : w1.ownsRow (N + 1) 55 3 v' ((spansFor mm sp).length + 1) (rowCells mm (spansFor mm sp) ++ spanCells mm (spanOf s)))
    (hgrow : wr2.grownBy w1 (V mm).ownBlock) (hat : v'.ownBlock = (V mm).ownBlock ∨ v'.ownBlock = some wr2.heap.size) :
    Lack3 (w1.setCell ⟨N, mm, none⟩ v') N (sp ++ [s]) ∧ Below N w (w1.setCell ⟨N, mm, none⟩ v') ∧ N < (w1.setCell ⟨N, mm, none⟩ v').heap.size := by
  have hs2 := h2.size
  have hs1 := hgrow.size
  have hlt : ∀ m, m < 3 → ∀ b, (V m).ownBlock = some b → N + 1 ≤ b ∧ b < wr.heap.size := fun m h b hb => (hcells m h).2.2.lt b hb
  have hne : some N ≠ (V mm).ownBlock := fun h => by have := hlt mm hmm N h.symm; omega
  have hblk : w1.heap[N]? = wr.heap[N]? := (hgrow.block N (by omega) hne).trans (h2.block N hN)
  have hc1 : ∀ m, m < 3 → w1.cell? ⟨N, m, none⟩ = some (V m) := fun m h => (World.cell?_of_block (w := wr) (a := ⟨N, m, none⟩) hblk).trans (hcells m h).1
  have hf1 : ∀ m, m < 3 → w1.frozen? ⟨N, m, none⟩ = false := fun m h => (World.frozen?_of_block (w := wr) (a := ⟨N, m, none⟩) hblk).trans (hcells m h).2.1
  refine ⟨⟨fun m => if m = mm then v' else V m, fun m h => ?_, fun m m' h h' hd => ?_⟩, ?_, ?_⟩
  · by_cases e : m = mm
    · subst e
      simp only [if_true]
      refine ⟨World.cell?_setCell_same _ _ _ (hc1 m h), (World.frozen?_setCell _ _ _ _).trans (hf1 m h), ?_⟩
      have e1 : isFor m s = true := by simp [isFor, hm]
      rw [spansFor_snoc, e1]
      simp only [if_true]
      rw [rowCells_snoc, List.length_append]
      exact ownsRow_setCell_below hown' (by show N < N + 1; omega) _
    · simp only [if_neg e]
      refine ⟨(World.cell?_setCell_other _ _ _ _ (fun h => e (congrArg Addr.off h).symm)).trans (hc1 m h), (World.frozen?_setCell _ _ _ _).trans (hf1 m h), ?_⟩
      have e1 : isFor m s = false := by
        simp only [isFor, hm, beq_eq_false_iff_ne, ne_eq]; omega
      rw [spansFor_snoc, e1]
      simp only [List.append_nil, Bool.false_eq_true, if_false]
      exact ownsRow_setCell_below ((ownsRow_below (hcells m h).2.2 h2).kept hgrow (hdist m mm h hmm e)) (by show N < N + 1; omega) _
  · by_cases e : m = mm <;> by_cases e' : m' = mm
    · omega
    · simp only [if_pos e, if_neg e']
      rcases hat with ha | ha
      · subst e; rw [ha]; exact hdist m m' h h' hd
      · right; rw [ha]; intro hb
        have := hlt m' h' _ hb.symm; omega
    · simp only [if_neg e, if_pos e']
      rcases hat with ha | ha
      · subst e'; rw [ha]; exact hdist m m' h h' hd
      · right; rw [ha]; intro hb
        have := hlt m h _ hb; omega
    · simp only [if_neg e, if_neg e']; exact hdist m m' h h' hd
  · refine ((hB.trans (h2.mono (by omega))).grown hgrow (by omega) (fun b hb => ?_)).setCell (Nat.le_refl _) _
    have := hlt mm hmm b hb; omega
  · simp [World.setCell]; omega

theorem lack3_mid {wr wr2 w1 : World} {N mm : Nat} {sp : List (Int × Int × Int)} {V : Nat → Value}
    (hcells : ∀ m, m < 3 → wr.cell? ⟨N, m, none⟩ = some (V m) ∧ wr.frozen? ⟨N, m, none⟩ = false ∧ wr.ownsRow (N + 1) 55 3 (V m) (spansFor m sp).length (rowCells m (spansFor m sp)))
    (hmm : mm < 3) (hN : N < wr.heap.size) (h2 : Below wr.heap.size wr wr2) (hgrow : wr2.grownBy w1 (V mm).ownBlock) :
    w1.cell? ⟨N, mm, none⟩ = some (V mm) ∧ w1.frozen? ⟨N, mm, none⟩ = false := by
  have hs2 := h2.size
  have hne : some N ≠ (V mm).ownBlock := fun h => by have := (hcells mm hmm).2.2.lt N h.symm; omega
  have hblk : w1.heap[N]? = wr.heap[N]? := (hgrow.block N (by omega) hne).trans (h2.block N hN)
  exact ⟨(World.cell?_of_block (w := wr) (a := ⟨N, mm, none⟩) hblk).trans (hcells mm hmm).1, (World.frozen?_of_block (w := wr) (a := ⟨N, mm, none⟩) hblk).trans (hcells mm hmm).2.1⟩

theorem owns_pos {w : World} {base : Nat} {e : TypeId} {size : Nat} {v : Value} {n : Nat} {xs : List Value} (h : w.ownsRow base e size v (n + 1) xs) : ∃ g cp, v = .slice (some ⟨g, 0, none⟩) (n + 1) cp := by
  rcases h.2 with ⟨_, h0⟩ | ⟨g, cap, cur, hv, _⟩
  · omega
  · exact ⟨g, cap, hv⟩

theorem cells3_new (w : World) (x y z : Value) (t : TypeId) (n : Nat) (hn : n = w.heap.size) : ∀ j u, [x, y, z][j]? = some u → (w.alloc (.cells #[x, y, z] t)).cell? ((⟨n, 0, none⟩ : Addr).add j) = some u := by
  intro j u hj
  rw [show ((⟨n, 0, none⟩ : Addr).add j) = ⟨n, j, none⟩ by unfold Addr.add; split <;> simp_all, World.cell?_alloc_at _ _ _ _ hn]
  simpa using hj

theorem ints3_one (k1 k2 k3 : IntKind) (a b c : Int) : ∀ u ∈ [Value.int k1 a, Value.int k2 b, Value.int k3 c], u.oneCell' = true := by
  intro u hu; simp at hu; rcases hu with rfl | rfl | rfl <;> rfl

theorem spanCells_over {m f l : Int} {mm : Nat} (h : 18446744073709551615 - l % 8 < f) : [Value.int .i64 (mm : Int), .int .u64 f, .int .u64 (f + (18446744073709551615 - f))] = spanCells mm (spanOf (m, f, l)) := by
  unfold spanCells spanOf; rw [if_pos h]
  have e : f + (18446744073709551615 - f) = 18446744073709551615 := by omega
  rw [e]
theorem spanCells_in {m f l : Int} {mm : Nat} (h : f ≤ 18446744073709551615 - l % 8) : [Value.int .i64 (mm : Int), .int .u64 f, .int .u64 (f + l % 8)] = spanCells mm (spanOf (m, f, l)) := by
  unfold spanCells spanOf; rw [if_neg (show ¬ 18446744073709551615 - l % 8 < f by omega)]

theorem take_snoc_getD {α : Type} {l : List α} {d x : α} {j : Nat} (h : j < l.length) (e : l.getD j d = x) : l.take j ++ [x] = l.take (j + 1) := by
  rw [take_succ_getD l d j h, e]

def h3 (h : Int × Int) : Int × Int := (h.1 % 3, h.2)
def heldRow (hl : List (Int × Int)) : List Value := hl.flatMap fun h => heldCells (h3 h)
theorem heldRow_snoc (hl : List (Int × Int)) (h : Int × Int) : heldRow (hl ++ [h]) = heldRow hl ++ heldCells (h3 h) := by simp [heldRow, List.flatMap_append]
theorem cells7_new (w : World) (a b c d e f g : Value) (t : TypeId) (n : Nat) (hn : n = w.heap.size) : ∀ j u, [a, b, c, d, e, f, g][j]? = some u → (w.alloc (.cells #[a, b, c, d, e, f, g] t)).cell? ((⟨n, 0, none⟩ : Addr).add j) = some u := by
  intro j u hj
  rw [show ((⟨n, 0, none⟩ : Addr).add j) = ⟨n, j, none⟩ by unfold Addr.add; split <;> simp_all, World.cell?_alloc_at _ _ _ _ hn]
  simpa using hj
theorem heldCells_one (h : Int × Int) : ∀ u ∈ heldCells h, u.oneCell' = true := by
  intro u hu; simp [heldCells] at hu; rcases hu with rfl | rfl | rfl | rfl | rfl | rfl | rfl <;> rfl

theorem spansFor_le (m : Nat) (sp : List (Int × Int × Int)) : (spansFor m sp).length ≤ sp.length := by
  unfold spansFor; rw [List.length_map]; exact List.length_filter_le _ _

/-! ### What the rows hold, cell by cell -/
theorem flat_get {α β : Type} (f : α → List β) (c : Nat) (hf : ∀ x, (f x).length = c) (d : α) (l : List α) (j t : Nat) (hj : j < l.length) (ht : t < c) : (l.flatMap f)[j * c + t]? = (f (l.getD j d))[t]? := by
  induction l generalizing j with
  | nil => simp at hj
  | cons x l ih =>
    rw [List.flatMap_cons]
    cases j with
    | zero => simp only [Nat.zero_mul, Nat.zero_add]; rw [List.getElem?_append_left (by rw [hf]; exact ht)]; rfl
    | succ j =>
      rw [List.getElem?_append_right (by rw [hf, Nat.succ_mul]; omega), hf, show (j + 1) * c + t - c = j * c + t by rw [Nat.succ_mul]; omega, ih j (by simpa using hj)]
      rfl

theorem own_cell {w : World} {base : Nat} {e : TypeId} {size : Nat} {n cap g : Nat} {xs : List Value} (h : w.ownsRow base e size (.slice (some ⟨g, 0, none⟩) n cap) n xs) {i : Nat} {u : Value} (hu : xs[i]? = some u) : w.cell? ⟨g, i, none⟩ = some u := by
  have := h.cells (g := g) rfl i u hu
  rwa [show ((⟨g, 0, none⟩ : Addr).add i) = ⟨g, i, none⟩ by unfold Addr.add; split <;> simp_all] at this

/-- Each datum fits its kind. -/
def FitS (sp : List (Int × Int × Int)) : Prop := ∀ s ∈ sp, 0 ≤ s.2.1 ∧ s.2.1 ≤ 18446744073709551615 ∧ 0 ≤ s.2.2
def FitH (hl : List (Int × Int)) : Prop := ∀ h ∈ hl, 0 ≤ h.1 ∧ 0 ≤ h.2 ∧ h.2 ≤ 18446744073709551615

theorem spanOf_fits {s : Int × Int × Int} (h : 0 ≤ s.2.1 ∧ s.2.1 ≤ 18446744073709551615 ∧ 0 ≤ s.2.2) : 0 ≤ (spanOf s).1 ∧ (spanOf s).1 ≤ (spanOf s).2 ∧ (spanOf s).2 ≤ 18446744073709551615 ∧ (spanOf s).2 - (spanOf s).1 ≤ 7 := by
  unfold spanOf; split <;> simp <;> omega

theorem spansFor_fits {sp : List (Int × Int × Int)} (h : FitS sp) (m : Nat) : ∀ s ∈ spansFor m sp, 0 ≤ s.1 ∧ s.1 ≤ s.2 ∧ s.2 ≤ 18446744073709551615 ∧ s.2 - s.1 ≤ 7 := by
  intro s hs
  simp only [spansFor, List.mem_map, List.mem_filter] at hs
  obtain ⟨x, ⟨hx, _⟩, rfl⟩ := hs
  exact spanOf_fits (h x hx)

theorem getD_mem {α : Type} (l : List α) (d : α) (j : Nat) (h : j < l.length) : l.getD j d ∈ l := by simp [List.getD, List.getElem?_eq_getElem h]

theorem spanAt_of {w : World} {base k g n cap : Nat} {sp : List (Int × Int × Int)} (hf : FitS sp) (h : w.ownsRow base 55 3 (.slice (some ⟨g, 0, none⟩) n cap) n (rowCells k (spansFor k sp))) : SpanAt w g k (spansFor k sp) := by
  intro j hj
  have hm := spansFor_fits hf k _ (getD_mem _ (0, 0) j hj)
  have hc : ∀ t, t < 3 → (rowCells k (spansFor k sp))[j * 3 + t]? = (spanCells k ((spansFor k sp).getD j (0, 0)))[t]? := fun t ht => flat_get (spanCells k) 3 (fun _ => rfl) (0, 0) _ j t hj ht
  refine ⟨_, _, rfl, hm.1, hm.2.1, hm.2.2.1, hm.2.2.2, own_cell h ?_, own_cell h ?_, own_cell h ?_⟩
  · exact (hc 0 (by omega)).trans rfl
  · exact (hc 1 (by omega)).trans rfl
  · exact (hc 2 (by omega)).trans rfl

theorem heldAt_of {w : World} {base g n cap : Nat} {hl : List (Int × Int)} (hf : FitH hl) (h : w.ownsRow base 64 7 (.slice (some ⟨g, 0, none⟩) n cap) n (heldRow hl)) : HeldAt w g (hl.map h3) := by
  intro j hj
  rw [List.length_map] at hj
  have hm := hf _ (getD_mem hl (0, 0) j hj)
  have e : (hl.map h3).getD j (0, 0) = h3 (hl.getD j (0, 0)) := by simp [List.getD, List.getElem?_eq_getElem hj]
  rw [e]
  refine ⟨?_, ?_, hm.2.1, hm.2.2, fun t ht => ?_⟩
  · simp only [h3]; omega
  · simp only [h3]; omega
  · have hc : (heldRow hl)[j * 7 + t]? = (heldCells (h3 (hl.getD j (0, 0))))[t]? := flat_get (fun h => heldCells (h3 h)) 7 (fun _ => rfl) (0, 0) _ j t hj ht
    obtain ⟨u, hu⟩ : ∃ u, (heldCells (h3 (hl.getD j (0, 0))))[t]? = some u := ⟨_, List.getElem?_eq_getElem (by simpa [heldCells] using ht)⟩
    rw [hu]; exact own_cell h (hc.trans hu)

theorem fitS_of {w : World} {B : Nat} {a : Option Addr} {sp : List (Int × Int × Int)} (h : SpansIn w B a sp) : FitS sp := by
  rcases h with rfl | ⟨b, off, _, _, h⟩
  · intro s hs; simp at hs
  · intro s hs
    obtain ⟨j, hj, rfl⟩ := List.getElem_of_mem hs
    obtain ⟨m, f, l, e, _, _, h1, h2, h3, _⟩ := h j hj
    rw [show sp[j] = sp.getD j (0, 0, 0) by simp [List.getD, List.getElem?_eq_getElem hj], e]
    exact ⟨h1, h2, h3⟩
theorem fitH_of {w : World} {B : Nat} {a : Option Addr} {hl : List (Int × Int)} (h : HeldIn w B a hl) : FitH hl := by
  rcases h with rfl | ⟨b, off, _, _, h⟩
  · intro s hs; simp at hs
  · intro s hs
    obtain ⟨j, hj, rfl⟩ := List.getElem_of_mem hs
    obtain ⟨m, f, e, h1, _, h2, h3, _⟩ := h j hj
    rw [show hl[j] = hl.getD j (0, 0) by simp [List.getD, List.getElem?_eq_getElem hj], e]
    exact ⟨h1, h2, h3⟩

/-- Lack3, one slot of it, seen in a later world: the slot is nil and there is no span, or it leads to the row. -/
theorem lack3_at {wo wp : World} {N k : Nat} {sp : List (Int × Int × Int)} (hf : FitS sp) (hk : k < 3) (h : Lack3 wo N sp) (hB : Below wo.heap.size wo wp) (hN : N < wo.heap.size) :
    (spansFor k sp = [] ∧ wp.cell? ⟨N, k, none⟩ = some (.slice none 0 0)) ∨
    ∃ rb rcap, rb < wo.heap.size ∧ wp.cell? ⟨N, k, none⟩ = some (.slice (some ⟨rb, 0, none⟩) (spansFor k sp).length rcap) ∧ SpanAt wp rb k (spansFor k sp) := by
  obtain ⟨V, hV, _⟩ := h
  obtain ⟨h1, _, h2⟩ := hV k hk
  have h1' := (hB.cell (p := ⟨N, k, none⟩) (by exact hN)).trans h1
  rcases h2.2 with ⟨e, hn⟩ | ⟨g, cap, cur, e, r⟩
  · rw [e] at h1'
    exact .inl ⟨List.eq_nil_of_length_eq_zero hn, h1'⟩
  · rw [e] at h1' h2
    exact .inr ⟨g, cap, (h2.lt g rfl).2, h1', spanAt_of hf (ownsRow_below h2 hB)⟩

/-- What the rest of the builder goes on from. -/
structure Built (w : World) (B nb rb hb k : Nat) (H S : List (Int × Int)) (wr : World) : Prop where
  node : NodeAt wr B nb k H S
  span : SpanAt wr rb k S
  held : HeldAt wr hb H
  old : Below w.heap.size w wr
  size : B ≤ wr.heap.size
  le : w.heap.size ≤ B
  rbB : rb < B
  hbB : hb < B

theorem Built.below {w wr wr' : World} {B nb rb hb k : Nat} {H S : List (Int × Int)} (h : Built w B nb rb hb k H S wr) (hB : Below B wr wr') : Built w B nb rb hb k H S wr' :=
  ⟨h.node.below hB, h.span.below hB h.rbB, h.held.below hB h.hbB, h.old.trans (hB.mono h.le), Nat.le_trans h.size hB.size, h.le, h.rbB, h.hbB⟩

theorem NodeAt.more {w : World} {B B' nb k : Nat} {H S : List (Int × Int)} (h : NodeAt w B nb k H S) (hB : B ≤ B') : NodeAt w B' nb k H S := by
  obtain ⟨h1, h2, h3, lb, hb, hcap, g1, g2, g3, g4, g5, g6, g7⟩ := h
  refine ⟨h1, h2, h3, lb, hb, hcap, by omega, by omega, by omega, g4, g5, ?_, g7⟩
  rcases g6 with ⟨rfl, k1⟩ | ⟨rb, rcap, k1, k2, k3⟩
  · exact .inl ⟨rfl, k1⟩
  · exact .inr ⟨rb, rcap, by omega, k2, k3⟩

theorem ownsRow_base {w : World} {base base' : Nat} {e : TypeId} {size : Nat} {v : Value} {n : Nat} {xs : List Value} (h : w.ownsRow base e size v n xs) (hb : base' ≤ base) : w.ownsRow base' e size v n xs := by
  obtain ⟨h1, h2⟩ := h
  refine ⟨h1, ?_⟩
  rcases h2 with h2 | ⟨g, cap, cur, hv, hg, r⟩
  · exact .inl h2
  · exact .inr ⟨g, cap, cur, hv, by omega, r⟩

def u64s (l : List Int) : List Value := l.map (Value.int .u64)
theorem u64s_snoc (l : List Int) (x : Int) : u64s (l ++ [x]) = u64s l ++ [.int .u64 x] := by simp [u64s]

end Go.Proofs.Ybulkcmxg
