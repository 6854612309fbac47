import Derived.Test.YbulkcmywSorted
import Derived.Maps.AppendAt
namespace Go.Proofs.Ybulkcmyw
open Go.RowKit

theorem Yba.info3 : (Yba.prog.info? 3).map (fun i => (i.zero, i.size, i.bytes)) = some (some (.int .i64 0), 1, 8) := by kernel_rfl

def i64s (l : List Int) : List Value := l.map (Value.int .i64)
theorem i64s_snoc (l : List Int) (x : Int) : i64s (l ++ [x]) = i64s l ++ [.int .i64 x] := by simp [i64s]

def BoolsIn (w : World) (a : Option Addr) (n : Nat) (bs : List Bool) : Prop :=
  bs.length = n ∧ (n = 0 ∨ ∃ b off, a = some ⟨b, off, none⟩ ∧ b < w.heap.size ∧ ∀ j, j < n → w.cell? ⟨b, off + j, none⟩ = some (.bool (bs.getD j true)))

theorem grownBy_of_below {w w' : World} (h : Below w.heap.size w w') (row : Option Nat) : w.grownBy w' row := ⟨h.os, h.tape, h.output, h.size, fun k hk _ => h.block k hk⟩
theorem ownsRow_below {w w' : World} {base : Nat} {e : TypeId} {size : Nat} {v : Value} {n : Nat} {xs : List Value} (h : w.ownsRow base e size v n xs) (hB : Below w.heap.size w w') : w'.ownsRow base e size v n xs :=
  h.kept (grownBy_of_below hB none) (by cases v.ownBlock <;> simp)
theorem owns_pos {w : World} {base : Nat} {e : TypeId} {size : Nat} {v : Value} {n : Nat} {xs : List Value} (h : w.ownsRow base e size v (n + 1) xs) : ∃ g cp, v = .slice (some ⟨g, 0, none⟩) (n + 1) cp := by
  rcases h.2 with ⟨_, h0⟩ | ⟨g, cap, cur, hv, _⟩
  · omega
  · exact ⟨g, cap, hv⟩

theorem cell1_new (w : World) (x : Value) (t : TypeId) (n : Nat) (hn : n = w.heap.size) : ∀ j u, [x][j]? = some u → (w.alloc (.cells #[x] t)).cell? ((⟨n, 0, none⟩ : Addr).add j) = some u := by
  subst hn; exact cell_one_new w x t

/-- The law's own state behind n calls of its relation. N: the heap's size when the law began: ans at N, k at N + 1, la at N + 2, lb at N + 3. -/
structure CallsAt (w0 : World) (a2 : Option Addr) (n2 c2 : Nat) (zs : List Int) (n : Nat) (va vb : Value) (w : World) : Prop where
  ans : w.cell? ⟨w0.heap.size, 0, none⟩ = some (.slice a2 n2 c2)
  k : w.cell? ⟨w0.heap.size + 1, 0, none⟩ = some (.int .i64 (n : Int))
  kf : w.frozen? ⟨w0.heap.size + 1, 0, none⟩ = false
  la : w.cell? ⟨w0.heap.size + 2, 0, none⟩ = some va
  laf : w.frozen? ⟨w0.heap.size + 2, 0, none⟩ = false
  lb : w.cell? ⟨w0.heap.size + 3, 0, none⟩ = some vb
  lbf : w.frozen? ⟨w0.heap.size + 3, 0, none⟩ = false
  ra : w.ownsRow (w0.heap.size + 4) 3 1 va n (i64s (zs.take n))
  rb : w.ownsRow (w0.heap.size + 4) 3 1 vb n (i64s (zs.tail.take n))
  ab : va.ownBlock = none ∨ va.ownBlock ≠ vb.ownBlock
  ba : vb.ownBlock = none ∨ vb.ownBlock ≠ va.ownBlock
  size : w0.heap.size + 4 ≤ w.heap.size
  old : Below w0.heap.size w0 w

theorem CallsAt.drew {w0 : World} {a2 : Option Addr} {n2 c2 : Nat} {zs : List Int} {n : Nat} {va vb : Value} {w : World} (h : CallsAt w0 a2 n2 c2 zs n va vb w) (q : Nat) : CallsAt w0 a2 n2 c2 zs n va vb (w.drewN q) :=
  ⟨h.ans, h.k, h.kf, h.la, h.laf, h.lb, h.lbf, h.ra, h.rb, h.ab, h.ba, h.size, below_drewN h.old q⟩

/-- Behind the first append: la turned. -/
theorem step_a {w0 w w1 : World} {a2 : Option Addr} {n2 c2 : Nat} {zs : List Int} {n : Nat} {va vb : Value} {x : Int} {g cp : Nat} {o : Obj} (h : CallsAt w0 a2 n2 c2 zs n va vb w)
    (hown : w1.ownsRow (w0.heap.size + 4) 3 1 (.slice (some ⟨g, 0, none⟩) (n + 1) cp) (n + 1) (i64s (zs.take n) ++ [.int .i64 x])) (hgrow : (w.alloc o).grownBy w1 va.ownBlock)
    (hat : (Value.slice (some ⟨g, 0, none⟩) (n + 1) cp).ownBlock = va.ownBlock ∨ (Value.slice (some ⟨g, 0, none⟩) (n + 1) cp).ownBlock = some (w.alloc o).heap.size) :
    w1.cell? ⟨w0.heap.size + 2, 0, none⟩ = some va ∧ w1.frozen? ⟨w0.heap.size + 2, 0, none⟩ = false ∧
    ∀ w2, w2 = w1.setCell ⟨w0.heap.size + 2, 0, none⟩ (.slice (some ⟨g, 0, none⟩) (n + 1) cp) →
      w2.cell? ⟨w0.heap.size, 0, none⟩ = some (.slice a2 n2 c2) ∧ w2.cell? ⟨w0.heap.size + 1, 0, none⟩ = some (.int .i64 (n : Int)) ∧ w2.frozen? ⟨w0.heap.size + 1, 0, none⟩ = false ∧
      w2.cell? ⟨w0.heap.size + 2, 0, none⟩ = some (.slice (some ⟨g, 0, none⟩) (n + 1) cp) ∧ w2.frozen? ⟨w0.heap.size + 2, 0, none⟩ = false ∧
      w2.cell? ⟨w0.heap.size + 3, 0, none⟩ = some vb ∧ w2.frozen? ⟨w0.heap.size + 3, 0, none⟩ = false ∧
      w2.ownsRow (w0.heap.size + 4) 3 1 (.slice (some ⟨g, 0, none⟩) (n + 1) cp) (n + 1) (i64s (zs.take n) ++ [.int .i64 x]) ∧
      w2.ownsRow (w0.heap.size + 4) 3 1 vb n (i64s (zs.tail.take n)) ∧
      (vb.ownBlock = none ∨ vb.ownBlock ≠ some g) ∧ w0.heap.size + 4 ≤ w2.heap.size ∧ Below w0.heap.size w0 w2 := by
  have hz := hgrow.size
  have hz0 := h.size
  simp at hz
  have hlt : ∀ b, va.ownBlock = some b → w0.heap.size + 4 ≤ b ∧ b < w.heap.size := fun b hb => h.ra.lt b hb
  have hne : ∀ j, j < w0.heap.size + 4 → some j ≠ va.ownBlock := fun j hj e => by have := hlt j e.symm; omega
  have blk : ∀ j, j < w0.heap.size + 4 → w1.heap[j]? = w.heap[j]? := fun j hj => (hgrow.block j (by simp; omega) (hne j hj)).trans (Below.heap_alloc _ _ _ (by omega))
  have ce : ∀ j, j < w0.heap.size + 4 → w1.cell? ⟨j, 0, none⟩ = w.cell? ⟨j, 0, none⟩ := fun j hj => World.cell?_of_block (w := w) (a := ⟨j, 0, none⟩) (blk j hj)
  have fr : ∀ j, j < w0.heap.size + 4 → w1.frozen? ⟨j, 0, none⟩ = w.frozen? ⟨j, 0, none⟩ := fun j hj => World.frozen?_of_block (w := w) (a := ⟨j, 0, none⟩) (blk j hj)
  have k1 := (ce (w0.heap.size + 2) (by omega)).trans h.la
  have nd : ∀ i j : Nat, i ≠ j → (⟨i, 0, none⟩ : Addr) ≠ ⟨j, 0, none⟩ := fun i j hij e => hij (congrArg Addr.block e)
  refine ⟨k1, (fr _ (by omega)).trans h.laf, ?_⟩
  intro w2 hw2
  subst hw2
  refine ⟨?_, ?_, ?_, World.cell?_setCell_same _ _ _ k1, ?_, ?_, ?_, ownsRow_setCell_below hown (by show _ + 2 < _ + 4; omega) _, ?_, ?_, by simp [World.setCell]; omega, ?_⟩
  · rw [World.cell?_setCell_other _ _ _ _ (nd _ _ (by omega)), ce _ (by omega)]; exact h.ans
  · rw [World.cell?_setCell_other _ _ _ _ (nd _ _ (by omega)), ce _ (by omega)]; exact h.k
  · rw [World.frozen?_setCell, fr _ (by omega)]; exact h.kf
  · rw [World.frozen?_setCell, fr _ (by omega)]; exact h.laf
  · rw [World.cell?_setCell_other _ _ _ _ (nd _ _ (by omega)), ce _ (by omega)]; exact h.lb
  · rw [World.frozen?_setCell, fr _ (by omega)]; exact h.lbf
  · exact ownsRow_setCell_below ((h.rb.alloc _).kept hgrow h.ba) (by show _ + 2 < _ + 4; omega) _
  · rcases hat with e | e
    · have e' : some g = va.ownBlock := e
      rw [e']; exact h.ba
    · right
      intro e2
      have : g = (w.alloc o).heap.size := by simpa [Value.ownBlock] using e
      have := (h.rb.lt g e2).2
      simp at *; omega
  · exact (((h.old.alloc (by omega) o).grown hgrow (by simp; omega) (fun b hb => by have := (hlt b hb).1; omega)).setCell (by show _ ≤ _ + 2; omega) _)

/-- Behind the second append and its store: lb turned too; k is still to be stored. -/
theorem step_b {w0 w w1 : World} {a2 : Option Addr} {n2 c2 : Nat} {zs : List Int} {n : Nat} {vb : Value} {x y : Int} {g cp g' cp' : Nat} {o : Obj} (hx : zs[n]? = some x) (hy : zs[n + 1]? = some y)
    (h1 : w.cell? ⟨w0.heap.size, 0, none⟩ = some (.slice a2 n2 c2)) (h2 : w.cell? ⟨w0.heap.size + 1, 0, none⟩ = some (.int .i64 (n : Int))) (h3 : w.frozen? ⟨w0.heap.size + 1, 0, none⟩ = false)
    (h4 : w.cell? ⟨w0.heap.size + 2, 0, none⟩ = some (.slice (some ⟨g, 0, none⟩) (n + 1) cp)) (h5 : w.frozen? ⟨w0.heap.size + 2, 0, none⟩ = false)
    (h6 : w.cell? ⟨w0.heap.size + 3, 0, none⟩ = some vb) (h7 : w.frozen? ⟨w0.heap.size + 3, 0, none⟩ = false)
    (h8 : w.ownsRow (w0.heap.size + 4) 3 1 (.slice (some ⟨g, 0, none⟩) (n + 1) cp) (n + 1) (i64s (zs.take n) ++ [.int .i64 x])) (h9 : w.ownsRow (w0.heap.size + 4) 3 1 vb n (i64s (zs.tail.take n)))
    (h10 : vb.ownBlock = none ∨ vb.ownBlock ≠ some g) (h11 : w0.heap.size + 4 ≤ w.heap.size) (h12 : Below w0.heap.size w0 w)
    (hown : w1.ownsRow (w0.heap.size + 4) 3 1 (.slice (some ⟨g', 0, none⟩) (n + 1) cp') (n + 1) (i64s (zs.tail.take n) ++ [.int .i64 y])) (hgrow : (w.alloc o).grownBy w1 vb.ownBlock)
    (hat : (Value.slice (some ⟨g', 0, none⟩) (n + 1) cp').ownBlock = vb.ownBlock ∨ (Value.slice (some ⟨g', 0, none⟩) (n + 1) cp').ownBlock = some (w.alloc o).heap.size) :
    w1.cell? ⟨w0.heap.size + 3, 0, none⟩ = some vb ∧ w1.frozen? ⟨w0.heap.size + 3, 0, none⟩ = false ∧
    ∀ w2, w2 = w1.setCell ⟨w0.heap.size + 3, 0, none⟩ (.slice (some ⟨g', 0, none⟩) (n + 1) cp') →
      w2.cell? ⟨w0.heap.size, 0, none⟩ = some (.slice a2 n2 c2) ∧ w2.cell? ⟨w0.heap.size + 1, 0, none⟩ = some (.int .i64 (n : Int)) ∧ w2.frozen? ⟨w0.heap.size + 1, 0, none⟩ = false ∧ Below w0.heap.size w0 w2 ∧
      CallsAt w0 a2 n2 c2 zs (n + 1) (.slice (some ⟨g, 0, none⟩) (n + 1) cp) (.slice (some ⟨g', 0, none⟩) (n + 1) cp') (w2.setCell ⟨w0.heap.size + 1, 0, none⟩ (.int .i64 ((n : Int) + 1))) := by
  have hz := hgrow.size
  simp at hz
  have hlt : ∀ b, vb.ownBlock = some b → w0.heap.size + 4 ≤ b ∧ b < w.heap.size := fun b hb => h9.lt b hb
  have hne : ∀ j, j < w0.heap.size + 4 → some j ≠ vb.ownBlock := fun j hj e => by have := hlt j e.symm; omega
  have blk : ∀ j, j < w0.heap.size + 4 → w1.heap[j]? = w.heap[j]? := fun j hj => (hgrow.block j (by simp; omega) (hne j hj)).trans (Below.heap_alloc _ _ _ (by omega))
  have ce : ∀ j, j < w0.heap.size + 4 → w1.cell? ⟨j, 0, none⟩ = w.cell? ⟨j, 0, none⟩ := fun j hj => World.cell?_of_block (w := w) (a := ⟨j, 0, none⟩) (blk j hj)
  have fr : ∀ j, j < w0.heap.size + 4 → w1.frozen? ⟨j, 0, none⟩ = w.frozen? ⟨j, 0, none⟩ := fun j hj => World.frozen?_of_block (w := w) (a := ⟨j, 0, none⟩) (blk j hj)
  have k1 := (ce (w0.heap.size + 3) (by omega)).trans h6
  have nd : ∀ i j : Nat, i ≠ j → (⟨i, 0, none⟩ : Addr) ≠ ⟨j, 0, none⟩ := fun i j hij e => hij (congrArg Addr.block e)
  refine ⟨k1, (fr _ (by omega)).trans h7, ?_⟩
  intro w2 hw2
  subst hw2
  have r1 : (w1.setCell ⟨w0.heap.size + 3, 0, none⟩ (.slice (some ⟨g', 0, none⟩) (n + 1) cp')).cell? ⟨w0.heap.size, 0, none⟩ = some (.slice a2 n2 c2) := by
    rw [World.cell?_setCell_other _ _ _ _ (nd _ _ (by omega)), ce _ (by omega)]; exact h1
  have r2 : (w1.setCell ⟨w0.heap.size + 3, 0, none⟩ (.slice (some ⟨g', 0, none⟩) (n + 1) cp')).cell? ⟨w0.heap.size + 1, 0, none⟩ = some (.int .i64 (n : Int)) := by
    rw [World.cell?_setCell_other _ _ _ _ (nd _ _ (by omega)), ce _ (by omega)]; exact h2
  have r3 : (w1.setCell ⟨w0.heap.size + 3, 0, none⟩ (.slice (some ⟨g', 0, none⟩) (n + 1) cp')).frozen? ⟨w0.heap.size + 1, 0, none⟩ = false := by
    rw [World.frozen?_setCell, fr _ (by omega)]; exact h3
  have r4 : Below w0.heap.size w0 (w1.setCell ⟨w0.heap.size + 3, 0, none⟩ (.slice (some ⟨g', 0, none⟩) (n + 1) cp')) :=
    ((h12.alloc (by omega) o).grown hgrow (by simp; omega) (fun b hb => by have := (hlt b hb).1; omega)).setCell (by show _ ≤ _ + 3; omega) _
  refine ⟨r1, r2, r3, r4, ?_⟩
  have tk1 : zs.take (n + 1) = zs.take n ++ [x] := by rw [List.take_add_one, hx]; rfl
  have tk2 : zs.tail.take (n + 1) = zs.tail.take n ++ [y] := by rw [List.take_add_one, List.getElem?_tail, hy]; rfl
  have gg : some g ≠ some g' := by
    rcases hat with e | e
    · have e' : some g' = vb.ownBlock := e
      rw [e']
      rcases h10 with h | h
      · rw [h]; simp
      · exact fun e2 => h e2.symm
    · have e' : g' = (w.alloc o).heap.size := by simpa [Value.ownBlock] using e
      have := (h8.lt g rfl).2
      intro e2
      have : g = g' := by simpa using e2
      simp at e'; omega
  refine ⟨?_, ?_, ?_, ?_, ?_, ?_, ?_, ?_, ?_, ?_, ?_, ?_, ?_⟩
  · rw [World.cell?_setCell_other _ _ _ _ (nd _ _ (by omega))]; exact r1
  · rw [World.cell?_setCell_same _ _ _ r2]; simp
  · rw [World.frozen?_setCell]; exact r3
  · rw [World.cell?_setCell_other _ _ _ _ (nd _ _ (by omega)), World.cell?_setCell_other _ _ _ _ (nd _ _ (by omega)), ce _ (by omega)]; exact h4
  · rw [World.frozen?_setCell, World.frozen?_setCell, fr _ (by omega)]; exact h5
  · rw [World.cell?_setCell_other _ _ _ _ (nd _ _ (by omega))]; exact World.cell?_setCell_same _ _ _ k1
  · rw [World.frozen?_setCell, World.frozen?_setCell, fr _ (by omega)]; exact h7
  · rw [tk1, i64s_snoc]
    exact ownsRow_setCell_below (ownsRow_setCell_below ((h8.alloc _).kept hgrow (by
      right
      rcases h10 with h | h
      · rw [h]; simp [Value.ownBlock]
      · exact fun e => h e.symm)) (by show _ + 3 < _ + 4; omega) _) (by show _ + 1 < _ + 4; omega) _
  · rw [tk2, i64s_snoc]
    exact ownsRow_setCell_below (ownsRow_setCell_below hown (by show _ + 3 < _ + 4; omega) _) (by show _ + 1 < _ + 4; omega) _
  · exact .inr gg
  · exact .inr (fun e => gg e.symm)
  · simp [World.setCell]; omega
  · exact r4.setCell (by show _ ≤ _ + 1; omega) _

/-- What the relation answers at its n-th call. -/
def ansAt (bs : List Bool) (n : Nat) : Bool := bs.getD n true

theorem ansAt_out {bs : List Bool} {n : Nat} (h : bs.length ≤ n) : ansAt bs n = true := by simp [ansAt, List.getD, List.getElem?_eq_none h]

set_option maxHeartbeats 1000000 in
theorem rel_any (w0 : World) (a2 : Option Addr) (n2 c2 : Nat) (zs : List Int) (bs : List Bool) (n : Nat) (va vb : Value) (x y : Int) (w : World)
    (h : CallsAt w0 a2 n2 c2 zs n va vb w) (hb : BoolsIn w0 a2 n2 bs) (hn : n ≤ 1024) (hx : zs[n]? = some x) (hy : zs[n + 1]? = some y) :
    Calls Yba.prog 5 #[.int .i64 x, .int .i64 y, .pointer (some ⟨w0.heap.size + 2, 0, none⟩), .pointer (some ⟨w0.heap.size + 3, 0, none⟩), .pointer (some ⟨w0.heap.size + 1, 0, none⟩), .pointer (some ⟨w0.heap.size, 0, none⟩)] w fun e w' =>
      e = .returned (.bool (ansAt bs n)) ∧ ∃ va' vb', CallsAt w0 a2 n2 c2 zs (n + 1) va' vb' w' := by
  obtain ⟨i0, hi, hz0, hz1, hz2⟩ := info_parts Yba.info3
  have H : Hid (CallsAt w0 a2 n2 c2 zs n va vb w) := h
  have HB : Hid (BoolsIn w0 a2 n2 bs) := hb
  have hla := h.la
  have hz := h.size
  clear h hb
  go_enter Yba.func5, Yba.ntmps5
  go_wp2_with (at_builtin; refine wpList_append_own_at _ rfl (.tmp 10) (.tmp 12) 22 rfl (w0.heap.size + 4) 3 i0 (.int .i64 0) 1 8 Yba.underlying22 hi hz0 hz1 hz2 rfl (by decide) va n (i64s (zs.take n)) rfl ?w0 ⟨w.heap.size, 0, none⟩ 1 1 [.int .i64 x] rfl rfl ?w1 ?w2 ?w3 ?w4 ?w5 ?_)
  case w0 => exact H.out.ra.alloc _
  case w1 => exact cell_one_new _ _ _
  case w2 => exact ints_oneCell _ [x]
  case w3 => unfold maxLen; omega
  case w4 => omega
  case w5 => simp; omega
  intro v' w1 hown' hgrow _ hat
  obtain ⟨g, cp, rfl⟩ := owns_pos hown'
  obtain ⟨k1, k2, kR⟩ := step_a H.out hown' hgrow (by simpa using hat)
  obtain ⟨h1, h2, h3, h4, h5, h6, h7, h8, h9, h10, h11, h12⟩ := kR _ rfl
  have H8 : Hid ((w1.setCell ⟨w0.heap.size + 2, 0, none⟩ (.slice (some ⟨g, 0, none⟩) (n + 1) cp)).ownsRow (w0.heap.size + 4) 3 1 (.slice (some ⟨g, 0, none⟩) (n + 1) cp) (n + 1) (i64s (zs.take n) ++ [.int .i64 x])) := h8
  have H9 : Hid ((w1.setCell ⟨w0.heap.size + 2, 0, none⟩ (.slice (some ⟨g, 0, none⟩) (n + 1) cp)).ownsRow (w0.heap.size + 4) 3 1 vb n (i64s (zs.tail.take n))) := h9
  have H10 : Hid (vb.ownBlock = none ∨ vb.ownBlock ≠ some g) := h10
  have H12 : Hid (Below w0.heap.size w0 (w1.setCell ⟨w0.heap.size + 2, 0, none⟩ (.slice (some ⟨g, 0, none⟩) (n + 1) cp))) := h12
  have hz' := h11
  simp at hz'
  clear kR hown' hgrow hat h8 h9 h10 hla h12
  go_wp2_with (at_builtin; refine wpList_append_own_at _ rfl (.tmp 14) (.tmp 16) 22 rfl (w0.heap.size + 4) 3 i0 (.int .i64 0) 1 8 Yba.underlying22 hi hz0 hz1 hz2 rfl (by decide) vb n (i64s (zs.tail.take n)) rfl ?y0 ⟨w1.heap.size, 0, none⟩ 1 1 [.int .i64 y] rfl rfl ?y1 ?y2 ?y3 ?y4 ?y5 ?_)
  case y0 => exact H9.out.alloc _
  case y1 => exact cell1_new _ _ _ _ (by simp)
  case y2 => exact ints_oneCell _ [y]
  case y3 => unfold maxLen; omega
  case y4 => omega
  case y5 => simp; omega
  intro v'' w2 hown'' hgrow'' _ hat''
  obtain ⟨g', cp', rfl⟩ := owns_pos hown''
  obtain ⟨m1, m2, mR⟩ := step_b hx hy h1 h2 h3 h4 h5 h6 h7 H8.out H9.out H10.out h11 H12.out hown'' hgrow'' (by simpa using hat'')
  obtain ⟨r1, r2, r3, r4, r5⟩ := mR _ rfl
  have HR5 : Hid (CallsAt w0 a2 n2 c2 zs (n + 1) (.slice (some ⟨g, 0, none⟩) (n + 1) cp) (.slice (some ⟨g', 0, none⟩) (n + 1) cp') ((w2.setCell ⟨w0.heap.size + 3, 0, none⟩ (.slice (some ⟨g', 0, none⟩) (n + 1) cp')).setCell ⟨w0.heap.size + 1, 0, none⟩ (.int .i64 ((n : Int) + 1)))) := r5
  have HX : Hid (zs[n]? = some x) := hx
  have HY : Hid (zs[n + 1]? = some y) := hy
  obtain ⟨hbl, hbc⟩ := HB.out
  clear mR hown'' hgrow'' hat'' h1 h2 h3 h4 h5 h6 h7 r5 k1 k2 hx hy
  by_cases hlt : n < n2
  · rcases hbc with h0 | ⟨b, off, rfl, hb0, hc⟩
    · omega
    obtain ⟨v, ev⟩ : ∃ v, v = ansAt bs n := ⟨_, rfl⟩
    have hcell : (w2.setCell ⟨w0.heap.size + 3, 0, none⟩ (.slice (some ⟨g', 0, none⟩) (n + 1) cp')).cell? ⟨b, off + n, none⟩ = some (.bool v) := by
      rw [r4.cell (by exact hb0), ev]; exact hc n hlt
    have EV : Hid (v = ansAt bs n) := ev
    clear hc ev hbl
    go_wp2
    go_ret
    exact ⟨ret_bool EV.out, _, _, HR5.out⟩
  · have hv : ansAt bs n = true := ansAt_out (by omega)
    have HV : Hid (ansAt bs n = true) := hv
    clear hv hbc hbl
    go_wp2
    go_ret
    exact ⟨ret_bool HV.out.symm, _, _, HR5.out⟩

end Go.Proofs.Ybulkcmyw
