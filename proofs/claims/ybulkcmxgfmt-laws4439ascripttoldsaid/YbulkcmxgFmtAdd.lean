import Derived.Test.YbulkcmxgFmtTime
import Derived.Deep.RegionLaw
import Derived.Deep.AppendLies
namespace Go.Proofs.YbulkcmxgFmt
open Go.RowKit

theorem Ybaf.info75 : (Ybaf.prog.info? 75).map (fun i => (i.zero, i.size, i.bytes)) = some (some (.agg #[.int .i64 0, .int .u8 0, .int .u64 0, .int .i64 0, .pointer none, .int .u64 0]), 6, 48) := by kernel_rfl

theorem info_parts75 : ∃ i, Ybaf.prog.info? 75 = some i ∧ i.zero = some (.agg #[.int .i64 0, .int .u8 0, .int .u64 0, .int .i64 0, .pointer none, .int .u64 0]) ∧ i.size = 6 ∧ i.bytes = 48 := by
  have h := Ybaf.info75
  cases hi : Ybaf.prog.info? 75 with
  | none => rw [hi] at h; simp at h
  | some i => rw [hi] at h; simp at h; exact ⟨i, rfl, h.1, h.2.1, h.2.2⟩

theorem stand_any (nb gf gg m k : Nat) (s : Int) (f g b : Bool) (w : World) (hk : k < m) (h0 : w.cell? ⟨nb, 0, none⟩ = some (.int .i64 s)) (h71 : w.cell? ⟨nb, 71, none⟩ = some (.slice (some ⟨gf, 0, none⟩) m m)) (h73 : w.cell? ⟨nb, 73, none⟩ = some (.slice (some ⟨gg, 0, none⟩) m m)) (h78 : w.cell? ⟨nb, 78, none⟩ = some (.bool b)) (hf : w.cell? ⟨gf, k, none⟩ = some (.bool f)) (hg : w.cell? ⟨gg, k, none⟩ = some (.bool g)) :
    Calls Ybaf.prog 18 #[.pointer (some ⟨nb, 0, none⟩), .int .i64 (k : Int)] w fun e w' => e = .returned (.int .u8 (stOf g (decide ((k : Int) = s) && b) f)) ∧ w' = w := by
  by_cases hs : (k : Int) = s
  · subst hs
    cases f <;> cases g <;> cases b <;> (go_enter Ybaf.func18, Ybaf.ntmps18; go_wp2; go_ret; simp [stOf])
  · cases f <;> cases g <;> cases b <;> (go_enter Ybaf.func18, Ybaf.ntmps18; go_wp2; go_ret; simp [stOf, hs])

/-- What the log's writing of its first change leaves. -/
structure AddNil (w w' : World) (nb : Nat) (k st n x : Int) (cs : Array Value) (g cap : Nat) : Prop where
  new : w.heap.size ≤ g
  node : w'.heap[nb]? = some (.cells ((cs.setIfInBounds 80 (.int .u64 1)).setIfInBounds 79 (.slice (some ⟨g, 0, none⟩) 1 cap)) 68 (0, 0))
  row : ∀ i v, [(.int .i64 k : Value), .int .u8 st, .int .u64 n, .int .i64 x, .pointer none, .int .u64 1][i]? = some v → w'.cell? ⟨g, i, none⟩ = some v
  rest : ∀ b, b < w.heap.size → b ≠ nb → w'.heap[b]? = w.heap[b]?
  below : Below nb w w'

theorem add_fin {w w1 : World} {nb : Nat} {k st n x : Int} {cs : Array Value} {o1 o2 : Obj} {g cap : Nat} (hnb : w.heap[nb]? = some (.cells cs 68 (0, 0)))
    (hgrow : ((((w.setCell ⟨nb, 80, none⟩ (.int .u64 1)).alloc o1).alloc o2).drew).grownBy w1 none)
    (hown : w1.ownsRow w.heap.size 75 6 (.slice (some ⟨g, 0, none⟩) (0 + 1) cap) (0 + 1) ([] ++ [.int .i64 k, .int .u8 st, .int .u64 n, .int .i64 x, .pointer none, .int .u64 1])) :
    AddNil w (w1.setCell ⟨nb, 79, none⟩ (.slice (some ⟨g, 0, none⟩) (0 + 1) cap)) nb k st n x cs g cap := by
  have hlt : nb < w.heap.size := (Array.getElem?_eq_some_iff.1 hnb).1
  have hB : Below w.heap.size (w.setCell ⟨nb, 80, none⟩ (.int .u64 1)) ((((w.setCell ⟨nb, 80, none⟩ (.int .u64 1)).alloc o1).alloc o2).drew) :=
    (((Below.refl _ _).alloc (by simp [World.setCell]) _).alloc (by simp [World.setCell]) _).drew
  have hB1 : Below w.heap.size (w.setCell ⟨nb, 80, none⟩ (.int .u64 1)) w1 := hB.grown hgrow (by simpa [World.setCell] using hB.size) (by intro k h; cases h)
  obtain ⟨g', cap', cur, e0, hg, hcell, _, _, hcs, htake⟩ : ∃ g' cap' cur, (Value.slice (some ⟨g, 0, none⟩) (0 + 1) cap) = .slice (some ⟨g', 0, none⟩) (0 + 1) cap' ∧ w.heap.size ≤ g' ∧ w1.heap[g']? = some (.cells cur 75 (0, 0)) ∧ 0 + 1 ≤ cap' ∧ cap' ≤ maxLen ∧ cur.size = cap' * 6 ∧ cur.toList.take ((0 + 1) * 6) = [] ++ [.int .i64 k, .int .u8 st, .int .u64 n, .int .i64 x, .pointer none, .int .u64 1] := by
    rcases hown.2 with ⟨h, _⟩ | h
    · simp at h
    · exact h
  obtain ⟨rfl, rfl⟩ : g = g' ∧ cap = cap' := by simpa using e0
  refine ⟨hg, ?_, ?_, ?_, ?_⟩
  · exact heap_set ((hB1.block nb hlt).trans (heap_set hnb))
  · intro i v hv
    have h1 := World.ownsRow.cells (w := w1) hown (g := g) rfl i v hv
    have hadd : (⟨g, 0, none⟩ : Addr).add i = ⟨g, i, none⟩ := by unfold Addr.add; split <;> simp_all
    rw [hadd] at h1
    rw [World.cell?_of_block (Below.heap_setCell w1 ⟨nb, 79, none⟩ _ g (by show g ≠ nb; omega))]
    exact h1
  · intro b hb hne
    rw [Below.heap_setCell _ _ _ _ hne, hB1.block b hb, Below.heap_setCell _ _ _ _ hne]
  · exact ((((Below.refl nb w).setCell (p := ⟨nb, 80, none⟩) (Nat.le_refl _) _).trans (hB1.mono (Nat.le_of_lt hlt)))).setCell (p := ⟨nb, 79, none⟩) (Nat.le_refl _) _

theorem wb_new {w : World} {nb : Nat} {q : Value} {o1 o2 : Obj} : ((((w.setCell ⟨nb, 80, none⟩ q).alloc o1).alloc o2).drew).heap[w.heap.size + 1]? = some o2 := by
  have := heap_alloc_new ((w.setCell ⟨nb, 80, none⟩ q).alloc o1) o2
  simpa [World.setCell, World.drew] using this
theorem wb_size {w : World} {nb : Nat} {q : Value} {o1 o2 : Obj} : w.heap.size ≤ ((((w.setCell ⟨nb, 80, none⟩ q).alloc o1).alloc o2).drew).heap.size := by
  simp [World.setCell, World.drew]; omega
theorem wb_node {w w1 : World} {nb : Nat} {q : Value} {o1 o2 : Obj} {cs : Array Value} (hnb : w.heap[nb]? = some (.cells cs 68 (0, 0))) (hgrow : ((((w.setCell ⟨nb, 80, none⟩ q).alloc o1).alloc o2).drew).grownBy w1 none) :
    w1.heap[nb]? = some (.cells (cs.setIfInBounds 80 q) 68 (0, 0)) := by
  have hlt : nb < w.heap.size := (Array.getElem?_eq_some_iff.1 hnb).1
  have hB : Below w.heap.size (w.setCell ⟨nb, 80, none⟩ q) ((((w.setCell ⟨nb, 80, none⟩ q).alloc o1).alloc o2).drew) :=
    (((Below.refl _ _).alloc (by simp [World.setCell]) _).alloc (by simp [World.setCell]) _).drew
  exact ((hB.grown hgrow wb_size (by intro k h; cases h)).block nb hlt).trans (heap_set hnb)
theorem wb_79 {w w1 : World} {nb : Nat} {q u : Value} {o1 o2 : Obj} {cs : Array Value} (hnb : Hid (w.heap[nb]? = some (.cells cs 68 (0, 0)))) (h79 : Hid (cs[79]? = some u)) (hgrow : ((((w.setCell ⟨nb, 80, none⟩ q).alloc o1).alloc o2).drew).grownBy w1 none) :
    w1.cell? ⟨nb, 79, none⟩ = some u ∧ w1.frozen? ⟨nb, 79, none⟩ = false := by
  have h := wb_node hnb.out hgrow
  refine ⟨(cell_of_blk h _).trans ?_, frozen_of_blk h _⟩
  rw [Array.getElem?_setIfInBounds_ne (by decide)]; exact h79.out

set_option maxHeartbeats 2000000 in
theorem add_nil (nb : Nat) (k st n x : Int) (cs : Array Value) (w : World) (hnb : w.heap[nb]? = some (.cells cs 68 (0, 0))) (h79 : cs[79]? = some (.slice none 0 0)) (h80 : cs[80]? = some (.int .u64 0)) :
    Calls Ybaf.prog 19 #[.pointer (some ⟨nb, 79, none⟩), .int .i64 k, .int .u8 st, .agg #[.int .u64 n, .int .i64 x, .pointer none]] w fun e w' => e = .returned (.tuple #[]) ∧
      ∃ g cap, AddNil w w' nb k st n x cs g cap := by
  have hlt : nb < w.heap.size := (Array.getElem?_eq_some_iff.1 hnb).1
  have c79 : w.cell? ⟨nb, 79, none⟩ = some (.slice none 0 0) := (cell_of_blk hnb _).trans h79
  have c80 : w.cell? ⟨nb, 80, none⟩ = some (.int .u64 0) := (cell_of_blk hnb _).trans h80
  have f79 : w.frozen? ⟨nb, 79, none⟩ = false := frozen_of_blk hnb 79
  have f80 : w.frozen? ⟨nb, 80, none⟩ = false := frozen_of_blk hnb 80
  have HNB : Hid (w.heap[nb]? = some (.cells cs 68 (0, 0))) := hnb
  obtain ⟨iu, hiu, hu0, hu1, hu2⟩ := info_parts75
  have H79 : Hid (cs[79]? = some (.slice none 0 0)) := h79
  clear hnb h79 h80
  go_enter Ybaf.func19, Ybaf.ntmps19
  go_wp2_with fail
  go_region_law (refine step_append_lies _ rfl (.tmp 27) (.tmp 36) 64 rfl w.heap.size 75 iu (.agg #[.int .i64 0, .int .u8 0, .int .u64 0, .int .i64 0, .pointer none, .int .u64 0]) 6 48 Ybaf.underlying64 hiu hu0 hu1 hu2 rfl (by decide) (.slice none 0 0) 0 [] (by simp [Act.eval]) (World.ownsRow_nil _ _ _ _) ⟨w.heap.size + 1, 0, none⟩ 1 1 [.int .i64 k, .int .u8 st, .int .u64 n, .int .i64 x, .pointer none, .int .u64 1] (by simp [Act.eval]) rfl (World.news_of_block wb_new) (by simp [Value.oneCell']) (by decide) (by decide) (by decide) wb_size _ rfl ?_; intro g cap w1 hown hgrow hat hlt1; obtain ⟨c1, f1⟩ := wb_79 HNB H79 hgrow; have HO : Hid _ := hown; have HG : Hid _ := hgrow; clear hown hgrow hat hlt1)
  all_goals (go_wp2; go_end0; exact ⟨rfl, _, _, add_fin HNB.out HG.out HO.out⟩)

end Go.Proofs.YbulkcmxgFmt
