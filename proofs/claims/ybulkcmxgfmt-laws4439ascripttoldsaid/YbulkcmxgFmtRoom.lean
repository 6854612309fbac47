import Derived.Test.YbulkcmxgFmtSet
namespace Go.Proofs.YbulkcmxgFmt
open Go.RowKit

/-- What the log's writing of one change leaves, where there is room: o', len' the slice's place and length then. -/
structure Added (N C nb U o len o' len' made : Nat) (cs au : Array Value) (k st n x : Int) (w w' : World) : Prop where
  ls : ∃ cs' au', LS C nb U o' len' (made + 1) cs' au' w' ∧ (∀ i, i ≠ 79 → i ≠ 80 → cs'[i]? = cs[i]?) ∧ (∀ j, o' * 6 ≤ j → j < (o + len) * 6 → au'[j]? = au[j]?) ∧ ChgAt au' (o + len) k st n x (made + 1)
  rest : ∀ b, b < w.heap.size → b ≠ nb → b ≠ U → w'.heap[b]? = w.heap[b]?
  below : Below N w w'

abbrev chgL (k st n x q : Int) : List Value := [.int .i64 k, .int .u8 st, .int .u64 n, .int .i64 x, .pointer none, .int .u64 q]

theorem room_of {N C nb U o len made : Nat} {cs au : Array Value} {k st n x : Int} {w W : World} (h : LS C nb U o len made cs au w) (hN : N ≤ nb) (hN2 : N ≤ U) (hroom : o + len < C)
    (hnb : W.heap[nb]? = some (.cells (cs.setIfInBounds 80 (.int .u64 ((made : Int) + 1))) 68 (0, 0))) (hU : W.heap[U]? = some (.cells au 75 (0, 0)))
    (hrest : ∀ b, b < w.heap.size → b ≠ nb → b ≠ U → W.heap[b]? = w.heap[b]?) (hB : Below N w W) :
    Added N C nb U o len o (len + 1) made cs au k st n x w ((W.setCells U (o * 6 + len * 6) (chgL k st n x ((made : Int) + 1))).setCell ⟨nb, 79, none⟩ (.slice (some ⟨U, o * 6, none⟩) (len + 1) (C - o))) := by
  have n1 : nb ≠ U := blk_ne hnb hU (by decide)
  have n2 : U ≠ nb := fun e => n1 e.symm
  have hsz := h.csz
  have haz := h.asz
  obtain ⟨au', a1, a2, a3, a4⟩ := setCells_blk U 75 (chgL k st n x ((made : Int) + 1)) (o * 6 + len * 6) W au hU
  have hoff : o * 6 + len * 6 = (o + len) * 6 := by omega
  refine ⟨⟨(cs.setIfInBounds 80 (.int .u64 ((made : Int) + 1))).setIfInBounds 79 (.slice (some ⟨U, o * 6, none⟩) (len + 1) (C - o)), au', ⟨?_, ?_, ?_, ?_, ?_, ?_, ?_⟩, ?_, ?_, ?_⟩, ?_, ?_⟩
  · exact heap_set ((setCells_far n1 _ _ _).trans hnb)
  · simpa using hsz
  · rw [Array.getElem?_setIfInBounds_self_of_lt (by simp; omega)]
  · rw [Array.getElem?_setIfInBounds_ne (by decide), Array.getElem?_setIfInBounds_self_of_lt (by omega)]; simp
  · exact (Below.heap_setCell _ _ _ _ n2).trans a1
  · rw [a2]; exact haz
  · omega
  · intro i h1 h2
    rw [Array.getElem?_setIfInBounds_ne (by omega), Array.getElem?_setIfInBounds_ne (by omega)]
  · intro j _ hj
    exact a3 j (Or.inl (by omega))
  · have b0 := a4 0 _ rfl (by omega)
    have b1 := a4 1 _ rfl (by omega)
    have b2 := a4 2 _ rfl (by omega)
    have b3 := a4 3 _ rfl (by omega)
    have b4 := a4 4 _ rfl (by omega)
    have b5 := a4 5 _ rfl (by omega)
    rw [hoff] at b0 b1 b2 b3 b4 b5
    exact ⟨b0, b1, b2, b3, b4, b5⟩
  · intro b hb h1 h2
    rw [Below.heap_setCell _ _ _ _ h1, setCells_far h2]; exact hrest b hb h1 h2
  · exact (below_setCells hN2 _ _ _ hB).setCell (p := ⟨nb, 79, none⟩) hN _

theorem spare_of {C U o len : Nat} {au : Array Value} {W : World} {news : List Value} (hU : W.heap[U]? = some (.cells au 75 (0, 0))) (haz : au.size = C * 6) (hroom : o + len < C) (hl : news.length = 6) :
    ∀ j, j < news.length → (W.cell? ⟨U, o * 6 + len * 6 + j, none⟩).isSome = true ∧ W.frozen? ⟨U, o * 6 + len * 6 + j, none⟩ = false := by
  intro j hj
  refine ⟨?_, frozen_of_blk hU _⟩
  rw [cell_of_blk hU, Array.getElem?_eq_getElem (by omega)]; rfl

theorem at79_of {nb U off : Nat} {q u : Value} {cs au : Array Value} {W : World} {news : List Value} (hnb : W.heap[nb]? = some (.cells (cs.setIfInBounds 80 q) 68 (0, 0))) (hU : W.heap[U]? = some (.cells au 75 (0, 0))) (h79 : cs[79]? = some u) :
    (W.setCells U off news).cell? ⟨nb, 79, none⟩ = some u ∧ (W.setCells U off news).frozen? ⟨nb, 79, none⟩ = false := by
  have n1 : nb ≠ U := blk_ne hnb hU (by decide)
  have h := (setCells_far n1 news off W).trans hnb
  refine ⟨(cell_of_blk h _).trans ?_, frozen_of_blk h _⟩
  rw [Array.getElem?_setIfInBounds_ne (by decide)]; exact h79

/-- The world ahead of the append, no change dropped: what it holds. -/
theorem pre_of {N nb U : Nat} {cs au : Array Value} {w : World} (q : Value) (o1 o2 : Obj) (hnb : w.heap[nb]? = some (.cells cs 68 (0, 0))) (hU : w.heap[U]? = some (.cells au 75 (0, 0))) (hN : N ≤ nb) :
    ((((w.setCell ⟨nb, 80, none⟩ q).alloc o1).alloc o2).drew).heap[nb]? = some (.cells (cs.setIfInBounds 80 q) 68 (0, 0)) ∧ ((((w.setCell ⟨nb, 80, none⟩ q).alloc o1).alloc o2).drew).heap[U]? = some (.cells au 75 (0, 0)) ∧
    (∀ b, b < w.heap.size → b ≠ nb → b ≠ U → ((((w.setCell ⟨nb, 80, none⟩ q).alloc o1).alloc o2).drew).heap[b]? = w.heap[b]?) ∧ Below N w ((((w.setCell ⟨nb, 80, none⟩ q).alloc o1).alloc o2).drew) := by
  have n2 : U ≠ nb := fun e => blk_ne hnb hU (by decide) e.symm
  have l1 : nb < w.heap.size := (Array.getElem?_eq_some_iff.1 hnb).1
  have l2 : U < w.heap.size := (Array.getElem?_eq_some_iff.1 hU).1
  have hB : Below w.heap.size (w.setCell ⟨nb, 80, none⟩ q) ((((w.setCell ⟨nb, 80, none⟩ q).alloc o1).alloc o2).drew) :=
    (((Below.refl _ _).alloc (by simp [World.setCell]) _).alloc (by simp [World.setCell]) _).drew
  refine ⟨(hB.block nb l1).trans (heap_set hnb), (hB.block U l2).trans ((Below.heap_setCell _ _ _ _ n2).trans hU), fun b hb h1 _ => (hB.block b hb).trans (Below.heap_setCell _ _ _ _ h1), ?_⟩
  exact ((Below.refl N w).setCell (p := ⟨nb, 80, none⟩) hN q).trans (hB.mono (by omega))

/-- .. and with a change dropped. -/
theorem pre1_of {N nb U : Nat} {cs au : Array Value} {w : World} (q : Value) (o2 : Obj) (hnb : w.heap[nb]? = some (.cells cs 68 (0, 0))) (hU : w.heap[U]? = some (.cells au 75 (0, 0))) (hN : N ≤ nb) :
    (((w.setCell ⟨nb, 80, none⟩ q).alloc o2).drew).heap[nb]? = some (.cells (cs.setIfInBounds 80 q) 68 (0, 0)) ∧ (((w.setCell ⟨nb, 80, none⟩ q).alloc o2).drew).heap[U]? = some (.cells au 75 (0, 0)) ∧
    (∀ b, b < w.heap.size → b ≠ nb → b ≠ U → (((w.setCell ⟨nb, 80, none⟩ q).alloc o2).drew).heap[b]? = w.heap[b]?) ∧ Below N w (((w.setCell ⟨nb, 80, none⟩ q).alloc o2).drew) ∧ (((w.setCell ⟨nb, 80, none⟩ q).alloc o2).drew).heap[w.heap.size]? = some o2 := by
  have n2 : U ≠ nb := fun e => blk_ne hnb hU (by decide) e.symm
  have l1 : nb < w.heap.size := (Array.getElem?_eq_some_iff.1 hnb).1
  have l2 : U < w.heap.size := (Array.getElem?_eq_some_iff.1 hU).1
  have hB : Below w.heap.size (w.setCell ⟨nb, 80, none⟩ q) (((w.setCell ⟨nb, 80, none⟩ q).alloc o2).drew) :=
    ((Below.refl _ _).alloc (by simp [World.setCell]) _).drew
  refine ⟨(hB.block nb l1).trans (heap_set hnb), (hB.block U l2).trans ((Below.heap_setCell _ _ _ _ n2).trans hU), fun b hb h1 _ => (hB.block b hb).trans (Below.heap_setCell _ _ _ _ h1), ?_, ?_⟩
  · exact ((Below.refl N w).setCell (p := ⟨nb, 80, none⟩) hN q).trans (hB.mono (by omega))
  · have := heap_alloc_new (w.setCell ⟨nb, 80, none⟩ q) o2
    simpa [World.setCell, World.drew] using this

set_option maxHeartbeats 4000000 in
theorem add_fits (N C nb U o len made : Nat) (cs au : Array Value) (k st n x : Int) (w : World) (hN : N ≤ nb) (hN2 : N ≤ U) (hlen : len < 1024) (hroom : o + len < C) (hmade : made ≤ 8192) (h : LS C nb U o len made cs au w) :
    Calls Ybaf.prog 19 #[.pointer (some ⟨nb, 79, none⟩), .int .i64 k, .int .u8 st, .agg #[.int .u64 n, .int .i64 x, .pointer none]] w fun e w' => e = .returned (.tuple #[]) ∧
      Added N C nb U o len o (len + 1) made cs au k st n x w w' := by
  have HLS : Hid (LS C nb U o len made cs au w) := h
  obtain ⟨hnb, csz, c79, c80, hU, asz, fit⟩ := h
  have l1 : nb < w.heap.size := (Array.getElem?_eq_some_iff.1 hnb).1
  have d79 : w.cell? ⟨nb, 79, none⟩ = _ := (cell_of_blk hnb _).trans c79
  have d80 : w.cell? ⟨nb, 80, none⟩ = _ := (cell_of_blk hnb _).trans c80
  have f79 : w.frozen? ⟨nb, 79, none⟩ = false := frozen_of_blk hnb 79
  have f80 : w.frozen? ⟨nb, 80, none⟩ = false := frozen_of_blk hnb 80
  obtain ⟨iu, hiu, hu0, hu1, hu2⟩ := info_parts75
  have hlen' : ((len : Int) == 1024) = false := by simp; omega
  have HP := pre_of (N := N) (.int .u64 ((made : Int) + 1)) (.cells #[.int .u64 n, .int .i64 x, .pointer none] 38) (.cells #[.int .i64 k, .int .u8 st, .int .u64 n, .int .i64 x, .pointer none, .int .u64 ((made : Int) + 1)] 75) hnb hU hN
  have H1 : Hid _ := spare_of (news := chgL k st n x ((made : Int) + 1)) HP.2.1 asz hroom rfl
  have H2 : Hid _ := at79_of (off := o * 6 + len * 6) (news := chgL k st n x ((made : Int) + 1)) HP.1 HP.2.1 c79
  have H3 : Hid _ := room_of (k := k) (st := st) (n := n) (x := x) HLS.out hN hN2 hroom HP.1 HP.2.1 HP.2.2.1 HP.2.2.2
  clear HP hnb c79 c80 csz asz hU hu0 hu2
  go_enter Ybaf.func19, Ybaf.ntmps19
  go_wp2_with fail
  go_region_law (refine step_append_room rfl (.tmp 27) (.tmp 36) 64 rfl 75 iu 6 Ybaf.underlying64 hiu hu1 U (o * 6) len (C - o) (by simp [Act.eval]) ⟨w.heap.size + 1, 0, none⟩ 1 1 (chgL k st n x ((made : Int) + 1)) (by simp [Act.eval]) rfl (World.news_of_block wb_new) (by simp [Value.oneCell']) (by omega) H1.out ?_; obtain ⟨c1, f1⟩ := H2.out)
  all_goals (go_wp2; go_end0; exact ⟨rfl, H3.out⟩)

end Go.Proofs.YbulkcmxgFmt
