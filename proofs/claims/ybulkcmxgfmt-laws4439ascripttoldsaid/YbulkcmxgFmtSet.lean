import Derived.Test.YbulkcmxgFmtLog
namespace Go.Proofs.YbulkcmxgFmt
open Go.RowKit

theorem setCells_blk (U : Nat) (e : TypeId) : ∀ (vs : List Value) (off : Nat) (w : World) (au : Array Value), w.heap[U]? = some (.cells au e (0, 0)) →
    ∃ au' : Array Value, (w.setCells U off vs).heap[U]? = some (.cells au' e (0, 0)) ∧ au'.size = au.size ∧ (∀ j, j < off ∨ off + vs.length ≤ j → au'[j]? = au[j]?) ∧ ∀ (j : Nat) (v : Value), vs[j]? = some v → off + j < au.size → au'[off + j]? = some v
  | [], off, w, au, h => ⟨au, h, rfl, fun _ _ => rfl, fun j v hv => by simp at hv⟩
  | u :: r, off, w, au, h => by
    obtain ⟨au', h1, h2, h3, h4⟩ := setCells_blk U e r (off + 1) (w.setCell ⟨U, off, none⟩ u) (au.setIfInBounds off u) (heap_set h)
    refine ⟨au', h1, by simpa using h2, fun j hj => ?_, fun j v hv hlt => ?_⟩
    · simp only [List.length_cons] at hj
      rw [h3 j (by omega), Array.getElem?_setIfInBounds_ne (by omega)]
    · cases j with
      | zero =>
        simp only [List.getElem?_cons_zero, Option.some.injEq] at hv
        subst hv
        rw [Nat.add_zero, h3 off (Or.inl (by omega))]
        exact Array.getElem?_setIfInBounds_self_of_lt (by omega)
      | succ j =>
        have := h4 j v (by simpa using hv) (by simp only [Array.size_setIfInBounds]; omega)
        rw [show off + (j + 1) = off + 1 + j by omega]; exact this

theorem setCells_far {U b : Nat} (hb : b ≠ U) : ∀ (vs : List Value) (off : Nat) (w : World), (w.setCells U off vs).heap[b]? = w.heap[b]?
  | [], _, _ => rfl
  | v :: r, off, w => by
    rw [World.setCells, setCells_far hb r (off + 1)]
    exact Below.heap_setCell _ _ _ _ hb

theorem below_setCells {B U : Nat} {a : World} (hU : B ≤ U) : ∀ (vs : List Value) (off : Nat) (w : World), Below B a w → Below B a (w.setCells U off vs)
  | [], _, _, h => h
  | v :: r, off, _, h => below_setCells hU r (off + 1) _ (h.setCell (p := ⟨U, off, none⟩) hU v)

theorem make_len {n c : Nat} (hn : n ≤ c) (hc : c ≤ 4096) (w : World) : (Instr.makeSlice 64 (.int .i64 (n : Int)) (.int .i64 (c : Int))).run Ybaf.prog w = .ok (.slice (some ⟨w.heap.size, 0, none⟩) n c) (w.alloc (.cells (madeCells #[.int .i64 0, .int .u8 0, .int .u64 0, .int .i64 0, .pointer none, .int .u64 0] (c * 6)) 75)) := by
  obtain ⟨i, hi, hz, hs, hby⟩ := info_parts75
  have hr := run_make (P := Ybaf.prog) w 64 75 i _ Ybaf.underlying64 hi hz .i64 .i64 (n : Int) (c : Int) (by omega) (by omega) (by rw [hby]; omega) (by omega)
  simpa only [Int.toNat_natCast, hs, Value.cells] using hr

theorem wpList_make_len {w : World} {ops : Array Oper} {rest : List Oper} {o : Oper} {a : Act} {Q : Exit → Act → World → Prop}
    (hg : o.guard = none) (l c : Operand) (hop : o.op = Op.makeSlice 64 l c) (n k : Nat) (hl : a.eval l = .int .i64 (n : Int)) (hc : a.eval c = .int .i64 (k : Int)) (hn : n ≤ k) (hk : k ≤ 4096)
    (hK : wpList Ybaf.prog ops Q rest (a.put o.dst (.slice (some ⟨w.heap.size, 0, none⟩) n k)) (w.alloc (.cells (madeCells #[.int .i64 0, .int .u8 0, .int .u64 0, .int .i64 0, .pointer none, .int .u64 0] (k * 6)) 75))) :
    wpList Ybaf.prog ops Q (o :: rest) a w := by
  refine wpList_plain hg fun K hK' => ?_
  have hrun := make_len hn hk w
  unfold Oper.wp
  simp [execOp, hop, hl, hc, hrun, Result.andThen]
  exact hK' _ _ hK

/-- A change stands in the row at place p. -/
def ChgAt (au : Array Value) (p : Nat) (k st n x q : Int) : Prop := au[p * 6]? = some (.int .i64 k) ∧ au[p * 6 + 1]? = some (.int .u8 st) ∧ au[p * 6 + 2]? = some (.int .u64 n) ∧ au[p * 6 + 3]? = some (.int .i64 x) ∧ au[p * 6 + 4]? = some (.pointer none) ∧ au[p * 6 + 5]? = some (.int .u64 q)

/-- The log's row and its slice's field, as they stand. -/
structure LS (C nb U o len made : Nat) (cs au : Array Value) (w : World) : Prop where
  node : w.heap[nb]? = some (.cells cs 68 (0, 0))
  csz : cs.size = 84
  unread : cs[79]? = some (.slice (some ⟨U, o * 6, none⟩) len (C - o))
  made : cs[80]? = some (.int .u64 (made : Int))
  row : w.heap[U]? = some (.cells au 75 (0, 0))
  asz : au.size = C * 6
  fit : o + len ≤ C

/-- What the log's taking of its oldest change leaves. -/
structure Taken (N C nb U o len made : Nat) (cs au : Array Value) (w w' : World) : Prop where
  ls : ∃ cs' au', LS C nb U (o + 1) (len - 1) made cs' au' w' ∧ (∀ i, i ≠ 79 → cs'[i]? = cs[i]?) ∧ ∀ j, (o + 1) * 6 ≤ j → au'[j]? = au[j]?
  rest : ∀ b, b < w.heap.size → b ≠ nb → b ≠ U → w'.heap[b]? = w.heap[b]?
  below : Below N w w'

theorem taken_of {N C nb U o len made : Nat} {cs au : Array Value} {w : World} (hN : N ≤ nb) (hN2 : N ≤ U) (hlen : 2 ≤ len) (h : LS C nb U o len made cs au w) (o1 o2 : Obj) :
    Taken N C nb U o len made cs au w (((((((((w.setCell ⟨U, o * 6, none⟩ (.int .i64 0)).setCell ⟨U, o * 6 + 1, none⟩ (.int .u8 0)).setCell ⟨U, o * 6 + 2, none⟩ (.int .u64 0)).setCell ⟨U, o * 6 + 3, none⟩ (.int .i64 0)).setCell ⟨U, o * 6 + 4, none⟩ (.pointer none)).setCell ⟨U, o * 6 + 5, none⟩ (.int .u64 0)).setCell ⟨nb, 79, none⟩ (.slice (some ⟨U, o * 6 + 6, none⟩) (len - 1) (C - o - 1))).alloc o1).alloc o2) := by
  obtain ⟨hnb, csz, c79, c80, hU, asz, fit⟩ := h
  have n1 : nb ≠ U := blk_ne hnb hU (by decide)
  have n2 : U ≠ nb := fun e => n1 e.symm
  have l1 : nb < w.heap.size := (Array.getElem?_eq_some_iff.1 hnb).1
  have l2 : U < w.heap.size := (Array.getElem?_eq_some_iff.1 hU).1
  have hB : ∀ v : World, Below v.heap.size v ((v.alloc o1).alloc o2) := fun v => ((Below.refl _ _).alloc (Nat.le_refl _) _).alloc (by simp) _
  have hsz : (((((((w.setCell ⟨U, o * 6, none⟩ (.int .i64 0)).setCell ⟨U, o * 6 + 1, none⟩ (.int .u8 0)).setCell ⟨U, o * 6 + 2, none⟩ (.int .u64 0)).setCell ⟨U, o * 6 + 3, none⟩ (.int .i64 0)).setCell ⟨U, o * 6 + 4, none⟩ (.pointer none)).setCell ⟨U, o * 6 + 5, none⟩ (.int .u64 0)).setCell ⟨nb, 79, none⟩ (.slice (some ⟨U, o * 6 + 6, none⟩) (len - 1) (C - o - 1))).heap.size = w.heap.size := by simp [World.setCell]
  refine ⟨⟨cs.setIfInBounds 79 (.slice (some ⟨U, o * 6 + 6, none⟩) (len - 1) (C - o - 1)), (((((au.setIfInBounds (o * 6) (.int .i64 0)).setIfInBounds (o * 6 + 1) (.int .u8 0)).setIfInBounds (o * 6 + 2) (.int .u64 0)).setIfInBounds (o * 6 + 3) (.int .i64 0)).setIfInBounds (o * 6 + 4) (.pointer none)).setIfInBounds (o * 6 + 5) (.int .u64 0), ⟨?_, ?_, ?_, ?_, ?_, ?_, ?_⟩, ?_, ?_⟩, ?_, ?_⟩
  · refine ((hB _).block nb (by rw [hsz]; exact l1)).trans (heap_set ?_)
    rw [Below.heap_setCell _ _ _ _ n1, Below.heap_setCell _ _ _ _ n1, Below.heap_setCell _ _ _ _ n1, Below.heap_setCell _ _ _ _ n1, Below.heap_setCell _ _ _ _ n1, Below.heap_setCell _ _ _ _ n1]
    exact hnb
  · simpa using csz
  · rw [Array.getElem?_setIfInBounds_self_of_lt (by omega), Nat.succ_mul, Nat.sub_sub]
  · rw [Array.getElem?_setIfInBounds_ne (by decide)]; exact c80
  · refine ((hB _).block U (by rw [hsz]; exact l2)).trans ((Below.heap_setCell _ _ _ _ n2).trans ?_)
    exact heap_set (heap_set (heap_set (heap_set (heap_set (heap_set hU)))))
  · simpa using asz
  · omega
  · intro i hi
    rw [Array.getElem?_setIfInBounds_ne (by omega)]
  · intro j hj
    rw [Array.getElem?_setIfInBounds_ne (by omega), Array.getElem?_setIfInBounds_ne (by omega), Array.getElem?_setIfInBounds_ne (by omega), Array.getElem?_setIfInBounds_ne (by omega), Array.getElem?_setIfInBounds_ne (by omega), Array.getElem?_setIfInBounds_ne (by omega)]
  · intro b hb h1 h2
    rw [(hB _).block b (by rw [hsz]; exact hb), Below.heap_setCell _ _ _ _ h1, Below.heap_setCell _ _ _ _ h2, Below.heap_setCell _ _ _ _ h2, Below.heap_setCell _ _ _ _ h2, Below.heap_setCell _ _ _ _ h2, Below.heap_setCell _ _ _ _ h2, Below.heap_setCell _ _ _ _ h2]
  · have h7 : Below N w (((((((w.setCell ⟨U, o * 6, none⟩ (.int .i64 0)).setCell ⟨U, o * 6 + 1, none⟩ (.int .u8 0)).setCell ⟨U, o * 6 + 2, none⟩ (.int .u64 0)).setCell ⟨U, o * 6 + 3, none⟩ (.int .i64 0)).setCell ⟨U, o * 6 + 4, none⟩ (.pointer none)).setCell ⟨U, o * 6 + 5, none⟩ (.int .u64 0)).setCell ⟨nb, 79, none⟩ (.slice (some ⟨U, o * 6 + 6, none⟩) (len - 1) (C - o - 1))) :=
      (((((((Below.refl N w).setCell (p := ⟨U, o * 6, none⟩) hN2 _).setCell (p := ⟨U, o * 6 + 1, none⟩) hN2 _).setCell (p := ⟨U, o * 6 + 2, none⟩) hN2 _).setCell (p := ⟨U, o * 6 + 3, none⟩) hN2 _).setCell (p := ⟨U, o * 6 + 4, none⟩) hN2 _).setCell (p := ⟨U, o * 6 + 5, none⟩) hN2 _).setCell (p := ⟨nb, 79, none⟩) hN _
    exact h7.trans ((hB _).mono (by rw [hsz]; omega))

set_option maxHeartbeats 4000000 in
theorem take_any (N C nb U o len made : Nat) (cs au : Array Value) (w : World) (hN : N ≤ nb) (hN2 : N ≤ U) (hlen : 2 ≤ len) (h : LS C nb U o len made cs au w) (k st n x q : Int) (hE : ChgAt au o k st n x q) :
    Calls Ybaf.prog 24 #[.pointer (some ⟨nb, 79, none⟩)] w fun e w' => (∃ v, e = .returned v) ∧ Taken N C nb U o len made cs au w w' := by
  have HLS : Hid (LS C nb U o len made cs au w) := h
  obtain ⟨hnb, csz, c79, c80, hU, asz, fit⟩ := h
  have n1 : nb ≠ U := blk_ne hnb hU (by decide)
  have n2 : U ≠ nb := fun e => n1 e.symm
  have l1 : nb < w.heap.size := (Array.getElem?_eq_some_iff.1 hnb).1
  have l2 : U < w.heap.size := (Array.getElem?_eq_some_iff.1 hU).1
  have d79 : w.cell? ⟨nb, 79, none⟩ = _ := (cell_of_blk hnb _).trans c79
  obtain ⟨e0, e1, e2, e3, e4, e5⟩ := hE
  have u0 : w.cell? ⟨U, o * 6, none⟩ = _ := (cell_of_blk hU _).trans e0
  have u1 : w.cell? ⟨U, o * 6 + 1, none⟩ = _ := (cell_of_blk hU _).trans e1
  have u2 : w.cell? ⟨U, o * 6 + 2, none⟩ = _ := (cell_of_blk hU _).trans e2
  have u3 : w.cell? ⟨U, o * 6 + 3, none⟩ = _ := (cell_of_blk hU _).trans e3
  have u4 : w.cell? ⟨U, o * 6 + 4, none⟩ = _ := (cell_of_blk hU _).trans e4
  have u5 : w.cell? ⟨U, o * 6 + 5, none⟩ = _ := (cell_of_blk hU _).trans e5
  have z79 := frozen_of_blk hnb 79
  have zU : ∀ i, w.frozen? ⟨U, i, none⟩ = false := frozen_of_blk hU
  clear hnb hU c79 c80 csz asz e0 e1 e2 e3 e4 e5
  go_enter Ybaf.func24, Ybaf.ntmps24
  go_wp2
  refine bodyPost_ret (v := .tuple #[.agg #[.int .i64 k, .int .u8 st, .int .u64 n, .int .i64 x, .pointer none, .int .u64 q], .bool true]) (by simp [results, Ybaf.results24, go_sem]) rfl ⟨⟨_, rfl⟩, ?_⟩
  exact taken_of hN hN2 hlen HLS.out _ _

end Go.Proofs.YbulkcmxgFmt
