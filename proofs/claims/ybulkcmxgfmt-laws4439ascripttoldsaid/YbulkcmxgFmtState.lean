import Derived.Test.YbulkcmxgFmtTwo
import Derived.OwnWalk
namespace Go.Proofs.YbulkcmxgFmt
open Go.RowKit

/-- The steps as they lie in memory. -/
def StepsAt (ao : Option Addr) (L : Nat) (w : World) : Prop := ∀ i, i < L → ∃ (sb soff K was : Nat) (f g b : Bool) (T : Int), ao = some ⟨sb, soff, none⟩ ∧ sb < w.heap.size ∧ K ≤ 255 ∧ was ≤ 255 ∧ -9223372036854775808 ≤ T ∧ T ≤ 9223372036854775807 ∧
  w.cell? ⟨sb, soff + i * 6, none⟩ = some (.int .u8 K) ∧ w.cell? ⟨sb, soff + i * 6 + 1, none⟩ = some (.bool f) ∧ w.cell? ⟨sb, soff + i * 6 + 2, none⟩ = some (.bool g) ∧ w.cell? ⟨sb, soff + i * 6 + 3, none⟩ = some (.bool b) ∧ w.cell? ⟨sb, soff + i * 6 + 4, none⟩ = some (.int .u8 was) ∧ w.cell? ⟨sb, soff + i * 6 + 5, none⟩ = some (.int .i64 T)

/-- The state between two steps. -/
structure SInv (N C nb gf gg U V m : Nat) (s : Int) (o len made : Nat) (cs au av : Array Value) (w : World) : Prop where
  ls : LS C nb U o len made cs au w
  c0 : cs[0]? = some (.int .i64 s)
  c71 : cs[71]? = some (.slice (some ⟨gf, 0, none⟩) m m)
  c73 : cs[73]? = some (.slice (some ⟨gg, 0, none⟩) m m)
  rV : w.heap[V]? = some (.cells av 75 (0, 0))
  sV : av.size = C * 6
  same : ∀ p, o ≤ p → p < o + len → SameAt au av p
  rf : Rw w N gf 4 m
  rg : Rw w N gg 4 m
  nfg : gf ≠ gg
  nUV : U ≠ V
  nN : N ≤ nb
  nU : N ≤ U
  nV : N ≤ V

theorem LS.mono {C nb U o len made : Nat} {cs au : Array Value} {w w' : World} (h : LS C nb U o len made cs au w) (hB : Below w.heap.size w w') : LS C nb U o len made cs au w' :=
  ⟨(hB.block nb (Array.getElem?_eq_some_iff.1 h.node).1).trans h.node, h.csz, h.unread, h.made, (hB.block U (Array.getElem?_eq_some_iff.1 h.row).1).trans h.row, h.asz, h.fit⟩
theorem SInv.mono {N C nb gf gg U V m : Nat} {s : Int} {o len made : Nat} {cs au av : Array Value} {w w' : World} (h : SInv N C nb gf gg U V m s o len made cs au av w) (hB : Below w.heap.size w w') : SInv N C nb gf gg U V m s o len made cs au av w' :=
  { h with ls := h.ls.mono hB, rV := (hB.block V (Array.getElem?_eq_some_iff.1 h.rV).1).trans h.rV, rf := h.rf.mono hB, rg := h.rg.mono hB }

theorem pre_below {U V i : Nat} {w1 w : World} {k q : Int} {ob : Obj} (hUV : U ≤ V) (hw : U ≤ w.heap.size) (h : Below U w1 w) :
    Below U w1 (((w.setCells U (i * 6) (chgL k 0 0 0 q)).setCells V (i * 6) (chgL k 0 0 0 q)).alloc ob) := by
  have h1 := below_setCells (a := w) hUV (chgL k 0 0 0 q) (i * 6) _ (below_setCells (a := w) (Nat.le_refl U) (chgL k 0 0 0 q) (i * 6) w (Below.refl U w))
  exact (h.trans h1).alloc (Nat.le_trans hw h1.size) ob

/-- The state when the steps begin. -/
theorem sinv_start {N C P nb gf gg U V m : Nat} {s : Int} {au av : Array Value} {w1 w : World} (hN : NodeOk N m s nb gf gg w1) (hU : w1.heap.size = U) (hUV : U ≤ V) (hB : Below U w1 w) (hP : P ≤ C) (h : Two C U V 0 P au av w) (h0 : N ≤ U) :
    ∃ cs, SInv N C nb gf gg U V m s 0 P P cs au av ((w.setCell ⟨nb, 79, none⟩ (.slice (some ⟨U, 0, none⟩) P C)).setCell ⟨nb, 80, none⟩ (.int .u64 (P : Int))) := by
  obtain ⟨hnN, cs, hnb, csz, c0, c71, c73, c79, c80⟩ := hN.node
  obtain ⟨rU, rV, sU, sV, ne, same⟩ := h
  have l1 : nb < U := by rw [← hU]; exact (Array.getElem?_eq_some_iff.1 hnb).1
  have hnb' := (hB.block nb l1).trans hnb
  refine ⟨(cs.setIfInBounds 79 (.slice (some ⟨U, 0, none⟩) P C)).setIfInBounds 80 (.int .u64 (P : Int)), ⟨⟨heap_set (heap_set hnb'), by simpa using csz, ?_, ?_, ?_, sU, by omega⟩, ?_, ?_, ?_, ?_, sV, ?_, ?_, ?_, hN.ne, ne, hnN, h0, by omega⟩⟩
  · rw [Array.getElem?_setIfInBounds_ne (by decide), Array.getElem?_setIfInBounds_self_of_lt (by omega)]; simp
  · rw [Array.getElem?_setIfInBounds_self_of_lt (by simp; omega)]
  · rw [Below.heap_setCell _ _ _ _ (by show U ≠ nb; omega), Below.heap_setCell _ _ _ _ (by show U ≠ nb; omega)]; exact rU
  · rw [Array.getElem?_setIfInBounds_ne (by decide), Array.getElem?_setIfInBounds_ne (by decide)]; exact c0
  · rw [Array.getElem?_setIfInBounds_ne (by decide), Array.getElem?_setIfInBounds_ne (by decide)]; exact c71
  · rw [Array.getElem?_setIfInBounds_ne (by decide), Array.getElem?_setIfInBounds_ne (by decide)]; exact c73
  · rw [Below.heap_setCell _ _ _ _ (by show V ≠ nb; omega), Below.heap_setCell _ _ _ _ (by show V ≠ nb; omega)]; exact rV
  · intro p hp hp2; exact same p (Nat.zero_le _) (by omega)
  · obtain ⟨a0, arr, a1, a2⟩ := hN.rf
    exact (Rw.set (Rw.set ⟨a0, arr, (hB.block gf (by rw [← hU]; exact (Array.getElem?_eq_some_iff.1 a1).1)).trans a1, a2⟩))
  · obtain ⟨a0, arr, a1, a2⟩ := hN.rg
    exact (Rw.set (Rw.set ⟨a0, arr, (hB.block gg (by rw [← hU]; exact (Array.getElem?_eq_some_iff.1 a1).1)).trans a1, a2⟩))

abbrev madeRow (C : Nat) : Obj := .cells (madeCells #[.int .i64 0, .int .u8 0, .int .u64 0, .int .i64 0, .pointer none, .int .u64 0] (C * 6)) 75

theorem two_new (C : Nat) (w : World) : ∃ au av, Two C w.heap.size (w.heap.size + 1) 0 0 au av ((w.alloc (madeRow C)).alloc (madeRow C)) := by
  refine ⟨madeCells #[.int .i64 0, .int .u8 0, .int .u64 0, .int .i64 0, .pointer none, .int .u64 0] (C * 6), madeCells #[.int .i64 0, .int .u8 0, .int .u64 0, .int .i64 0, .pointer none, .int .u64 0] (C * 6), ⟨(Below.heap_alloc _ _ _ (by simp)).trans (heap_alloc_new w _), ?_, size_madeCells _ _, size_madeCells _ _, by omega, fun p _ h => by omega⟩⟩
  have := heap_alloc_new (w.alloc (madeRow C)) (madeRow C)
  simpa using this

/-- The marks of one step, laid. -/
theorem SInv.marks {N C nb gf gg U V m : Nat} {s : Int} {o len made : Nat} {cs au av : Array Value} {w : World} (h : SInv N C nb gf gg U V m s o len made cs au av w) {k : Nat} (hk : k < m) (f g bh : Bool) {W : World}
    (hW : W = ((((w.setCell ⟨gf, k, none⟩ (.bool f)).setCell ⟨gg, k, none⟩ (.bool g)).setCell ⟨nb, 78, none⟩ (.bool bh)).drew.drew)) :
    SInv N C nb gf gg U V m s o len made (cs.setIfInBounds 78 (.bool bh)) au av W ∧ W.cell? ⟨gf, k, none⟩ = some (.bool f) ∧ W.cell? ⟨gg, k, none⟩ = some (.bool g) ∧ (cs.setIfInBounds 78 (.bool bh))[78]? = some (.bool bh) ∧ Below N w W ∧ ∀ b, b ≠ nb → b ≠ gf → b ≠ gg → W.heap[b]? = w.heap[b]? := by
  subst hW
  obtain ⟨⟨hnb, csz, c79, c80, hU, asz, fit⟩, c0, c71, c73, rV, sV, same, ⟨hfN, af, hfb, hfs⟩, ⟨hgN, ag, hgb, hgs⟩, nfg, nUV, nN, nU, nV⟩ := h
  have n1 : nb ≠ gf := blk_ne hnb hfb (by decide)
  have n2 : nb ≠ gg := blk_ne hnb hgb (by decide)
  have n1' : gf ≠ nb := fun e => n1 e.symm
  have n2' : gg ≠ nb := fun e => n2 e.symm
  have q1 : U ≠ nb := fun e => blk_ne hnb hU (by decide) e.symm
  have q2 : U ≠ gf := blk_ne hU hfb (by decide)
  have q3 : U ≠ gg := blk_ne hU hgb (by decide)
  have r1 : V ≠ nb := fun e => blk_ne hnb rV (by decide) e.symm
  have r2 : V ≠ gf := blk_ne rV hfb (by decide)
  have r3 : V ≠ gg := blk_ne rV hgb (by decide)
  have far : ∀ b, b ≠ nb → b ≠ gf → b ≠ gg → ((((w.setCell ⟨gf, k, none⟩ (.bool f)).setCell ⟨gg, k, none⟩ (.bool g)).setCell ⟨nb, 78, none⟩ (.bool bh)).drew.drew).heap[b]? = w.heap[b]? := fun b h1 h2 h3 =>
    (Below.heap_setCell _ _ _ _ h1).trans ((Below.heap_setCell _ _ _ _ h3).trans (Below.heap_setCell _ _ _ _ h2))
  have e2 : ((((w.setCell ⟨gf, k, none⟩ (.bool f)).setCell ⟨gg, k, none⟩ (.bool g)).setCell ⟨nb, 78, none⟩ (.bool bh)).drew.drew).heap[gf]? = some (.cells (af.setIfInBounds k (.bool f)) 4 (0, 0)) :=
    (Below.heap_setCell _ _ _ _ n1').trans ((Below.heap_setCell _ _ _ _ nfg).trans (heap_set hfb))
  have e3 : ((((w.setCell ⟨gf, k, none⟩ (.bool f)).setCell ⟨gg, k, none⟩ (.bool g)).setCell ⟨nb, 78, none⟩ (.bool bh)).drew.drew).heap[gg]? = some (.cells (ag.setIfInBounds k (.bool g)) 4 (0, 0)) :=
    (Below.heap_setCell _ _ _ _ n2').trans (heap_set ((Below.heap_setCell _ _ _ _ (fun e => nfg e.symm)).trans hgb))
  refine ⟨⟨⟨heap_set ((Below.heap_setCell _ _ _ _ n2).trans ((Below.heap_setCell _ _ _ _ n1).trans hnb)), by simpa using csz, ?_, ?_, (far U q1 q2 q3).trans hU, asz, fit⟩, ?_, ?_, ?_, (far V r1 r2 r3).trans rV, sV, same, ⟨hfN, _, e2, by simpa using hfs⟩, ⟨hgN, _, e3, by simpa using hgs⟩, nfg, nUV, nN, nU, nV⟩, ?_, ?_, ?_, ?_, far⟩
  · rw [Array.getElem?_setIfInBounds_ne (by decide)]; exact c79
  · rw [Array.getElem?_setIfInBounds_ne (by decide)]; exact c80
  · rw [Array.getElem?_setIfInBounds_ne (by decide)]; exact c0
  · rw [Array.getElem?_setIfInBounds_ne (by decide)]; exact c71
  · rw [Array.getElem?_setIfInBounds_ne (by decide)]; exact c73
  · exact (cell_of_blk e2 _).trans (Array.getElem?_setIfInBounds_self_of_lt (by omega))
  · exact (cell_of_blk e3 _).trans (Array.getElem?_setIfInBounds_self_of_lt (by omega))
  · exact Array.getElem?_setIfInBounds_self_of_lt (by omega)
  · exact ((((((Below.refl N w).setCell (p := ⟨gf, k, none⟩) hfN _).setCell (p := ⟨gg, k, none⟩) hgN _).setCell (p := ⟨nb, 78, none⟩) nN _).drew)).drew

/-- The time of one step, laid. -/
theorem SInv.stamp {N C nb gf gg U V m : Nat} {s : Int} {o len made : Nat} {cs au av : Array Value} {w : World} (h : SInv N C nb gf gg U V m s o len made cs au av w) {bh : Bool} (h78 : cs[78]? = some (.bool bh)) (n x : Int) (ob : Obj) {W : World}
    (hW : W = ((((w.setCell ⟨nb, 81, none⟩ (.int .u64 n)).setCell ⟨nb, 82, none⟩ (.int .i64 x)).setCell ⟨nb, 83, none⟩ (.pointer none)).alloc ob)) :
    ∃ cs3, SInv N C nb gf gg U V m s o len made cs3 au av W ∧ Ready cs3 m gf gg s bh n x ∧ W.heap[w.heap.size]? = some ob ∧ Below N w W ∧ ∀ b, b < w.heap.size → b ≠ nb → W.heap[b]? = w.heap[b]? := by
  subst hW
  obtain ⟨⟨hnb, csz, c79, c80, hU, asz, fit⟩, c0, c71, c73, rV, sV, same, ⟨hfN, af, hfb, hfs⟩, ⟨hgN, ag, hgb, hgs⟩, nfg, nUV, nN, nU, nV⟩ := h
  have hsz : (((w.setCell ⟨nb, 81, none⟩ (.int .u64 n)).setCell ⟨nb, 82, none⟩ (.int .i64 x)).setCell ⟨nb, 83, none⟩ (.pointer none)).heap.size = w.heap.size := by simp [World.setCell]
  have l0 : nb < w.heap.size := (Array.getElem?_eq_some_iff.1 hnb).1
  have far : ∀ b, b < w.heap.size → b ≠ nb → ((((w.setCell ⟨nb, 81, none⟩ (.int .u64 n)).setCell ⟨nb, 82, none⟩ (.int .i64 x)).setCell ⟨nb, 83, none⟩ (.pointer none)).alloc ob).heap[b]? = w.heap[b]? := fun b hb h1 =>
    (Below.heap_alloc _ _ _ (by rw [hsz]; exact hb)).trans ((Below.heap_setCell _ _ _ _ h1).trans ((Below.heap_setCell _ _ _ _ h1).trans (Below.heap_setCell _ _ _ _ h1)))
  have lt : ∀ {b : Nat} {c : Obj}, w.heap[b]? = some c → b < w.heap.size := fun hb => (Array.getElem?_eq_some_iff.1 hb).1
  have low : ∀ i, i < 81 → (((cs.setIfInBounds 81 (.int .u64 n)).setIfInBounds 82 (.int .i64 x)).setIfInBounds 83 (.pointer none))[i]? = cs[i]? := fun i hi => by
    rw [Array.getElem?_setIfInBounds_ne (by omega), Array.getElem?_setIfInBounds_ne (by omega), Array.getElem?_setIfInBounds_ne (by omega)]
  refine ⟨((cs.setIfInBounds 81 (.int .u64 n)).setIfInBounds 82 (.int .i64 x)).setIfInBounds 83 (.pointer none), ⟨⟨(Below.heap_alloc _ _ _ (by rw [hsz]; exact l0)).trans (heap_set (heap_set (heap_set hnb))), by simpa using csz, (low 79 (by decide)).trans c79, (low 80 (by decide)).trans c80, (far U (lt hU) (fun e => blk_ne hnb hU (by decide) e.symm)).trans hU, asz, fit⟩, (low 0 (by decide)).trans c0, (low 71 (by decide)).trans c71, (low 73 (by decide)).trans c73, (far V (lt rV) (fun e => blk_ne hnb rV (by decide) e.symm)).trans rV, sV, same, ⟨hfN, af, (far gf (lt hfb) (fun e => blk_ne hnb hfb (by decide) e.symm)).trans hfb, hfs⟩, ⟨hgN, ag, (far gg (lt hgb) (fun e => blk_ne hnb hgb (by decide) e.symm)).trans hgb, hgs⟩, nfg, nUV, nN, nU, nV⟩, ⟨(low 0 (by decide)).trans c0, (low 71 (by decide)).trans c71, (low 73 (by decide)).trans c73, (low 78 (by decide)).trans h78, ?_, ?_, ?_⟩, ?_, ?_, far⟩
  · simp [csz]
  · simp [csz]
  · simp [csz]
  · have := heap_alloc_new (((w.setCell ⟨nb, 81, none⟩ (.int .u64 n)).setCell ⟨nb, 82, none⟩ (.int .i64 x)).setCell ⟨nb, 83, none⟩ (.pointer none)) ob
    rw [hsz] at this; exact this
  · exact ((((Below.refl N w).setCell (p := ⟨nb, 81, none⟩) nN _).setCell (p := ⟨nb, 82, none⟩) nN _).setCell (p := ⟨nb, 83, none⟩) nN _).alloc (by rw [hsz]; omega) ob

/-- One change more in both rows. -/
theorem SInv.step {N C nb gf gg U V m : Nat} {s : Int} {o len made : Nat} {cs au av : Array Value} {k st n x : Int} {w w' : World} {ob : Obj} (h : SInv N C nb gf gg U V m s o len made cs au av w) (hroom : o + len < C) (hn0 : 0 ≤ n) (hn1 : n < 1073741824)
    (hA : Added N C nb U o len (nxtO o len) (nxtL len) made cs au k st n x w w') :
    ∃ cs' au' av', SInv N C nb gf gg U V m s (nxtO o len) (nxtL len) (made + 1) cs' au' av' ((w'.alloc ob).setCells V ((o + len) * 6) (chgL k st n x ((made : Int) + 1))) := by
  obtain ⟨⟨cs', au', hL, q1, q2, q3⟩, hr, hb⟩ := hA
  obtain ⟨hls, c0, c71, c73, rV, sV, same, ⟨hfN, af, hfb, hfs⟩, ⟨hgN, ag, hgb, hgs⟩, nfg, nUV, nN, nU, nV⟩ := h
  have lt : ∀ {b : Nat} {c : Obj}, w.heap[b]? = some c → b < w.heap.size := fun hb => (Array.getElem?_eq_some_iff.1 hb).1
  have hsz := hb.size
  have nVn : V ≠ nb := fun e => blk_ne hls.node rV (by decide) e.symm
  have nVU : V ≠ U := fun e => nUV e.symm
  have old : ∀ b, b < w.heap.size → b ≠ nb → b ≠ U → b ≠ V → ((w'.alloc ob).setCells V ((o + len) * 6) (chgL k st n x ((made : Int) + 1))).heap[b]? = w.heap[b]? := fun b h0 h1 h2 h3 =>
    (setCells_far h3 _ _ _).trans ((Below.heap_alloc _ _ _ (by omega)).trans (hr b h0 h1 h2))
  have rV' : (w'.alloc ob).heap[V]? = some (.cells av 75 (0, 0)) := (Below.heap_alloc _ _ _ (by have := lt rV; omega)).trans ((hr V (lt rV) nVn nVU).trans rV)
  obtain ⟨av', a1, a2, a3, a4⟩ := setCells_blk V 75 (chgL k st n x ((made : Int) + 1)) ((o + len) * 6) (w'.alloc ob) av rV'
  have l1 : nb < w'.heap.size := (Array.getElem?_eq_some_iff.1 hL.node).1
  have l2 : U < w'.heap.size := (Array.getElem?_eq_some_iff.1 hL.row).1
  have ho : o ≤ nxtO o len := by unfold nxtO; split <;> omega
  have hol : nxtO o len + nxtL len = o + len + 1 := by unfold nxtO nxtL; split <;> omega
  refine ⟨cs', au', av', ⟨⟨(setCells_far (fun e => nVn e.symm) _ _ _).trans ((Below.heap_alloc _ _ _ l1).trans hL.node), hL.csz, hL.unread, hL.made, (setCells_far nUV _ _ _).trans ((Below.heap_alloc _ _ _ l2).trans hL.row), hL.asz, hL.fit⟩, (q1 0 (by decide) (by decide)).trans c0, (q1 71 (by decide) (by decide)).trans c71, (q1 73 (by decide) (by decide)).trans c73, a1, by rw [a2]; exact sV, fun p hp hp2 => ?_,
    ⟨hfN, af, (old gf (lt hfb) (fun e => blk_ne hls.node hfb (by decide) e.symm) (fun e => blk_ne hls.row hfb (by decide) e.symm) (fun e => blk_ne rV hfb (by decide) e.symm)).trans hfb, hfs⟩, ⟨hgN, ag, (old gg (lt hgb) (fun e => blk_ne hls.node hgb (by decide) e.symm) (fun e => blk_ne hls.row hgb (by decide) e.symm) (fun e => blk_ne rV hgb (by decide) e.symm)).trans hgb, hgs⟩, nfg, nUV, nN, nU, nV⟩⟩
  by_cases hpe : p = o + len
  · subst hpe
    refine ⟨k, st, n, x, (made : Int) + 1, hn0, hn1, q3, a4 0 _ rfl (by omega), a4 1 _ rfl (by omega), a4 2 _ rfl (by omega), a4 3 _ rfl (by omega), a4 4 _ rfl (by omega), a4 5 _ rfl (by omega)⟩
  · obtain ⟨k', st', n', x', q', h0, h1, ⟨c0, c1, c2, c3, c4, c5⟩, d0, d1, d2, d3, d4, d5⟩ := same p (by omega) (by omega)
    exact ⟨k', st', n', x', q', h0, h1, ⟨(q2 _ (by omega) (by omega)).trans c0, (q2 _ (by omega) (by omega)).trans c1, (q2 _ (by omega) (by omega)).trans c2, (q2 _ (by omega) (by omega)).trans c3, (q2 _ (by omega) (by omega)).trans c4, (q2 _ (by omega) (by omega)).trans c5⟩,
      (a3 _ (by omega)).trans d0, (a3 _ (by omega)).trans d1, (a3 _ (by omega)).trans d2, (a3 _ (by omega)).trans d3, (a3 _ (by omega)).trans d4, (a3 _ (by omega)).trans d5⟩

theorem wpList_append_room {w : World} {ops : Array Oper} {rest : List Oper} {o : Oper} {a : Act} {Q : Exit → Act → World → Prop} (hg : o.guard = none) (s x : Operand) (t : TypeId) (hop : o.op = Op.call { callee := Callee.builtin Builtin.append, args := #[s, x], argTypes := #[t, t] })
    (e : TypeId) (i : TypeInfo) (size : Nat) (h1 : Ybaf.prog.underlying t = some (.slice e)) (h2 : Ybaf.prog.info? e = some i) (h4 : i.size = size)
    (b off n cap : Nat) (hs : a.eval s = .slice (some ⟨b, off, none⟩) n cap)
    (ad : Addr) (m c : Nat) (news : List Value) (hx : a.eval x = .slice (some ad) m c) (hn : news.length = m * size) (hc : ∀ j u, news[j]? = some u → w.cell? (ad.add j) = some u) (h1c : ∀ u ∈ news, u.oneCell' = true)
    (hroom : n + m ≤ cap) (hspare : ∀ j, j < news.length → (w.cell? ⟨b, off + n * size + j, none⟩).isSome = true ∧ w.frozen? ⟨b, off + n * size + j, none⟩ = false)
    (hK : wpList Ybaf.prog ops Q rest (a.put o.dst (.slice (some ⟨b, off, none⟩) (n + m) cap)) (w.setCells b (off + n * size) news)) : wpList Ybaf.prog ops Q (o :: rest) a w := by
  refine wpList_plain hg fun K hK' => ?_
  subst h4
  have hrun := run_append_room_cells (P := Ybaf.prog) w t o.type e i h1 h2 b off n cap ad m c news hn hc h1c hroom (fun j hj => (hspare j hj).1) (fun j hj => (hspare j hj).2)
  unfold Oper.wp
  simp [execOp, hop, resolve, invoke, builtin, hs, hx, hrun, Result.andThen]
  exact hK' _ _ hK

end Go.Proofs.YbulkcmxgFmt
