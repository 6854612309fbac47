import Derived.Test.YbulkcmxgFmtLog
namespace Go.Proofs.YbulkcmxgFmt
open Go.RowKit

set_option maxHeartbeats 4000000 in
set_option maxRecDepth 100000 in
theorem one_any (a b c q : Nat) (f g bh : Bool) (t : Int) (w : World) (ha : a ≤ 255) (hb : b ≤ 255) (hc : c ≤ 255) (hq : q ≤ 255) (t0 : -9223372036854775808 ≤ t) (t1 : t ≤ 9223372036854775807) (hp : PaceAt w) :
    Calls Ybaf.prog 3 #[.int .u8 (a : Int), .int .u8 (b : Int), .int .u8 (c : Int), .bool f, .bool g, .bool bh, .int .u8 (q : Int), .int .i64 t] w fun e w' => e = .returned (.bool true) ∧ Below w.heap.size w w' := by
  have HP : Hid (PaceAt w) := hp
  clear hp
  go_enter Ybaf.func3, Ybaf.ntmps3
  go_wp2_with fail
  generalize hm : (1 + (a : Int) % 8) = M
  obtain ⟨m, rfl⟩ : ∃ m : Nat, M = m := ⟨M.toNat, by omega⟩
  have hm1 : 1 ≤ m := by omega
  have hm8 : m ≤ 8 := by omega
  have hmp : (0 : Int) < m := by omega
  generalize hs : (b : Int) % (m : Int) = s
  have hs0 : 0 ≤ s := by rw [← hs]; exact Int.emod_nonneg _ (by omega)
  have hs1 : s < m := by rw [← hs]; exact Int.emod_lt_of_pos _ hmp
  generalize hk : (c : Int) % (m : Int) = kI
  have hk0 : 0 ≤ kI := by rw [← hk]; exact Int.emod_nonneg _ (by omega)
  have hk1 : kI < m := by rw [← hk]; exact Int.emod_lt_of_pos _ hmp
  obtain ⟨k, rfl⟩ : ∃ k : Nat, kI = k := ⟨kI.toNat, by omega⟩
  have hkm : k < m := by omega
  refine (newNode_any s m w hm1 hm8 hs0 hs1 HP.out).mono ?_
  rintro e w1 ⟨nb, gf, gg, rfl, hN, hB1⟩
  obtain ⟨hnN, cs, hnb, csz, c0, c71, c73, c79, c80⟩ := hN.node
  obtain ⟨hfN, af, hfb, hfs⟩ := hN.rf
  obtain ⟨hgN, ag, hgb, hgs⟩ := hN.rg
  have n1 : nb ≠ gf := blk_ne hnb hfb (by decide)
  have n2 : nb ≠ gg := blk_ne hnb hgb (by decide)
  have n3 : gf ≠ gg := hN.ne
  have n1' : gf ≠ nb := fun e => n1 e.symm
  have n2' : gg ≠ nb := fun e => n2 e.symm
  have n3' : gg ≠ gf := fun e => n3 e.symm
  have d71 : w1.cell? ⟨nb, 71, none⟩ = _ := (cell_of_blk hnb _).trans c71
  have d73 : w1.cell? ⟨nb, 73, none⟩ = _ := (cell_of_blk hnb _).trans c73
  have d78 : w1.cell? ⟨nb, 78, none⟩ = _ := (cell_of_blk hnb _).trans (Array.getElem?_eq_getElem (by omega : 78 < cs.size))
  have df : w1.cell? ⟨gf, k, none⟩ = _ := (cell_of_blk hfb _).trans (Array.getElem?_eq_getElem (by omega : k < af.size))
  have dg : w1.cell? ⟨gg, k, none⟩ = _ := (cell_of_blk hgb _).trans (Array.getElem?_eq_getElem (by omega : k < ag.size))
  have z1 := frozen_of_blk hnb 78
  have z2 := frozen_of_blk hfb k
  have z3 := frozen_of_blk hgb k
  go_wp2_with fail
  have e1 : ((((w1.setCell ⟨gf, k, none⟩ (.bool f)).setCell ⟨gg, k, none⟩ (.bool g)).setCell ⟨nb, 78, none⟩ (.bool bh))).heap[nb]? = some (.cells (cs.setIfInBounds 78 (.bool bh)) 68 (0, 0)) :=
    heap_set ((Below.heap_setCell _ _ _ _ n2).trans ((Below.heap_setCell _ _ _ _ n1).trans hnb))
  have e2 : ((((w1.setCell ⟨gf, k, none⟩ (.bool f)).setCell ⟨gg, k, none⟩ (.bool g)).setCell ⟨nb, 78, none⟩ (.bool bh))).heap[gf]? = some (.cells (af.setIfInBounds k (.bool f)) 4 (0, 0)) :=
    (Below.heap_setCell _ _ _ _ n1').trans ((Below.heap_setCell _ _ _ _ n3).trans (heap_set hfb))
  have e3 : ((((w1.setCell ⟨gf, k, none⟩ (.bool f)).setCell ⟨gg, k, none⟩ (.bool g)).setCell ⟨nb, 78, none⟩ (.bool bh))).heap[gg]? = some (.cells (ag.setIfInBounds k (.bool g)) 4 (0, 0)) :=
    (Below.heap_setCell _ _ _ _ n2').trans (heap_set ((Below.heap_setCell _ _ _ _ n3').trans hgb))
  have e4 : Below w.heap.size w (((w1.setCell ⟨gf, k, none⟩ (.bool f)).setCell ⟨gg, k, none⟩ (.bool g)).setCell ⟨nb, 78, none⟩ (.bool bh)) :=
    ((hB1.setCell (p := ⟨gf, k, none⟩) hfN _).setCell (p := ⟨gg, k, none⟩) hgN _).setCell (p := ⟨nb, 78, none⟩) hnN _
  generalize (((w1.setCell ⟨gf, k, none⟩ (.bool f)).setCell ⟨gg, k, none⟩ (.bool g)).setCell ⟨nb, 78, none⟩ (.bool bh)) = w2 at e1 e2 e3 e4 ⊢
  clear d71 d73 d78 df dg z1 z2 z3 hnb hfb hgb hN hB1
  refine (add_any t w2 t0 t1).mono ?_
  rintro e w3 ⟨n, x, x0, x1, x2, x3, rfl, hB3⟩
  have e1' := (hB3.block nb (Array.getElem?_eq_some_iff.1 e1).1).trans e1
  have e2' := (hB3.block gf (Array.getElem?_eq_some_iff.1 e2).1).trans e2
  have e3' := (hB3.block gg (Array.getElem?_eq_some_iff.1 e3).1).trans e3
  have e4' := e4.trans (hB3.mono (Nat.le_trans e4.size (Nat.le_refl _)))
  clear e1 e2 e3 e4 hB3
  generalize hcs2 : cs.setIfInBounds 78 (.bool bh) = cs2 at e1'
  have cz2 : cs2.size = 84 := by rw [← hcs2]; simpa using csz
  have l1 : nb < w3.heap.size := (Array.getElem?_eq_some_iff.1 e1').1
  have d81 : w3.cell? ⟨nb, 81, none⟩ = _ := (cell_of_blk e1' _).trans (Array.getElem?_eq_getElem (by omega : 81 < cs2.size))
  have d82 : w3.cell? ⟨nb, 81 + 1, none⟩ = _ := (cell_of_blk e1' _).trans (Array.getElem?_eq_getElem (by omega : 82 < cs2.size))
  have d83 : w3.cell? ⟨nb, 81 + 2, none⟩ = _ := (cell_of_blk e1' _).trans (Array.getElem?_eq_getElem (by omega : 83 < cs2.size))
  have z1 := frozen_of_blk e1' 81
  have z2 : w3.frozen? ⟨nb, 81 + 1, none⟩ = false := frozen_of_blk e1' _
  have z3 : w3.frozen? ⟨nb, 81 + 2, none⟩ = false := frozen_of_blk e1' _
  go_wp2_with fail
  have g1 : ((((w3.setCell ⟨nb, 81, none⟩ (.int .u64 n)).setCell ⟨nb, 82, none⟩ (.int .i64 x)).setCell ⟨nb, 83, none⟩ (.pointer none)).alloc (.cells #[.int .u64 n, .int .i64 x, .pointer none] 38)).heap[nb]? = some (.cells (((cs2.setIfInBounds 81 (.int .u64 n)).setIfInBounds 82 (.int .i64 x)).setIfInBounds 83 (.pointer none)) 68 (0, 0)) :=
    (Below.heap_alloc _ _ _ (by simpa [World.setCell] using l1)).trans (heap_set (heap_set (heap_set e1')))
  have l2 : gf < w3.heap.size := (Array.getElem?_eq_some_iff.1 e2').1
  have l3 : gg < w3.heap.size := (Array.getElem?_eq_some_iff.1 e3').1
  have g2 : ((((w3.setCell ⟨nb, 81, none⟩ (.int .u64 n)).setCell ⟨nb, 82, none⟩ (.int .i64 x)).setCell ⟨nb, 83, none⟩ (.pointer none)).alloc (.cells #[.int .u64 n, .int .i64 x, .pointer none] 38)).heap[gf]? = _ :=
    (Below.heap_alloc _ _ _ (by simpa [World.setCell] using l2)).trans ((Below.heap_setCell _ _ _ _ n1').trans ((Below.heap_setCell _ _ _ _ n1').trans ((Below.heap_setCell _ _ _ _ n1').trans e2')))
  have g3 : ((((w3.setCell ⟨nb, 81, none⟩ (.int .u64 n)).setCell ⟨nb, 82, none⟩ (.int .i64 x)).setCell ⟨nb, 83, none⟩ (.pointer none)).alloc (.cells #[.int .u64 n, .int .i64 x, .pointer none] 38)).heap[gg]? = _ :=
    (Below.heap_alloc _ _ _ (by simpa [World.setCell] using l3)).trans ((Below.heap_setCell _ _ _ _ n2').trans ((Below.heap_setCell _ _ _ _ n2').trans ((Below.heap_setCell _ _ _ _ n2').trans e3')))
  have g4 : Below w.heap.size w ((((w3.setCell ⟨nb, 81, none⟩ (.int .u64 n)).setCell ⟨nb, 82, none⟩ (.int .i64 x)).setCell ⟨nb, 83, none⟩ (.pointer none)).alloc (.cells #[.int .u64 n, .int .i64 x, .pointer none] 38)) :=
    (((e4'.setCell (p := ⟨nb, 81, none⟩) hnN _).setCell (p := ⟨nb, 82, none⟩) hnN _).setCell (p := ⟨nb, 83, none⟩) hnN _).alloc (by simpa [World.setCell] using e4'.size) _
  have g5 : ((((w3.setCell ⟨nb, 81, none⟩ (.int .u64 n)).setCell ⟨nb, 82, none⟩ (.int .i64 x)).setCell ⟨nb, 83, none⟩ (.pointer none)).alloc (.cells #[.int .u64 n, .int .i64 x, .pointer none] 38)).heap[w3.heap.size]? = some (.cells #[.int .u64 n, .int .i64 x, .pointer none] 38 (0, 0)) := by
    have := heap_alloc_new (((w3.setCell ⟨nb, 81, none⟩ (.int .u64 n)).setCell ⟨nb, 82, none⟩ (.int .i64 x)).setCell ⟨nb, 83, none⟩ (.pointer none)) (.cells #[.int .u64 n, .int .i64 x, .pointer none] 38)
    simpa [World.setCell] using this
  generalize ((((w3.setCell ⟨nb, 81, none⟩ (.int .u64 n)).setCell ⟨nb, 82, none⟩ (.int .i64 x)).setCell ⟨nb, 83, none⟩ (.pointer none)).alloc (.cells #[.int .u64 n, .int .i64 x, .pointer none] 38)) = w4 at g1 g2 g3 g4 g5 ⊢
  have n4 : w3.heap.size ≠ nb := by omega
  generalize w3.heap.size = at' at g5 n4 ⊢
  have hR : Ready (((cs2.setIfInBounds 81 (.int .u64 n)).setIfInBounds 82 (.int .i64 x)).setIfInBounds 83 (.pointer none)) m gf gg s bh n x := by
    subst hcs2
    have far : ∀ i, i < 78 → (((((cs.setIfInBounds 78 (.bool bh)).setIfInBounds 81 (.int .u64 n)).setIfInBounds 82 (.int .i64 x)).setIfInBounds 83 (.pointer none)))[i]? = cs[i]? := fun i hi => by
      rw [Array.getElem?_setIfInBounds_ne (by omega), Array.getElem?_setIfInBounds_ne (by omega), Array.getElem?_setIfInBounds_ne (by omega), Array.getElem?_setIfInBounds_ne (by omega)]
    refine ⟨(far 0 (by decide)).trans c0, (far 71 (by decide)).trans c71, (far 73 (by decide)).trans c73, ?_, ?_, ?_, ?_⟩ <;> simp [csz]
  have h79 : (((cs2.setIfInBounds 81 (.int .u64 n)).setIfInBounds 82 (.int .i64 x)).setIfInBounds 83 (.pointer none))[79]? = some (.slice none 0 0) := by
    subst hcs2; simp [c79]
  have h80 : (((cs2.setIfInBounds 81 (.int .u64 n)).setIfInBounds 82 (.int .i64 x)).setIfInBounds 83 (.pointer none))[80]? = some (.int .u64 0) := by
    subst hcs2; simp [c80]
  have hz : (((cs2.setIfInBounds 81 (.int .u64 n)).setIfInBounds 82 (.int .i64 x)).setIfInBounds 83 (.pointer none)).size = 84 := by simpa using cz2
  generalize (((cs2.setIfInBounds 81 (.int .u64 n)).setIfInBounds 82 (.int .i64 x)).setIfInBounds 83 (.pointer none)) = cs3 at g1 hR h79 h80 hz
  have df : w4.cell? ⟨gf, k, none⟩ = some (.bool f) := (cell_of_blk g2 _).trans (by simp [hfs, hkm])
  have dg : w4.cell? ⟨gg, k, none⟩ = some (.bool g) := (cell_of_blk g3 _).trans (by simp [hgs, hkm])
  clear hcs2 cz2 c0 c71 c73 c79 c80 csz e1' e2' e3' e4' d81 d82 d83 z1 z2 z3 l1 l2 l3
  generalize hq4 : (q : Int) % 4 = was
  have q0 : 0 ≤ was := by omega
  have q1 : was < 4 := by omega
  clear hq4
  refine (log_nil nb gf gg m k s was n x f g bh cs3 w4 hkm g1 hR h79 h80 df dg).mono ?_
  have f0 : cs3[0]? = _ := hR.self
  have f71 : cs3[71]? = _ := hR.failed
  have f73 : cs3[73]? = _ := hR.givenUp
  have f78 : cs3[78]? = _ := hR.behind
  clear hR
  rintro e w5 ⟨rfl, ⟨hst, rfl⟩ | ⟨hst, gr, cap, hA⟩⟩
  · have d71 : w5.cell? ⟨nb, 71, none⟩ = _ := (cell_of_blk g1 _).trans f71
    have d73 : w5.cell? ⟨nb, 73, none⟩ = _ := (cell_of_blk g1 _).trans f73
    have d78 : w5.cell? ⟨nb, 78, none⟩ = _ := (cell_of_blk g1 _).trans f78
    have d79 : w5.cell? ⟨nb, 79, none⟩ = _ := (cell_of_blk g1 _).trans h79
    have d80 : w5.cell? ⟨nb, 80, none⟩ = _ := (cell_of_blk g1 _).trans h80
    clear g1 g2 g3 g5 f0 f71 f73 f78 h79 h80
    by_cases hks : (k : Int) = s
    · subst hks
      go_wp2_with fail
      refine (standing_any g bh f _).mono ?_
      rintro e w6 ⟨rfl, rfl⟩
      have hst' : stOf g bh f = was := by simpa using hst
      rw [hst']
      go_wp2
      go_ret
      exact ⟨rfl, g4⟩
    · go_wp2_with fail
      refine (standing_any g false f _).mono ?_
      rintro e w6 ⟨rfl, rfl⟩
      have hst' : stOf g false f = was := by simpa [hks] using hst
      rw [hst']
      go_wp2
      go_ret
      exact ⟨rfl, g4⟩
  · have g1' := hA.node
    have lf : gf < w4.heap.size := (Array.getElem?_eq_some_iff.1 g2).1
    have lg : gg < w4.heap.size := (Array.getElem?_eq_some_iff.1 g3).1
    have la : at' < w4.heap.size := (Array.getElem?_eq_some_iff.1 g5).1
    have g2' := (hA.rest gf lf n1').trans g2
    have g3' := (hA.rest gg lg n2').trans g3
    have g5' := (hA.rest at' la n4).trans g5
    have g4' := g4.trans (hA.below.mono hnN)
    have far : ∀ i, i < 79 → ((cs3.setIfInBounds 80 (.int .u64 1)).setIfInBounds 79 (.slice (some ⟨gr, 0, none⟩) 1 cap))[i]? = cs3[i]? := fun i hi => by
      rw [Array.getElem?_setIfInBounds_ne (by omega), Array.getElem?_setIfInBounds_ne (by omega)]
    have d71 : w5.cell? ⟨nb, 71, none⟩ = _ := (cell_of_blk g1' _).trans ((far 71 (by decide)).trans f71)
    have d73 : w5.cell? ⟨nb, 73, none⟩ = _ := (cell_of_blk g1' _).trans ((far 73 (by decide)).trans f73)
    have d78 : w5.cell? ⟨nb, 78, none⟩ = _ := (cell_of_blk g1' _).trans ((far 78 (by decide)).trans f78)
    have d79 : w5.cell? ⟨nb, 79, none⟩ = some (.slice (some ⟨gr, 0, none⟩) 1 cap) := (cell_of_blk g1' _).trans (by simp [hz])
    have d80 : w5.cell? ⟨nb, 80, none⟩ = some (.int .u64 1) := (cell_of_blk g1' _).trans (by simp [hz])
    have df : w5.cell? ⟨gf, k, none⟩ = some (.bool f) := (cell_of_blk g2' _).trans (by simp [hfs, hkm])
    have dg : w5.cell? ⟨gg, k, none⟩ = some (.bool g) := (cell_of_blk g3' _).trans (by simp [hgs, hkm])
    have da0 : w5.cell? ⟨at', 0, none⟩ = some (.int .u64 n) := cell_of_blk g5' 0
    have da1 : w5.cell? ⟨at', 1, none⟩ = some (.int .i64 x) := cell_of_blk g5' 1
    have da2 : w5.cell? ⟨at', 2, none⟩ = some (.pointer none) := cell_of_blk g5' 2
    have hrow := hA.row
    have r0 := hrow 0 _ rfl
    have r1 := hrow 1 _ rfl
    have r2 := hrow 2 _ rfl
    have r3 := hrow 3 _ rfl
    have r4 := hrow 4 _ rfl
    have r5 := hrow 5 _ rfl
    clear g1 g2 g3 g5 f0 f71 f73 f78 h79 h80 g1' g2' g3' g5' hA hrow far
    by_cases hks : (k : Int) = s
    · subst hks
      go_wp2_with fail
      refine (standing_any g bh f _).mono ?_
      rintro e w6 ⟨rfl, rfl⟩
      have hst' : stOf g bh f ≠ was := by simpa using hst
      simp only [decide_true, Bool.true_and] at r1
      generalize stOf g bh f = st at hst' r1 ⊢
      have HS := same_any (k : Int) st n x 1 w6.drew x0 x1
      go_wp2_with fail
      go_region_with (go_at_call 9; refine HS.mono ?_; rintro e w7 ⟨rfl, hB6⟩)
      all_goals (go_wp2; go_ret; exact ⟨rfl, g4'.drew.trans (hB6.mono g4'.size)⟩)
    · go_wp2_with fail
      refine (standing_any g false f _).mono ?_
      rintro e w6 ⟨rfl, rfl⟩
      have hst' : stOf g false f ≠ was := by simpa [hks] using hst
      simp only [hks, decide_false, Bool.false_and] at r1
      generalize stOf g false f = st at hst' r1 ⊢
      have HS := same_any (k : Int) st n x 1 w6.drew x0 x1
      go_wp2_with fail
      go_region_with (go_at_call 9; refine HS.mono ?_; rintro e w7 ⟨rfl, hB6⟩)
      all_goals (go_wp2; go_ret; exact ⟨rfl, g4'.drew.trans (hB6.mono g4'.size)⟩)

end Go.Proofs.YbulkcmxgFmt
