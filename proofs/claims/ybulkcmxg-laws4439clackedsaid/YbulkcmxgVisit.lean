import Derived.Test.YbulkcmxgNodeLaw
namespace Go.Proofs.Ybulkcmxg
open Go.RowKit

/-- A row of uint64 that is read. -/
def RowU (w : World) (a : Option Addr) (xs : List Int) : Prop :=
  xs = [] ∨ ∃ g, a = some ⟨g, 0, none⟩ ∧ ∀ j, j < xs.length → w.cell? ⟨g, j, none⟩ = some (.int .u64 (xs.getD j 0))

set_option maxHeartbeats 1000000 in
theorem eq_true (a1 a2 : Option Addr) (n c1 c2 : Nat) (xs : List Int) (w : World) (hxn : xs.length = n) (hn : n ≤ 100000) (h1 : RowU w a1 xs) (h2 : RowU w a2 xs) :
    Calls Yba.prog 14 #[.slice a1 n c1, .slice a2 n c2] w fun e w' => e = .returned (.bool true) ∧ ∃ q, w' = w.drewN q := by
  have HXN : Hid (xs.length = n) := hxn
  have H1 : Hid (RowU w a1 xs) := h1
  have H2 : Hid (RowU w a2 xs) := h2
  clear h1 h2 hxn
  go_enter Yba.func14, Yba.ntmps14
  go_wp2
  go_loopw [13] (fun i wr => ∃ j : Nat, j ≤ n ∧ i = .int .i64 j ∧ ∃ q, wr = w.drewN q) (fun i _ => n - (intOf i).toNat)
  case atStart => exact ⟨0, Nat.zero_le _, rfl, 0, rfl⟩
  case round =>
    obtain ⟨j, hj, rfl, q, rfl⟩ := hrel
    by_cases hlt : j < n
    · rcases H1.out with h | ⟨g1, rfl, e1⟩
      · have := HXN.out; rw [h] at this; simp at this; omega
      rcases H2.out with h | ⟨g2, rfl, e2⟩
      · have := HXN.out; rw [h] at this; simp at this; omega
      obtain ⟨x, ex⟩ : ∃ x, x = xs.getD j 0 := ⟨_, rfl⟩
      have d1 := e1 j (by rw [HXN.out]; exact hlt)
      have d2 := e2 j (by rw [HXN.out]; exact hlt)
      rw [← ex] at d1 d2
      clear ex e1 e2
      have hlt' : (j : Int) < (n : Int) := by omega
      go_wp2
      go_quiet (fail)
      go_wp2
      go_roundw
      case rel => exact ⟨j + 1, by omega, by go_num, _, rfl⟩
      case measure => simp [intOf]; omega
    · go_wp2
      go_ret
      exact ⟨rfl, q, rfl⟩

/-- The law's log behind n calls: the variable at lv, its row, the limit at sv. -/
def LogAt (want : List Int) (stop : Int) (lv sv : Nat) (n : Nat) (D : Nat → Prop) (w : World) : Prop :=
  ∃ v, w.cell? ⟨lv, 0, none⟩ = some v ∧ w.frozen? ⟨lv, 0, none⟩ = false ∧ w.ownsRow (lv + 1) 41 1 v n (u64s (want.take n)) ∧ w.cell? ⟨sv, 0, none⟩ = some (.int .i64 stop) ∧
    lv < w.heap.size ∧ n ≤ want.length ∧ ∀ b, D b ↔ (b = lv ∨ v.ownBlock = some b)

theorem logAt_keeps (want : List Int) (stop : Int) (lv sv : Nat) (hs : sv < lv) : Keeps (LogAt want stop lv sv) := by
  intro n D w1 w2 ⟨v, h1, h2, h3, h4, h5, h6, h7⟩ hB
  exact ⟨v, (hB.cell (by exact h5)).trans h1, (hB.frozen (by exact h5)).trans h2, ownsRow_below h3 hB, (hB.cell (by show sv < _; omega)).trans h4, Nat.lt_of_lt_of_le h5 hB.size, h6, h7⟩

theorem logAt_lies (want : List Int) (stop : Int) (lv sv B : Nat) (hB : B ≤ lv) : Lies (LogAt want stop lv sv) B := by
  intro n D w1 ⟨v, h1, h2, h3, h4, h5, h6, h7⟩ b hb
  rcases (h7 b).1 hb with rfl | h
  · exact ⟨hB, h5⟩
  · have := h3.lt b h; omega

def contV (stop : Int) (m : Nat) : Bool := stop == 0 || decide ((m : Int) < stop)

theorem take_snoc_some {l : List Int} {n : Nat} {x : Int} (h : l[n]? = some x) : l.take (n + 1) = l.take n ++ [x] := by
  rw [List.take_add_one, h]; rfl

set_option maxHeartbeats 1000000 in
theorem visit_any (want : List Int) (stop : Int) (lv sv : Nat) (hs : sv < lv) (hw : want.length ≤ 8192) : Visits (LogAt want stop lv sv) (contV stop) want 13 ⟨lv, 0, none⟩ ⟨sv, 0, none⟩ := by
  intro n D x w1 ⟨v, h1, h2, h3, h4, h5, h6, h7⟩ hx
  have hn : n < want.length := (List.getElem?_eq_some_iff.1 hx).1
  obtain ⟨iu, hiu, hu0, hu1, hu2⟩ := info_parts Yba.info41
  have H3 : Hid (w1.ownsRow (lv + 1) 41 1 v n (u64s (want.take n))) := h3
  have H7 : Hid (∀ b, D b ↔ (b = lv ∨ v.ownBlock = some b)) := h7
  have HX : Hid (want[n]? = some x) := hx
  clear h3 h7 hx
  go_enter Yba.func13, Yba.ntmps13
  go_wp2_with (at_builtin; refine wpList_append_own_at _ rfl (.tmp 5) (.tmp 7) 37 rfl (lv + 1) 41 iu (.int .u64 0) 1 8 Yba.underlying37 hiu hu0 hu1 hu2 rfl (by decide) v n (u64s (want.take n)) rfl ?w0 ⟨w1.heap.size, 0, none⟩ 1 1 [.int .u64 x] rfl rfl ?w1 ?w2 ?w3 ?w4 ?w5 ?_)
  case w0 => exact H3.out.alloc _
  case w1 => exact cell_one_new _ _ _
  case w2 => exact ints_oneCell _ [x]
  case w3 => unfold maxLen; omega
  case w4 => omega
  case w5 => simp; omega
  intro v' w2 hown' hgrow _ hat
  obtain ⟨g, cp, rfl⟩ := owns_pos hown'
  have hvl : ∀ b, v.ownBlock = some b → lv + 1 ≤ b ∧ b < w1.heap.size := fun b hb => H3.out.lt b hb
  have hnl : some lv ≠ v.ownBlock := fun h => by have := hvl lv h.symm; omega
  have hnsv : some sv ≠ v.ownBlock := fun h => by have := hvl sv h.symm; omega
  have hz := hgrow.size
  simp at hz
  have k1 : w2.cell? ⟨lv, 0, none⟩ = some v := hgrow.cell ((World.cell?_alloc_past _ _ _ h5).trans h1) hnl
  have k2 : w2.frozen? ⟨lv, 0, none⟩ = false := by
    rw [World.frozen?_of_block (w := w1.alloc (.cells #[.int .u64 x] 41)) (a := ⟨lv, 0, none⟩) (hgrow.block lv (by simp; omega) hnl)]
    exact (World.frozen?_alloc_past _ _ _ h5).trans h2
  have k4 : w2.cell? ⟨sv, 0, none⟩ = some (.int .i64 stop) := hgrow.cell ((World.cell?_alloc_past _ _ _ (by omega)).trans h4) hnsv
  -- what is left of the world behind the store
  have R : ∀ W, W = w2.setCell ⟨lv, 0, none⟩ (.slice (some ⟨g, 0, none⟩) (n + 1) cp) → ∃ D', LogAt want stop lv sv (n + 1) D' W ∧ (∀ b, D' b → D b ∨ w1.heap.size ≤ b) ∧ Apart D w1 W := by
    intro W hW
    subst hW
    refine ⟨fun b => b = lv ∨ (Value.slice (some ⟨g, 0, none⟩) (n + 1) cp).ownBlock = some b, ⟨_, World.cell?_setCell_same _ _ _ k1, (World.frozen?_setCell _ _ _ _).trans k2, ?_, ?_, ?_, by omega, fun b => Iff.rfl⟩, ?_, ?_⟩
    · rw [take_snoc_some HX.out, u64s_snoc]; exact ownsRow_setCell_below hown' (by show lv < lv + 1; omega) _
    · rw [World.cell?_setCell_other _ _ _ _ (fun h => by have := congrArg Addr.block h; simp at this; omega)]; exact k4
    · simp [World.setCell]; omega
    · intro b hb
      rcases hb with rfl | hb
      · exact .inl ((H7.out _).2 (.inl rfl))
      · rcases hat with h | h
        · exact .inl ((H7.out b).2 (.inr (h ▸ hb)))
        · rw [h] at hb; simp at hb; right; omega
    · refine ⟨hgrow.os, hgrow.tape, hgrow.output, by simp [World.setCell]; omega, fun b hb hd => ?_⟩
      have hd1 : b ≠ lv := fun h => hd ((H7.out b).2 (.inl h))
      have hd2 : some b ≠ v.ownBlock := fun h => hd ((H7.out b).2 (.inr h.symm))
      rw [Below.heap_setCell _ _ _ _ hd1, hgrow.block b (by simp; omega) hd2]
      exact Below.heap_alloc _ _ _ hb
  have HR : Hid (∀ W, W = w2.setCell ⟨lv, 0, none⟩ (.slice (some ⟨g, 0, none⟩) (n + 1) cp) → ∃ D', LogAt want stop lv sv (n + 1) D' W ∧ (∀ b, D' b → D b ∨ w1.heap.size ≤ b) ∧ Apart D w1 W) := R
  clear R hown' hgrow hat hvl hnl hnsv
  by_cases hst : stop = 0
  · have hst' : (stop == 0) = true := by simpa using hst
    have hcv : contV stop (n + 1) = true := by unfold contV; rw [hst']; rfl
    have HCV : Hid (contV stop (n + 1) = true) := hcv
    clear hst hcv
    go_wp2
    go_ret
    exact ⟨ret_bool HCV.out.symm, HR.out _ rfl⟩
  · have hst' : (stop == 0) = false := by simpa using hst
    have HST : Hid ((stop == 0) = false) := hst'
    clear hst
    by_cases hlt : (n : Int) + 1 < stop
    · go_wp2
      go_ret
      refine ⟨ret_bool ?_, HR.out _ rfl⟩
      unfold contV; rw [HST.out]; simp; omega
    · go_wp2
      go_ret
      refine ⟨ret_bool ?_, HR.out _ rfl⟩
      unfold contV; rw [HST.out]; simp; omega

end Go.Proofs.Ybulkcmxg
