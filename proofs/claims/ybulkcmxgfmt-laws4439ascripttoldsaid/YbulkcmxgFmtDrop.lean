import Derived.Test.YbulkcmxgFmtRoom
namespace Go.Proofs.YbulkcmxgFmt
open Go.RowKit

theorem LS.alloc {C nb U o len made : Nat} {cs au : Array Value} {w : World} (h : LS C nb U o len made cs au w) (ob : Obj) : LS C nb U o len made cs au (w.alloc ob) := by
  have l1 : nb < w.heap.size := (Array.getElem?_eq_some_iff.1 h.node).1
  have l2 : U < w.heap.size := (Array.getElem?_eq_some_iff.1 h.row).1
  exact ⟨(Below.heap_alloc _ _ _ l1).trans h.node, h.csz, h.unread, h.made, (Below.heap_alloc _ _ _ l2).trans h.row, h.asz, h.fit⟩

theorem added_of_taken {N C nb U o made : Nat} {cs au cs1 au1 : Array Value} {k st n x : Int} {w w1 w' : World} {ob : Obj}
    (hN : N ≤ w.heap.size) (hc1 : ∀ i, i ≠ 79 → cs1[i]? = cs[i]?) (ha1 : ∀ j, (o + 1) * 6 ≤ j → au1[j]? = au[j]?)
    (hr1 : ∀ b, b < (w.alloc ob).heap.size → b ≠ nb → b ≠ U → w1.heap[b]? = (w.alloc ob).heap[b]?) (hb1 : Below N (w.alloc ob) w1)
    (h : Added N C nb U (o + 1) 1023 (o + 1) (1023 + 1) made cs1 au1 k st n x w1 w') : Added N C nb U o 1024 (o + 1) 1024 made cs au k st n x w w' := by
  obtain ⟨⟨cs', au', hL, q1, q2, q3⟩, r, b⟩ := h
  refine ⟨⟨cs', au', hL, fun i h1 h2 => (q1 i h1 h2).trans (hc1 i h1), fun j hj hlt => (q2 j hj (by omega)).trans (ha1 j hj), ?_⟩, fun c hc h1 h2 => ?_, ?_⟩
  · rw [show o + 1024 = o + 1 + 1023 by omega]; exact q3
  · have hs := hb1.size
    simp at hs
    rw [r c (by omega) h1 h2, hr1 c (by simp; omega) h1 h2, Below.heap_alloc _ _ _ hc]
  · exact (((Below.refl N w).alloc hN ob).trans hb1).trans b

set_option maxHeartbeats 4000000 in
theorem add_drop (N C nb U o made : Nat) (cs au : Array Value) (k st n x : Int) (w : World) (hN : N ≤ nb) (hN2 : N ≤ U) (hroom : o + 1024 < C) (hmade : made ≤ 8192) (h : LS C nb U o 1024 made cs au w) (hE : ∃ k st n x q, ChgAt au o k st n x q) :
    Calls Ybaf.prog 19 #[.pointer (some ⟨nb, 79, none⟩), .int .i64 k, .int .u8 st, .agg #[.int .u64 n, .int .i64 x, .pointer none]] w fun e w' => e = .returned (.tuple #[]) ∧
      Added N C nb U o 1024 (o + 1) 1024 made cs au k st n x w w' := by
  obtain ⟨ek, es, en, ex, eq, hE⟩ := hE
  have HE : Hid (ChgAt au o ek es en ex eq) := hE
  have HLS : Hid (LS C nb U o 1024 made cs au w) := h
  obtain ⟨hnb, csz, c79, c80, hU, asz, fit⟩ := h
  have l1 : nb < w.heap.size := (Array.getElem?_eq_some_iff.1 hnb).1
  have l2 : U < w.heap.size := (Array.getElem?_eq_some_iff.1 hU).1
  have d79 : w.cell? ⟨nb, 79, none⟩ = _ := (cell_of_blk hnb _).trans c79
  obtain ⟨iu, hiu, hu0, hu1, hu2⟩ := info_parts75
  clear hnb c79 c80 csz asz hU hu0 hu2 hE
  go_enter Ybaf.func19, Ybaf.ntmps19
  go_wp2_with fail
  refine (take_any N C nb U o 1024 made cs au _ hN hN2 (by decide) (HLS.out.alloc _) ek es en ex eq HE.out).mono ?_
  rintro e w1 ⟨⟨v, rfl⟩, ⟨cs1, au1, hL1, hc1, ha1⟩, hr1, hb1⟩
  have hbox : w1.heap[w.heap.size]? = some (.cells #[.int .u64 n, .int .i64 x, .pointer none] 38 (0, 0)) :=
    (hr1 w.heap.size (by simp) (by omega) (by omega)).trans (heap_alloc_new w _)
  have HLS1 : Hid _ := hL1
  have HR1 : Hid _ := hr1
  have HB1 : Hid _ := hb1
  have HC1 : Hid _ := hc1
  have HA1 : Hid _ := ha1
  obtain ⟨hnb, csz, c79, c80, hU, asz, fit1⟩ := hL1
  have m1 : nb < w1.heap.size := (Array.getElem?_eq_some_iff.1 hnb).1
  have m2 : w.heap.size < w1.heap.size := (Array.getElem?_eq_some_iff.1 hbox).1
  have m3 : w.heap.size ≠ nb := by omega
  have m4 : nb ≠ w.heap.size := by omega
  have e79 : w1.cell? ⟨nb, 79, none⟩ = some (.slice (some ⟨U, (o + 1) * 6, none⟩) 1023 (C - (o + 1))) := (cell_of_blk hnb _).trans c79
  have e80 : w1.cell? ⟨nb, 80, none⟩ = _ := (cell_of_blk hnb _).trans c80
  have f79 : w1.frozen? ⟨nb, 79, none⟩ = false := frozen_of_blk hnb 79
  have f80 : w1.frozen? ⟨nb, 80, none⟩ = false := frozen_of_blk hnb 80
  have b0 : w1.cell? ⟨w.heap.size, 0, none⟩ = some (.int .u64 n) := cell_of_blk hbox 0
  have b1 : w1.cell? ⟨w.heap.size, 1, none⟩ = some (.int .i64 x) := cell_of_blk hbox 1
  have b2 : w1.cell? ⟨w.heap.size, 2, none⟩ = some (.pointer none) := cell_of_blk hbox 2
  have HP := pre1_of (N := N) (.int .u64 ((made : Int) + 1)) (.cells #[.int .i64 k, .int .u8 st, .int .u64 n, .int .i64 x, .pointer none, .int .u64 ((made : Int) + 1)] 75) hnb hU hN
  have H0 : Hid _ := HP.2.2.2.2
  have H1 : Hid _ := spare_of (o := o + 1) (len := 1023) (news := chgL k st n x ((made : Int) + 1)) HP.2.1 asz (by omega) rfl
  have H2 : Hid _ := at79_of (off := (o + 1) * 6 + 1023 * 6) (news := chgL k st n x ((made : Int) + 1)) HP.1 HP.2.1 c79
  have H3 : Hid _ := room_of (k := k) (st := st) (n := n) (x := x) HLS1.out hN hN2 (by omega) HP.1 HP.2.1 HP.2.2.1 HP.2.2.2.1
  clear HP hnb c79 c80 csz asz hU d79 hr1 hb1 hc1 ha1 hbox
  go_wp2_with fail
  go_region_law (refine step_append_room rfl (.tmp 27) (.tmp 36) 64 rfl 75 iu 6 Ybaf.underlying64 hiu hu1 U ((o + 1) * 6) 1023 (C - (o + 1)) (by simp [Act.eval]) ⟨w1.heap.size, 0, none⟩ 1 1 (chgL k st n x ((made : Int) + 1)) (by simp [Act.eval]) rfl (World.news_of_block H0.out) (by simp [Value.oneCell']) (by omega) H1.out ?_; obtain ⟨c1, f1⟩ := H2.out)
  all_goals (go_wp2; go_end0; exact ⟨rfl, added_of_taken (by omega) HC1.out HA1.out HR1.out HB1.out H3.out⟩)

end Go.Proofs.YbulkcmxgFmt
