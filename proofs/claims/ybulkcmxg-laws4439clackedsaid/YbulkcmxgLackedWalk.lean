import Derived.Test.YbulkcmxgVisitsWalk
namespace Go.Proofs.Ybulkcmxg
open Go.RowKit

/-- Lacked's two variables behind n calls of its visitor. -/
def FirstAt (want : List Int) (fb : Nat) (n : Nat) (D : Nat → Prop) (w : World) : Prop :=
  w.cell? ⟨fb, 0, none⟩ = some (.int .u64 (if n = 0 then 0 else want.getD (n - 1) 0)) ∧ w.cell? ⟨fb + 1, 0, none⟩ = some (.bool (!(n == 0))) ∧ w.frozen? ⟨fb, 0, none⟩ = false ∧ w.frozen? ⟨fb + 1, 0, none⟩ = false ∧
    fb + 1 < w.heap.size ∧ ∀ b, D b ↔ (b = fb ∨ b = fb + 1)

theorem firstAt_keeps (want : List Int) (fb : Nat) : Keeps (FirstAt want fb) := by
  intro n D w1 w2 ⟨h1, h2, h3, h4, h5, h6⟩ hB
  exact ⟨(hB.cell (by show fb < _; omega)).trans h1, (hB.cell (by exact h5)).trans h2, (hB.frozen (by show fb < _; omega)).trans h3, (hB.frozen (by exact h5)).trans h4, Nat.lt_of_lt_of_le h5 hB.size, h6⟩

theorem firstAt_lies (want : List Int) (fb B : Nat) (hB : B ≤ fb) : Lies (FirstAt want fb) B := by
  intro n D w1 ⟨h1, h2, h3, h4, h5, h6⟩ b hb
  rcases (h6 b).1 hb with rfl | rfl <;> omega

theorem getD_some {l : List Int} {n : Nat} {x : Int} (h : l[n]? = some x) : l.getD n 0 = x := by simp [List.getD, h]

theorem first_any (want : List Int) (fb : Nat) : Visits (FirstAt want fb) (fun _ => false) want 19 ⟨fb, 0, none⟩ ⟨fb + 1, 0, none⟩ := by
  intro n D x w1 ⟨h1, h2, h3, h4, h5, h6⟩ hx
  have H6 : Hid (∀ b, D b ↔ (b = fb ∨ b = fb + 1)) := h6
  have HX : Hid (want.getD n 0 = x) := getD_some hx
  have R : ∀ W, W = (w1.setCell ⟨fb, 0, none⟩ (.int .u64 x)).setCell ⟨fb + 1, 0, none⟩ (.bool true) → ∃ D', FirstAt want fb (n + 1) D' W ∧ (∀ b, D' b → D b ∨ w1.heap.size ≤ b) ∧ Apart D w1 W := by
    intro W hW
    subst hW
    have ne : (⟨fb, 0, none⟩ : Addr) ≠ ⟨fb + 1, 0, none⟩ := fun h => by have := congrArg Addr.block h; simp at this
    refine ⟨D, ⟨?_, ?_, ?_, ?_, by simp [World.setCell]; omega, H6.out⟩, fun b hb => .inl hb, ⟨rfl, rfl, rfl, by simp [World.setCell], fun b hb hd => ?_⟩⟩
    · rw [World.cell?_setCell_other _ _ _ _ (fun h => ne h.symm), World.cell?_setCell_same _ _ _ h1]
      simp only [Nat.add_sub_cancel, HX.out]; simp
    · rw [World.cell?_setCell_same _ _ _ ((World.cell?_setCell_other _ _ _ _ ne).trans h2)]; simp
    · rw [World.frozen?_setCell, World.frozen?_setCell]; exact h3
    · rw [World.frozen?_setCell, World.frozen?_setCell]; exact h4
    · have e1 : b ≠ fb := fun h => hd ((H6.out b).2 (.inl h))
      have e2 : b ≠ fb + 1 := fun h => hd ((H6.out b).2 (.inr h))
      rw [Below.heap_setCell _ _ _ _ e2, Below.heap_setCell _ _ _ _ e1]
  have HR : Hid (∀ W, W = (w1.setCell ⟨fb, 0, none⟩ (.int .u64 x)).setCell ⟨fb + 1, 0, none⟩ (.bool true) → ∃ D', FirstAt want fb (n + 1) D' W ∧ (∀ b, D' b → D b ∨ w1.heap.size ≤ b) ∧ Apart D w1 W) := R
  clear R h6 hx
  go_enter Yba.func19, Yba.ntmps19
  go_wp2
  go_ret
  exact ⟨rfl, HR.out _ rfl⟩

theorem firstAt_start (want : List Int) (w : World) : FirstAt want w.heap.size 0 (fun b => b = w.heap.size ∨ b = w.heap.size + 1) ((w.alloc (.cells #[.int .u64 0] 41)).alloc (.cells #[.bool false] 4)) := by
  refine ⟨?_, ?_, ?_, World.frozen?_alloc_at _ _ _ _ (by simp), by simp, fun b => Iff.rfl⟩
  · rw [World.cell?_alloc_past _ _ _ (by simp), World.cell?_alloc_at _ _ _ _ rfl]; rfl
  · rw [World.cell?_alloc_at _ _ _ _ (by simp)]; rfl
  · rw [World.frozen?_alloc_past _ _ _ (by simp)]; exact World.frozen?_alloc_at _ _ _ _ rfl

theorem first_cases {n : Nat} {b : Bool} {w' : World} {I : Nat → (Nat → Prop) → World → Prop} (h : EachPost I (fun _ => false) n b w') : (n = 0 ∧ ∃ D, I 0 D w') ∨ (0 < n ∧ ∃ D, I 1 D w') := by
  rcases h with ⟨_, hI, hc⟩ | ⟨_, c, h1, h2, _, h4, hI⟩
  · by_cases hn : n = 0
    · subst hn; exact .inl ⟨rfl, hI⟩
    · have := hc 1 (by omega) (by omega); simp at this
  · by_cases hc : c = 1
    · subst hc; exact .inr ⟨by omega, hI⟩
    · have := h4 1 (by omega) (by omega); simp at this

set_option maxHeartbeats 1000000 in
theorem lacked_any (B nb k : Nat) (H S : List (Int × Int)) (w : World) (hN : NodeAt w B nb k H S) (hBw : B ≤ w.heap.size) :
    Calls Yba.prog 15 #[.pointer (some ⟨nb, 0, none⟩), .int .i64 (k : Int)] w fun e w' =>
      ∃ f b, e = .returned (.tuple #[.int .u64 f, .bool b]) ∧ ((wantOf k H S = [] ∧ f = 0 ∧ b = false) ∨ (0 < (wantOf k H S).length ∧ f = (wantOf k H S).getD 0 0 ∧ b = true)) ∧ Below B w w' := by
  have hmf : ∀ (fn : Fn) (first cap : Array Value) (w : World), (Instr.makeFunc fn first cap).run Yba.prog w = .ok (.func fn first cap) w := fun _ _ _ _ => rfl
  have HN : Hid (NodeAt w B nb k H S) := hN
  clear hN
  go_enter Yba.func15, Yba.ntmps15
  go_wp2_with fail
  have hBW : Below B w ((w.alloc (.cells #[.int .u64 0] 41)).alloc (.cells #[.bool false] 4)) := ((Below.refl _ _).alloc hBw _).alloc (by simp; omega) _
  refine (each_any B nb 19 k ⟨w.heap.size, 0, none⟩ ⟨w.heap.size + 1, 0, none⟩ H S (FirstAt (wantOf k H S) w.heap.size) (fun _ => false) _ (HN.out.below hBW) (by simp; omega) _ (firstAt_start _ _) (firstAt_keeps _ _) (firstAt_lies _ _ _ hBw) (first_any _ _) ent19).mono ?_
  rintro e w2 ⟨b, rfl, hP, hB2⟩
  have hBB := hBW.trans hB2
  rcases first_cases hP with ⟨h0, D, k1, k2, k3, k4, k5, k6⟩ | ⟨h0, D, k1, k2, k3, k4, k5, k6⟩
  · have HW : Hid (wantOf k H S = []) := List.eq_nil_of_length_eq_zero h0
    have k1' : w2.cell? ⟨w.heap.size, 0, none⟩ = some (.int .u64 0) := k1
    have k2' : w2.cell? ⟨w.heap.size + 1, 0, none⟩ = some (.bool false) := k2
    clear k1 k2 k3 k4 k5 k6 hP h0
    go_wp2
    go_quiet (fail)
    go_wp2
    go_ret2
    exact ⟨0, false, rfl, .inl ⟨HW.out, rfl, rfl⟩, below_drewN hBB _⟩
  · have HW : Hid (0 < (wantOf k H S).length) := h0
    have k1' : w2.cell? ⟨w.heap.size, 0, none⟩ = some (.int .u64 ((wantOf k H S).getD 0 0)) := k1
    have k2' : w2.cell? ⟨w.heap.size + 1, 0, none⟩ = some (.bool true) := k2
    obtain ⟨x, ex⟩ : ∃ x, x = (wantOf k H S).getD 0 0 := ⟨_, rfl⟩
    rw [← ex] at k1'
    have EX : Hid (x = (wantOf k H S).getD 0 0) := ex
    clear k1 k2 k3 k4 k5 k6 hP h0 ex
    go_wp2
    go_quiet (fail)
    go_wp2
    go_ret2
    exact ⟨x, true, rfl, .inr ⟨HW.out, EX.out, rfl⟩, below_drewN hBB _⟩

set_option maxHeartbeats 1000000 in
set_option maxRecDepth 1000000 in
theorem lacked_main (K : Int) (n1 c1 n2 c2 : Nat) (a1 a2 : Option Addr) (sp : List (Int × Int × Int)) (hl : List (Int × Int)) (w : World)
    (hK0 : 0 ≤ K) (hK1 : K ≤ 255) (hn1 : sp.length = n1) (hn2 : hl.length = n2) (hm1 : n1 ≤ 1024) (hm2 : n2 ≤ 1024)
    (hsp : SpansIn w w.heap.size a1 sp) (hhl : HeldIn w w.heap.size a2 hl) :
    Calls Yba.prog 6 #[.int .u8 K, .slice a1 n1 c1, .slice a2 n2 c2] w fun e w' => e = .returned (.bool true) ∧ Below w.heap.size w w' := by
  have HSP : Hid (SpansIn w w.heap.size a1 sp) := hsp
  have HHL : Hid (HeldIn w w.heap.size a2 hl) := hhl
  have HN1 : Hid (sp.length = n1) := hn1
  have HN2 : Hid (hl.length = n2) := hn2
  clear hsp hhl hn1 hn2
  obtain ⟨k, hk⟩ : ∃ k : Nat, K % 3 = (k : Int) := ⟨(K % 3).toNat, by omega⟩
  have hk3 : k < 3 := by omega
  go_enter Yba.func6, Yba.ntmps6
  go_wp2_with fail
  refine (build_any k n1 c1 n2 c2 a1 a2 sp hl w hk3 HN1.out HN2.out hm1 hm2 HSP.out HHL.out).mono ?_
  rintro e w1 ⟨nb, vw, rfl, hN, hW, hB1⟩
  have hwl := wantOf_le k (hl.map h3) (spansFor k sp) (fun s hs => (spansFor_fits (fitS_of HSP.out) k s hs).2.2.2)
  have hsl := spansFor_le k sp
  rw [HN1.out] at hsl
  obtain ⟨aw, cw, rfl, hcw, hRU, hag, hgl⟩ := rowU_of hW rfl
  have hz1 := hB1.size
  have HN : Hid (NodeAt w1 w1.heap.size nb k (hl.map h3) (spansFor k sp)) := hN
  have HRU : Hid (RowU w1 aw (wantOf k (hl.map h3) (spansFor k sp))) := hRU
  have HGL : Hid (∀ g, aw = some ⟨g, 0, none⟩ → g < w1.heap.size) := hgl
  clear hN hW hRU hag hgl
  go_wp2_with fail
  refine (lacked_any w1.heap.size nb k (hl.map h3) (spansFor k sp) w1 HN.out (Nat.le_refl _)).mono ?_
  rintro e w2 ⟨f, b, rfl, hP, hB2⟩
  have hold : Below w.heap.size w w2 := hB1.trans (hB2.mono hz1)
  rcases hP with ⟨hw0, rfl, rfl⟩ | ⟨hw0, hf, rfl⟩
  · have hlen : ((wantOf k (hl.map h3) (spansFor k sp)).length : Int) = 0 := by rw [hw0]; rfl
    clear hw0
    go_wp2
    go_ret
    exact ⟨rfl, hold⟩
  · have hR2 := HRU.out.below hB2 HGL.out
    rcases hR2 with h | ⟨g, rfl, hc⟩
    · rw [h] at hw0; simp at hw0
    have hc0 : w2.cell? ⟨g, 0, none⟩ = some (.int .u64 f) := by rw [hf]; exact hc 0 hw0
    have hne : (((wantOf k (hl.map h3) (spansFor k sp)).length : Int) == 0) = false := by rw [beq_eq_false_iff_ne]; omega
    have hw0' : (0 : Int) < ((wantOf k (hl.map h3) (spansFor k sp)).length : Int) := by omega
    clear hc hf
    go_wp2
    go_ret
    exact ⟨rfl, hold⟩

theorem lacked_big (K : Int) (n1 c1 n2 c2 : Nat) (a1 a2 : Option Addr) (w : World) (hm1 : n1 ≤ maxLen) (hm2 : n2 ≤ maxLen) (h : 1024 < n1 ∨ 1024 < n2) :
    Calls Yba.prog 6 #[.int .u8 K, .slice a1 n1 c1, .slice a2 n2 c2] w fun e w' => e = .returned (.bool true) ∧ Below w.heap.size w w' := by
  unfold maxLen at hm1 hm2
  by_cases h1 : 1024 < n1
  · go_enter Yba.func6, Yba.ntmps6
    go_wp2
    go_ret
    exact ⟨rfl, Below.refl _ _⟩
  · have h2 : 1024 < n2 := by omega
    go_enter Yba.func6, Yba.ntmps6
    go_wp2
    go_ret
    exact ⟨rfl, Below.refl _ _⟩

end Go.Proofs.Ybulkcmxg
