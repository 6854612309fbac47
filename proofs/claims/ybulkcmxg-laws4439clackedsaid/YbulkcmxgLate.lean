import Derived.Test.YbulkcmxgRows
import Derived.WalkKit
import Derived.ProofKit
import Derived.Deep.QuietTactic
import Derived.BigQuiet
import Derived.Deep.Draws
import Derived.WalkSpells
import Derived.WalkSmall
import Derived.OpenShut
namespace Go.Proofs.Ybulkcmxg
open Go.RowKit

/-- The seven cells of a late-held message (sender, seq). -/
def heldCells (h : Int × Int) : List Value := [.int .u64 h.2, .int .i32 h.1, .int .i32 0, .int .u64 0, .int .i64 0, .pointer none, .slice none 0 0]

def heldB (k q : Int) (h : Int × Int) : Bool := h.1 == k && h.2 == q

/-- The node's row of late-held messages, as cells. -/
def HeldAt (w : World) (hb : Nat) (H : List (Int × Int)) : Prop :=
  ∀ j, j < H.length → 0 ≤ (H.getD j (0, 0)).1 ∧ (H.getD j (0, 0)).1 ≤ 2 ∧ 0 ≤ (H.getD j (0, 0)).2 ∧ (H.getD j (0, 0)).2 ≤ 18446744073709551615 ∧
    ∀ t, t < 7 → w.cell? ⟨hb, j * 7 + t, none⟩ = (heldCells (H.getD j (0, 0)))[t]?

theorem any_take_succ {α : Type} (p : α → Bool) (d : α) (l : List α) (j : Nat) (hj : j < l.length) : (l.take (j + 1)).any p = ((l.take j).any p || p (l.getD j d)) := by
  rw [List.take_succ_eq_append_getElem hj, List.any_append]
  simp [List.getD, List.getElem?_eq_getElem hj]

theorem any_found {α : Type} (p : α → Bool) (d : α) (l : List α) (j : Nat) (hj : j < l.length) (h : p (l.getD j d) = true) : l.any p = true := by
  rw [List.any_eq_true]
  exact ⟨l.getD j d, by simp [List.getD, List.getElem?_eq_getElem hj], h⟩

theorem ret_bool {a b : Bool} (h : a = b) : Ending.returned (.bool a) = .returned (.bool b) := by rw [h]

theorem heldB_yes {k q s r : Int} (h : s = k) (h' : (r == q) = true) : heldB k q (s, r) = true := by simp [heldB, h] at *; exact h'
theorem heldB_no1 {k q s r : Int} (h' : (r == q) = false) : heldB k q (s, r) = false := by simp [heldB] at *; intro _; exact h'
theorem heldB_no2 {k q s r : Int} (h : ¬ s = k) : heldB k q (s, r) = false := by simp [heldB, h]

set_option maxHeartbeats 1000000 in
theorem late_any (nb hb cap : Nat) (k q : Int) (H : List (Int × Int)) (w : World) (hn : H.length ≤ 1024)
    (hhb : hb < w.heap.size)
    (hc : w.cell? ⟨nb, 57, none⟩ = some (.slice (some ⟨hb, 0, none⟩) H.length cap)) (hH : HeldAt w hb H) :
    Calls Yba.prog 18 #[.pointer (some ⟨nb, 0, none⟩), .int .i64 k, .int .u64 q] w fun e w' =>
      e = .returned (.bool (H.any (heldB k q))) ∧ Below w.heap.size w w' := by
  go_enter Yba.func18, Yba.ntmps18
  go_wp2
  have HH : Hid (HeldAt w hb H) := hH
  clear hH
  go_loopw [14] (fun i wr => ∃ j : Nat, j ≤ H.length ∧ i = .int .i64 j ∧ (H.take j).any (heldB k q) = false ∧ Below w.heap.size w wr) (fun i _ => H.length - (intOf i).toNat)
  case atStart => exact ⟨0, Nat.zero_le _, rfl, rfl, Below.refl _ _⟩
  case round =>
    obtain ⟨j, hj, rfl, hany, hB⟩ := hrel
    by_cases hlt : j < H.length
    · obtain ⟨g1, g2, g3, g4, gc⟩ := HH.out j hlt
      obtain ⟨h, eh⟩ : ∃ h, h = H.getD j (0, 0) := ⟨_, rfl⟩
      obtain ⟨s, r⟩ := h
      rw [← eh] at g1 g2 g3 g4 gc
      have EH : Hid ((s, r) = H.getD j (0, 0)) := eh
      clear eh
      have c0 : wr.cell? ⟨hb, j * 7, none⟩ = some (.int .u64 r) := (hB.cell (by exact hhb)).trans (gc 0 (by omega))
      have c1 : wr.cell? ⟨hb, j * 7 + 1, none⟩ = some (.int .i32 s) := (hB.cell (by exact hhb)).trans (gc 1 (by omega))
      have c2 : wr.cell? ⟨hb, j * 7 + 2, none⟩ = some (.int .i32 0) := (hB.cell (by exact hhb)).trans (gc 2 (by omega))
      have c3 : wr.cell? ⟨hb, j * 7 + 3, none⟩ = some (.int .u64 0) := (hB.cell (by exact hhb)).trans (gc 3 (by omega))
      have c4 : wr.cell? ⟨hb, j * 7 + 4, none⟩ = some (.int .i64 0) := (hB.cell (by exact hhb)).trans (gc 4 (by omega))
      have c5 : wr.cell? ⟨hb, j * 7 + 5, none⟩ = some (.pointer none) := (hB.cell (by exact hhb)).trans (gc 5 (by omega))
      have c6 : wr.cell? ⟨hb, j * 7 + 6, none⟩ = some (.slice none 0 0) := (hB.cell (by exact hhb)).trans (gc 6 (by omega))
      clear gc
      go_wp2
      · have hh := heldB_yes (k := k) (q := q) (s := s) (r := r) ‹_› ‹_›
        go_ret
        exact ⟨ret_bool (any_found _ _ _ j hlt (by rw [← EH.out]; exact hh)).symm, hB.alloc hB.size _⟩
      · have hh := heldB_no1 (k := k) (q := q) (s := s) (r := r) ‹_›
        go_roundw
        case rel => exact ⟨j + 1, by omega, by go_num, by rw [any_take_succ _ (0, 0) _ _ hlt, hany, ← EH.out, hh]; rfl, hB.alloc hB.size _⟩
        case measure => simp [intOf]; omega
      · have hh := heldB_no2 (k := k) (q := q) (s := s) (r := r) ‹_›
        go_roundw
        case rel => exact ⟨j + 1, by omega, by go_num, by rw [any_take_succ _ (0, 0) _ _ hlt, hany, ← EH.out, hh]; rfl, hB.alloc hB.size _⟩
        case measure => simp [intOf]; omega
    · go_wp2
      go_ret
      rw [List.take_of_length_le (by omega)] at hany
      exact ⟨ret_bool hany.symm, hB⟩

end Go.Proofs.Ybulkcmxg
