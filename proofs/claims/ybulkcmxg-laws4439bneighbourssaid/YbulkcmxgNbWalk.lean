import Derived.Test.YbulkcmxgNbMath
import Derived.OpenShut
namespace Go.Proofs.Ybulkcmxg
open Go.RowKit

theorem round_ok {s i n : Int} (h : OkNb s i n) (hn : ¬ n < 0) : 0 ≤ n ∧ n ≤ 100000 ∧ hopsI s i n = 1 ∧ hopsI s n i = 1 := by
  rcases h with h | h
  · exact absurd h hn
  · exact h

theorem ns_cells {W : World} {B : Nat} {a b c d s i : Int} (h : ∀ j, W.cell? ⟨B, j, none⟩ = (#[Value.int .i64 a, .int .i64 b, .int .i64 c, .int .i64 d] : Array Value)[j]?)
    (ha : OkNb s i a) (hb : OkNb s i b) (hc : OkNb s i c) (hd : OkNb s i d) : ∀ k, k < 4 → ∃ n, W.cell? ⟨B, k, none⟩ = some (.int .i64 n) ∧ OkNb s i n := by
  intro k hk
  match k, hk with
  | 0, _ => exact ⟨a, h 0, ha⟩
  | 1, _ => exact ⟨b, h 1, hb⟩
  | 2, _ => exact ⟨c, h 2, hc⟩
  | 3, _ => exact ⟨d, h 3, hd⟩

set_option maxHeartbeats 1000000 in
theorem nbWalk (a0 : Int) (a1 : Int) (w0 : (Lit.int .u16 a0).wf = true) (w1 : (Lit.int .u16 a1).wf = true) (w : World) :
    Calls Yba.prog 4 #[.int .u16 a0, .int .u16 a1] w fun e w' => e = .returned (.bool true) ∧ Below w.heap.size w w' := by
  have b0 := bounds_u16 w0
  have b1 := bounds_u16 w1
  clear w0 w1
  have hi0 := Int.emod_nonneg a1 (show 1 + a0 % 1024 ≠ 0 by omega)
  have hi1 := Int.emod_lt_of_pos a1 (show 0 < 1 + a0 % 1024 by omega)
  go_enter Yba.func4, Yba.ntmps4
  go_wp2
  go_loop [6] (fun t => ∃ s : Int, 1 ≤ s ∧ s ≤ 32 ∧ t = .int .i64 s) (fun t => (32 - intOf t).toNat)
  case atStart => exact ⟨1, by omega, by omega, rfl⟩
  case round =>
    obtain ⟨s, hs1, hs2, rfl⟩ := hrel
    have hq1 : s * s ≤ 1024 := Int.mul_le_mul hs2 hs2 (by omega) (by omega)
    have hq0 : 0 ≤ s * s := Int.mul_nonneg (by omega) (by omega)
    have hq2 : 32 ≤ s → 1024 ≤ s * s := fun h => Int.mul_le_mul h h (by omega) (by omega)
    by_cases hlt : s * s < 1 + a0 % 1024
    · have hs3 : s < 32 := by omega
      clear hq2
      go_wp2
      go_round
      case rel => exact ⟨s + 1, by omega, by omega, rfl⟩
      case measure => simp [intOf]; omega
    · clear hq2
      clear hq0
      have u1 := ok_up s (a1 % (1 + a0 % 1024)) (by omega) (by omega) (by omega) (by omega)
      have u2 := ok_left s (a1 % (1 + a0 % 1024)) (by omega) (by omega) (by omega)
      have u3 := ok_right (1 + a0 % 1024) s (a1 % (1 + a0 % 1024)) (by omega) (by omega) (by omega)
      have u4 := ok_down (1 + a0 % 1024) s (a1 % (1 + a0 % 1024)) (by omega) (by omega) (by omega) (by omega)
      have hself := hops_self s (a1 % (1 + a0 % 1024))
      go_wp2_with fail
      refine (hops_any w.heap.size (a1 % (1 + a0 % 1024)) (a1 % (1 + a0 % 1024)) s _ ?_ (by omega) (by omega) (by omega) (by omega) (by omega) (by omega)).mono ?_
      · go_simp
      rintro e w' ⟨rfl, n1, rfl⟩
      go_wp2_with fail
      refine (neighbours_any w.heap.size (a1 % (1 + a0 % 1024)) s (1 + a0 % 1024) _ ?_ ?_ ?_ (by omega) (by omega) (by omega) (by omega) (by omega) (by omega)).mono ?_
      · simp
      · go_simp
      · go_simp
      rintro e w' ⟨rfl, hbel⟩
      have hsz : w.heap.size + 1 ≤ w'.heap.size := by have := hbel.size; simpa using this
      have hcs : w'.cell? ⟨w.heap.size, 1, none⟩ = some (.int .i64 s) := by rw [hbel.cell (by simp)]; go_simp
      have hB : Below w.heap.size w w' := (below_drewN ((Below.refl _ _).alloc (Nat.le_refl _) _) _).trans (hbel.mono (by simp))
      clear hbel
      go_wp2_with fail
      go_loopw [10] (fun kv wr => ∃ k : Nat, k ≤ 4 ∧ kv = .int .i64 k ∧ (∀ j, j < 4 → ∃ n, wr.cell? ⟨w'.heap.size, j, none⟩ = some (.int .i64 n) ∧ OkNb s (a1 % (1 + a0 % 1024)) n) ∧ wr.cell? ⟨w.heap.size, 1, none⟩ = some (.int .i64 s) ∧ Below w.heap.size w wr) (fun kv _ => 4 - (intOf kv).toNat)
      case atStart =>
        refine ⟨0, by omega, rfl, ns_cells (fun j => World.cell?_alloc_at _ _ _ _ rfl) u1 u2 u3 u4, ?_, hB.alloc (by omega) _⟩
        rw [World.cell?_alloc_past _ _ _ (by omega)]; exact hcs
      case round =>
        obtain ⟨k, hk, rfl, hns, hcs', hB'⟩ := hrel
        by_cases hk4 : k < 4
        · obtain ⟨n, hc, hok⟩ := hns k hk4
          have HN : Hid (∀ j, j < 4 → ∃ n, wr.cell? ⟨w'.heap.size, j, none⟩ = some (.int .i64 n) ∧ OkNb s (a1 % (1 + a0 % 1024)) n) := hns
          clear hns
          by_cases hn : n < 0
          · go_wp2
            go_roundw
            case rel => exact ⟨k + 1, by omega, by go_num, HN.out, hcs', hB'⟩
            case measure => simp [intOf]; omega
          · obtain ⟨g0, g1, g2, g3⟩ := round_ok hok hn
            go_wp2_with fail
            refine (hops_any w.heap.size (a1 % (1 + a0 % 1024)) n s _ ?_ (by omega) (by omega) (by omega) (by omega) (by omega) (by omega)).mono ?_
            · go_simp
            rintro e w2 ⟨rfl, n2, rfl⟩
            go_wp2_with fail
            refine (hops_any w.heap.size n (a1 % (1 + a0 % 1024)) s _ ?_ (by omega) (by omega) (by omega) (by omega) (by omega) (by omega)).mono ?_
            · go_simp
            rintro e w2 ⟨rfl, n3, rfl⟩
            go_wp2
            go_roundw
            case rel => exact ⟨k + 1, by omega, by go_num, HN.out, hcs', below_drewN hB' _⟩
            case measure => simp [intOf]; omega
        · go_wp2
          go_ret
          exact ⟨rfl, hB'⟩

end Go.Proofs.Ybulkcmxg
