import Derived.Test.YbulkcmxgNbMath
import Derived.OpenShut
namespace Go.Proofs.Ybulkcmxg
open Go.RowKit

theorem qr_unique {s i q r : Int} (h : i = q * s + r) (hr : 0 ≤ r) (hs : r < s) : i / s = q ∧ i % s = r := by
  subst h; exact ⟨div_at s q r hr hs, mod_at s q r hr hs⟩

theorem ret_two {k : IntKind} {a b c d : Int} (h : a = b ∧ c = d) : Ending.returned (.tuple #[.int k a, .int k c]) = .returned (.tuple #[.int k b, .int k d]) := by rw [h.1, h.2]

theorem q_le {s i q x : Int} (h : i = q * s + x) (hx : 0 ≤ x) (hq : 0 ≤ q) (hs : 1 ≤ s) : q ≤ i := by
  have : q * 1 ≤ q * s := Int.mul_le_mul_of_nonneg_left hs hq
  omega

theorem subplace_any (i s : Int) (w : World) (h0 : 0 ≤ i) (h1 : i ≤ 10000) (h2 : 1 ≤ s) (h3 : s ≤ 10000) :
    Calls Yba.prog 8 #[.int .i64 i, .int .i64 s] w fun e w' => e = .returned (.tuple #[.int .i64 (i / s), .int .i64 (i % s)]) ∧ w' = w := by
  go_enter Yba.func8, Yba.ntmps8
  go_wp2
  go_loop [0, 6] (fun t r => ∃ x q : Int, 0 ≤ x ∧ x ≤ 10000 ∧ 0 ≤ q ∧ q ≤ 10000 ∧ Hid (i = q * s + x) ∧ t = .int .i64 x ∧ r = .int .i64 q) (fun t _ => (intOf t).toNat)
  case atStart => exact ⟨i, 0, by omega, by omega, by omega, by omega, (show i = 0 * s + i by omega), rfl, rfl⟩
  case round =>
    obtain ⟨x, q, hx0, hx1, hq0, hq1, HE, rfl, rfl⟩ := hrel
    by_cases hlt : s ≤ x
    · go_wp2
      go_round
      case rel =>
        have e : i = (q + 1) * s + (x - s) := by rw [Int.add_mul]; have := HE.out; omega
        exact ⟨x - s, q + 1, by omega, by omega, by omega, by have := q_le e (by omega) (by omega) h2; omega, e, rfl, rfl⟩
      case measure => simp [intOf]; omega
    · go_wp2
      go_ret2
      have e := qr_unique HE.out hx0 (by omega)
      exact ⟨ret_two ⟨e.1.symm, e.2.symm⟩, rfl⟩

theorem absI_eq (x : Int) : (0 ≤ x ∧ absI x = x) ∨ (x < 0 ∧ absI x = -x) := by
  unfold absI; split <;> omega

theorem steps_any (a b : Int) (w : World) (h0 : 0 ≤ a) (h1 : a ≤ 10000) (h2 : 0 ≤ b) (h3 : b ≤ 10000) :
    Calls Yba.prog 9 #[.int .i64 a, .int .i64 b] w fun e w' => e = .returned (.int .i64 (absI (a - b))) ∧ w' = w := by
  go_enter Yba.func9, Yba.ntmps9
  go_wp2
  go_loop [0, 5] (fun t r => ∃ x d : Int, 0 ≤ x ∧ x ≤ 10000 ∧ 0 ≤ d ∧ d ≤ 10000 ∧ Hid (d + absI (x - b) = absI (a - b)) ∧ t = .int .i64 x ∧ r = .int .i64 d) (fun t _ => (b - intOf t).toNat)
  case atStart => exact ⟨a, 0, by omega, by omega, by omega, by omega, (show 0 + absI (a - b) = absI (a - b) by omega), rfl, rfl⟩
  case round =>
    obtain ⟨x, d, hx0, hx1, hd0, hd1, HE, rfl, rfl⟩ := hrel
    by_cases hlt : x < b
    · go_wp2
      go_round
      case rel =>
        have e := HE.out
        rcases absI_eq (x - b) with ⟨g, g'⟩ | ⟨g, g'⟩ <;> rcases absI_eq (x + 1 - b) with ⟨k, k'⟩ | ⟨k, k'⟩ <;> rcases absI_eq (a - b) with ⟨l, l'⟩ | ⟨l, l'⟩ <;>
          exact ⟨x + 1, d + 1, by omega, by omega, by omega, by omega, (show d + 1 + absI (x + 1 - b) = absI (a - b) by omega), rfl, rfl⟩
      case measure => simp [intOf]; omega
    · go_wp2
      go_loop [0, 5] (fun t r => ∃ x d : Int, b ≤ x ∧ x ≤ 10000 ∧ 0 ≤ d ∧ d ≤ 10000 ∧ Hid (d + absI (x - b) = absI (a - b)) ∧ t = .int .i64 x ∧ r = .int .i64 d) (fun t _ => (intOf t - b).toNat)
      case atStart => exact ⟨x, d, by omega, by omega, by omega, by omega, HE, rfl, rfl⟩
      case round =>
        obtain ⟨y, c, hy0, hy1, hc0, hc1, HF, rfl, rfl⟩ := hrel
        by_cases hgt : b < y
        · go_wp2
          go_round
          case rel =>
            have e := HF.out
            rcases absI_eq (y - b) with ⟨g, g'⟩ | ⟨g, g'⟩ <;> rcases absI_eq (y - 1 - b) with ⟨k, k'⟩ | ⟨k, k'⟩ <;> rcases absI_eq (a - b) with ⟨l, l'⟩ | ⟨l, l'⟩ <;>
              exact ⟨y - 1, c + 1, by omega, by omega, by omega, by omega, (show c + 1 + absI (y - 1 - b) = absI (a - b) by omega), rfl, rfl⟩
          case measure => simp [intOf]; omega
        · go_wp2
          go_ret
          have e := HF.out
          have g := absI_eq (y - b)
          exact ⟨ret_int (by omega), rfl⟩

set_option maxHeartbeats 1000000 in
theorem mhWalk (a0 a1 a2 : Int) (w0 : (Lit.int .u8 a0).wf = true) (w1 : (Lit.int .u16 a1).wf = true) (w2 : (Lit.int .u16 a2).wf = true) (w : World) :
    Calls Yba.prog 3 #[.int .u8 a0, .int .u16 a1, .int .u16 a2] w fun e w' => e = .returned (.bool true) ∧ Below w.heap.size w w' := by
  have b0 := bounds_u8 w0
  have b1 := bounds_u16 w1
  have b2 := bounds_u16 w2
  clear w0 w1 w2
  have hq1 : (1 + a0 % 32) * (1 + a0 % 32) ≤ 32 * 32 := Int.mul_le_mul (by omega) (by omega) (by omega) (by omega)
  have hq0 : 1 * 1 ≤ (1 + a0 % 32) * (1 + a0 % 32) := Int.mul_le_mul (by omega) (by omega) (by omega) (by omega)
  have hi0 := Int.emod_nonneg a1 (show (1 + a0 % 32) * (1 + a0 % 32) ≠ 0 by omega)
  have hi1 := Int.emod_lt_of_pos a1 (show 0 < (1 + a0 % 32) * (1 + a0 % 32) by omega)
  have hj0 := Int.emod_nonneg a2 (show (1 + a0 % 32) * (1 + a0 % 32) ≠ 0 by omega)
  have hj1 := Int.emod_lt_of_pos a2 (show 0 < (1 + a0 % 32) * (1 + a0 % 32) by omega)
  go_enter Yba.func3, Yba.ntmps3
  go_wp2_with fail
  generalize a1 % ((1 + a0 % 32) * (1 + a0 % 32)) = i at hi0 hi1 ⊢
  generalize a2 % ((1 + a0 % 32) * (1 + a0 % 32)) = j at hj0 hj1 ⊢
  have hs1 : 1 ≤ 1 + a0 % 32 := by omega
  have hs2 : 1 + a0 % 32 ≤ 32 := by omega
  generalize 1 + a0 % 32 = s at hq0 hq1 hi0 hi1 hj0 hj1 hs1 hs2 ⊢
  have hd : i / s ≤ i := Int.ediv_le_self _ hi0
  have hd0 : 0 ≤ i / s := Int.ediv_nonneg hi0 (by omega)
  have hm := Int.emod_lt_of_pos i (show 0 < s by omega)
  have hm0 := Int.emod_nonneg i (show s ≠ 0 by omega)
  have hd' : j / s ≤ j := Int.ediv_le_self _ hj0
  have hd0' : 0 ≤ j / s := Int.ediv_nonneg hj0 (by omega)
  have hm' := Int.emod_lt_of_pos j (show 0 < s by omega)
  have hm0' := Int.emod_nonneg j (show s ≠ 0 by omega)
  have a1 := absI_le (i / s - j / s) (by omega) (by omega)
  have a2 := absI_le (i % s - j % s) (by omega) (by omega)
  have hh : hopsI s i j = absI (i / s - j / s) + absI (i % s - j % s) := rfl
  refine (hops_any w.heap.size i j s _ ?_ (by omega) (by omega) (by omega) (by omega) (by omega) (by omega)).mono ?_
  · go_simp
  rintro e w' ⟨rfl, n1, rfl⟩
  go_wp2_with fail
  refine (subplace_any i s _ (by omega) (by omega) (by omega) (by omega)).mono ?_
  rintro e w' ⟨rfl, rfl⟩
  go_wp2_with fail
  refine (subplace_any j s _ (by omega) (by omega) (by omega) (by omega)).mono ?_
  rintro e w' ⟨rfl, rfl⟩
  go_wp2_with fail
  refine (steps_any (i / s) (j / s) _ (by omega) (by omega) (by omega) (by omega)).mono ?_
  rintro e w' ⟨rfl, rfl⟩
  go_wp2_with fail
  refine (steps_any (i % s) (j % s) _ (by omega) (by omega) (by omega) (by omega)).mono ?_
  rintro e w' ⟨rfl, rfl⟩
  go_wp2
  go_ret
  exact ⟨rfl, below_drewN ((Below.refl _ _).alloc (Nat.le_refl _) _) _⟩

end Go.Proofs.Ybulkcmxg
