import Derived.Test.YbulkcmywRows
import Derived.WalkKit
import Derived.ProofKit
import Derived.Deep.QuietTactic
import Derived.BigQuiet
import Derived.Deep.Draws
import Derived.WalkSpells
import Derived.WalkSmall
import Derived.OpenShut
import Derived.Deep.RegionHeld3
namespace Go.Proofs.Ybulkcmyw
open Go.RowKit

/-- The first k neighbouring pairs are in order. -/
def srt (zs : List Int) : Nat → Bool
  | 0 => true
  | k + 1 => srt zs k && decide (zs.getD k 0 ≤ zs.getD (k + 1) 0)

theorem srt_false {zs : List Int} {k m : Nat} (h : srt zs k = false) (hkm : k ≤ m) : srt zs m = false := by
  induction m with
  | zero => have : k = 0 := by omega
            subst this; exact h
  | succ m ih =>
    by_cases e : k = m + 1
    · subst e; exact h
    · simp [srt, ih (by omega)]

theorem srt_yes {zs : List Int} {k : Nat} (h : srt zs k = true) (h' : zs.getD k 0 ≤ zs.getD (k + 1) 0) : srt zs (k + 1) = true := by
  simp only [srt, h, Bool.true_and, decide_eq_true_eq]; exact h'
theorem srt_no {zs : List Int} {k : Nat} (h' : zs.getD (k + 1) 0 < zs.getD k 0) : srt zs (k + 1) = false := by
  simp only [srt, decide_eq_false (Int.not_le.2 h'), Bool.and_false]

theorem ret_bool {a b : Bool} (h : a = b) : Ending.returned (.bool a) = .returned (.bool b) := by rw [h]

/-- What is read of a slice of ints: where it is not empty. -/
def IntsIn (w : World) (a : Option Addr) (n : Nat) (zs : List Int) : Prop :=
  n = 0 ∨ ∃ b off, a = some ⟨b, off, none⟩ ∧ b < w.heap.size ∧ ∀ j, j < n → w.cell? ⟨b, off + j, none⟩ = some (.int .i64 (zs.getD j 0))

theorem leq_any (x y : Int) (w : World) : Calls Yba.prog 7 #[.int .i64 x, .int .i64 y] w fun e w' => e = .returned (.bool (decide (x ≤ y))) ∧ ∃ q, w' = w.drewN q := by
  go_enter Yba.func7, Yba.ntmps7
  go_wp2
  all_goals (go_ret; exact ⟨by simp [*], 0, rfl⟩)

set_option maxHeartbeats 1000000 in
theorem every_sorted (a : Option Addr) (n c : Nat) (zs : List Int) (w : World) (hn : n ≤ 1024) (hz : IntsIn w a n zs) :
    Calls Yba.prog 6 #[.slice a n c, .func (.func 7) #[] #[]] w fun e w' => e = .returned (.bool (srt zs (n - 1))) ∧ ∃ q, w' = w.drewN q := by
  have HZ : Hid (IntsIn w a n zs) := hz
  clear hz
  go_enter Yba.func6, Yba.ntmps6
  go_wp2
  go_loopw [5] (fun i wr => ∃ k : Nat, (k = 0 ∨ k + 1 ≤ n) ∧ i = .int .i64 (k + 1 : Nat) ∧ srt zs k = true ∧ ∃ q, wr = w.drewN q) (fun i _ => n + 1 - (intOf i).toNat)
  case atStart => exact ⟨0, .inl rfl, rfl, rfl, 0, rfl⟩
  case round =>
    obtain ⟨k, hk, rfl, hs, q, rfl⟩ := hrel
    have HS : Hid (srt zs k = true) := hs
    clear hs
    by_cases hlt : k + 1 < n
    · rcases HZ.out with h | ⟨b, off, rfl, _, hc⟩
      · omega
      obtain ⟨x, ex⟩ : ∃ x, x = zs.getD k 0 := ⟨_, rfl⟩
      obtain ⟨y, ey⟩ : ∃ y, y = zs.getD (k + 1) 0 := ⟨_, rfl⟩
      have d1 := hc k (by omega)
      have d2 := hc (k + 1) hlt
      rw [← ex] at d1
      rw [← ey] at d2
      have EX : Hid (x = zs.getD k 0) := ex
      have EY : Hid (y = zs.getD (k + 1) 0) := ey
      clear ex ey hc
      have b1 : (k : Int) < (n : Int) := by omega
      have b2 : (k : Int) + 1 < (n : Int) := by omega
      have b3 : (0 : Int) ≤ (k : Int) + 1 := by omega
      have t1 : ((k : Int) + 1).toNat = k + 1 := by omega
      have wk : IntKind.i64.wrap (k : Int) = (k : Int) := IntWalk.i64_in _ (by omega)
      by_cases hxy : x ≤ y
      · have hd : decide (x ≤ y) = true := by simpa using hxy
        have HXY : Hid (x ≤ y) := hxy
        clear hxy
        go_wp2
        go_region_held3 (fun w' => w'.cell? ⟨b, off + k, none⟩ = some (.int .i64 x) ∧ w'.cell? ⟨b, off + (k + 1), none⟩ = some (.int .i64 y)) (go_keep) ((go_at_call 7; refine (leq_any _ _ _).mono ?_; rintro e w' ⟨rfl, q', rfl⟩))
        go_wp2
        go_roundw
        case rel => exact ⟨k + 1, .inr (by omega), by go_num, srt_yes HS.out (by rw [← EX.out, ← EY.out]; exact HXY.out), _, rfl⟩
        case measure => simp [intOf]; omega
      · have hd : decide (x ≤ y) = false := by simpa using hxy
        have HXY : Hid (y < x) := Int.not_le.1 hxy
        clear hxy
        go_wp2
        go_region_held3 (fun w' => w'.cell? ⟨b, off + k, none⟩ = some (.int .i64 x) ∧ w'.cell? ⟨b, off + (k + 1), none⟩ = some (.int .i64 y)) (go_keep) ((go_at_call 7; refine (leq_any _ _ _).mono ?_; rintro e w' ⟨rfl, q', rfl⟩))
        go_wp2
        go_ret
        exact ⟨ret_bool (srt_false (srt_no (k := k) (by rw [← EX.out, ← EY.out]; exact HXY.out)) (by omega)).symm, _, rfl⟩
    · go_wp2
      go_ret
      refine ⟨ret_bool ?_, q, rfl⟩
      have e : k = n - 1 ∨ n ≤ 1 := by omega
      rcases e with e | e
      · rw [← e, HS.out]
      · have e0 : n - 1 = 0 := by omega
        rw [e0]; rfl

set_option maxHeartbeats 1000000 in
theorem sorted_walk (a : Option Addr) (n c : Nat) (zs : List Int) (w : World) (hn : n ≤ 1024) (hz : IntsIn w a n zs) :
    Calls Yba.prog 4 #[.slice a n c] w fun e w' => e = .returned (.bool true) ∧ Below w.heap.size w w' := by
  have HZ : Hid (IntsIn w a n zs) := hz
  clear hz
  go_enter Yba.func4, Yba.ntmps4
  go_wp2_with fail
  refine (every_sorted a n c zs w hn HZ.out).mono ?_
  rintro e w1 ⟨rfl, q0, rfl⟩
  go_wp2
  go_loopw [4, 5] (fun v i wr => ∃ k : Nat, (k = 0 ∨ k + 1 ≤ n) ∧ i = .int .i64 (k : Nat) ∧ v = .bool (srt zs k) ∧ ∃ q, wr = w.drewN q) (fun _ i _ => n + 1 - (intOf i).toNat)
  case atStart => exact ⟨0, .inl rfl, rfl, rfl, q0, rfl⟩
  case round =>
    obtain ⟨k, hk, rfl, rfl, q, rfl⟩ := hrel
    by_cases hlt : k + 1 < n
    · rcases HZ.out with h | ⟨b, off, rfl, _, hc⟩
      · omega
      obtain ⟨x, ex⟩ : ∃ x, x = zs.getD k 0 := ⟨_, rfl⟩
      obtain ⟨y, ey⟩ : ∃ y, y = zs.getD (k + 1) 0 := ⟨_, rfl⟩
      have d1 := hc k (by omega)
      have d2 := hc (k + 1) hlt
      rw [← ex] at d1
      rw [← ey] at d2
      have EX : Hid (x = zs.getD k 0) := ex
      have EY : Hid (y = zs.getD (k + 1) 0) := ey
      clear ex ey hc
      have b1 : (k : Int) < (n : Int) := by omega
      have b2 : (k : Int) + 1 < (n : Int) := by omega
      have b3 : (0 : Int) ≤ (k : Int) + 1 := by omega
      have t1 : ((k : Int) + 1).toNat = k + 1 := by omega
      have wk : IntKind.i64.wrap ((k : Int) + 1) = (k : Int) + 1 := IntWalk.i64_in _ (by omega)
      by_cases hxy : x ≤ y
      · have hd : decide (y < x) = false := by simpa using hxy
        have HXY : Hid (x ≤ y) := hxy
        clear hxy
        go_wp2
        go_quiet (fail)
        go_wp2
        go_roundw
        case rel =>
          refine ⟨k + 1, .inr (by omega), by go_num, ?_, _, rfl⟩
          have : srt zs (k + 1) = srt zs k := by simp only [srt, ← EX.out, ← EY.out, decide_eq_true HXY.out, Bool.and_true]
          rw [this]
        case measure => simp [intOf]; omega
      · have hd : decide (y < x) = true := by simpa using hxy
        have HXY : Hid (y < x) := Int.not_le.1 hxy
        clear hxy
        go_wp2
        go_quiet (fail)
        go_wp2
        go_roundw
        case rel => exact ⟨k + 1, .inr (by omega), by go_num, by rw [srt_no (by rw [← EX.out, ← EY.out]; exact HXY.out)], _, rfl⟩
        case measure => simp [intOf]; omega
    · have e : srt zs k = srt zs (n - 1) := by
        have e : k = n - 1 ∨ n ≤ 1 := by omega
        rcases e with e | e
        · rw [← e]
        · have e0 : n - 1 = 0 := by omega
          have e1 : k = 0 := by omega
          rw [e0, e1]
      have HE : Hid (srt zs k = srt zs (n - 1)) := e
      clear e
      go_wp2
      go_ret
      exact ⟨ret_bool (by rw [HE.out]; simp), below_drewN (Below.refl _ _) _⟩

theorem sorted_big (a : Option Addr) (n c : Nat) (w : World) (hm : n ≤ maxLen) (h : 1024 < n) :
    Calls Yba.prog 4 #[.slice a n c] w fun e w' => e = .returned (.bool true) ∧ Below w.heap.size w w' := by
  unfold maxLen at hm
  go_enter Yba.func4, Yba.ntmps4
  go_wp2
  go_ret
  exact ⟨rfl, Below.refl _ _⟩

end Go.Proofs.Ybulkcmyw
