import Derived.Test.YbulkcmxgRows
import Derived.WalkKit
import Derived.ProofKit
import Derived.Deep.QuietTactic
import Derived.BigQuiet
import Derived.Deep.Draws
import Derived.WalkSpells
import Derived.WalkSmall
namespace Go.Proofs.Ybulkcmxg
open Go.RowKit

theorem place_any (b : Nat) (i s : Int) (w : World) (hs : w.cell? ⟨b, 1, none⟩ = some (.int .i64 s))
    (h0 : 0 ≤ i) (h1 : i ≤ 100000) (h2 : 1 ≤ s) (h3 : s ≤ 100000) :
    Calls Yba.prog 16 #[.pointer (some ⟨b, 0, none⟩), .int .i64 i] w fun e w' =>
      e = .returned (.tuple #[.int .i64 (i / s), .int .i64 (i % s)]) ∧ ∃ n, w' = w.drewN n := by
  have hd : i / s ≤ i := Int.ediv_le_self _ h0
  have hd0 : 0 ≤ i / s := Int.ediv_nonneg h0 (by omega)
  have hm := Int.emod_lt_of_pos i (show 0 < s by omega)
  have hm0 := Int.emod_nonneg i (show s ≠ 0 by omega)
  go_enter Yba.func16, Yba.ntmps16
  go_wp2
  go_quiet (fail)
  go_wp2
  go_ret2
  exact ⟨rfl, _, rfl⟩

def absI (x : Int) : Int := if 0 ≤ x then x else -x

theorem ret_int {k : IntKind} {a b : Int} (h : a = b) : Ending.returned (.int k a) = .returned (.int k b) := by rw [h]

theorem abs_any (x : Int) (w : World) (h0 : -100000 ≤ x) (h1 : x ≤ 100000) :
    Calls Yba.prog 17 #[.int .i64 x] w fun e w' => e = .returned (.int .i64 (absI x)) ∧ w' = w := by
  go_enter Yba.func17, Yba.ntmps17
  go_wp2
  · go_ret
    exact ⟨ret_int (by unfold absI; rw [if_neg (by omega)]), rfl⟩
  · go_ret
    exact ⟨ret_int (by unfold absI; rw [if_pos (by omega)]), rfl⟩

def hopsI (s i j : Int) : Int := absI (i / s - j / s) + absI (i % s - j % s)

theorem absI_le (x : Int) (h0 : -100000 ≤ x) (h1 : x ≤ 100000) : 0 ≤ absI x ∧ absI x ≤ 100000 := by
  unfold absI; split <;> omega

theorem hops_any (b : Nat) (i j s : Int) (w : World) (hs : w.cell? ⟨b, 1, none⟩ = some (.int .i64 s))
    (h0 : 0 ≤ i) (h1 : i ≤ 100000) (h0' : 0 ≤ j) (h1' : j ≤ 100000) (h2 : 1 ≤ s) (h3 : s ≤ 100000) :
    Calls Yba.prog 7 #[.pointer (some ⟨b, 0, none⟩), .int .i64 i, .int .i64 j] w fun e w' =>
      e = .returned (.int .i64 (hopsI s i j)) ∧ ∃ n, w' = w.drewN n := by
  have hd : i / s ≤ i := Int.ediv_le_self _ h0
  have hd0 : 0 ≤ i / s := Int.ediv_nonneg h0 (by omega)
  have hm := Int.emod_lt_of_pos i (show 0 < s by omega)
  have hm0 := Int.emod_nonneg i (show s ≠ 0 by omega)
  have hd' : j / s ≤ j := Int.ediv_le_self _ h0'
  have hd0' : 0 ≤ j / s := Int.ediv_nonneg h0' (by omega)
  have hm' := Int.emod_lt_of_pos j (show 0 < s by omega)
  have hm0' := Int.emod_nonneg j (show s ≠ 0 by omega)
  have a1 := absI_le (i / s - j / s) (by omega) (by omega)
  have a2 := absI_le (i % s - j % s) (by omega) (by omega)
  go_enter Yba.func7, Yba.ntmps7
  go_wp2_with fail
  refine (place_any b i s _ (by exact hs) h0 h1 h2 h3).mono ?_
  rintro e w' ⟨rfl, n1, rfl⟩
  go_wp2_with fail
  refine (place_any b j s _ (by exact hs) h0' h1' h2 h3).mono ?_
  rintro e w' ⟨rfl, n2, rfl⟩
  go_wp2_with (go_at_call 17; refine (abs_any _ _ (by omega) (by omega)).mono ?_; rintro e w' ⟨rfl, rfl⟩)
  go_ret
  exact ⟨rfl, _, rfl⟩

/-- The four neighbours as plain numbers. -/
def nbUp (s i : Int) : Int := if 0 < i / s then i - s else -1
def nbLeft (s i : Int) : Int := if 0 < i % s then i - 1 else -1
def nbRight (m s i : Int) : Int := if i % s < s - 1 ∧ i + 1 < m then i + 1 else -1
def nbDown (m s i : Int) : Int := if i + s < m then i + s else -1

set_option maxHeartbeats 4000000 in
theorem neighbours_any (b : Nat) (i s m : Int) (w : World) (hb : b < w.heap.size) (hm : w.cell? ⟨b, 0, none⟩ = some (.int .i64 m)) (hs : w.cell? ⟨b, 1, none⟩ = some (.int .i64 s))
    (h0 : 0 ≤ i) (h1 : i ≤ 100000) (h2 : 1 ≤ s) (h3 : s ≤ 100000) (h4 : 0 ≤ m) (h5 : m ≤ 100000) :
    Calls Yba.prog 10 #[.pointer (some ⟨b, 0, none⟩), .int .i64 i] w fun e w' =>
      e = .returned (.agg #[.int .i64 (nbUp s i), .int .i64 (nbLeft s i), .int .i64 (nbRight m s i), .int .i64 (nbDown m s i)]) ∧ Below w.heap.size w w' := by
  have hd : i / s ≤ i := Int.ediv_le_self _ h0
  have hd0 : 0 ≤ i / s := Int.ediv_nonneg h0 (by omega)
  have hr := Int.emod_lt_of_pos i (show 0 < s by omega)
  have hr0 := Int.emod_nonneg i (show s ≠ 0 by omega)
  go_enter Yba.func10, Yba.ntmps10
  go_wp2_with fail
  refine (place_any b i s _ (by go_simp) h0 h1 h2 h3).mono ?_
  rintro e w' ⟨rfl, n1, rfl⟩
  go_wp2
  all_goals (go_quiet (fail); go_wp2)
  all_goals
    refine bodyPost_ret (v := .agg #[.int .i64 (nbUp s i), .int .i64 (nbLeft s i), .int .i64 (nbRight m s i), .int .i64 (nbDown m s i)]) ?_ rfl ⟨rfl, ?_⟩
    · simp [results, Yba.results10, go_sem]
      refine ⟨?_, ?_, ?_, ?_⟩
      · first | exact (if_pos (by omega)).symm | exact (if_neg (by omega)).symm
      · first | exact (if_pos (by omega)).symm | exact (if_neg (by omega)).symm
      · first | exact (if_pos (by omega)).symm | exact (if_neg (by omega)).symm
      · first | exact (if_pos (by omega)).symm | exact (if_neg (by omega)).symm
    · repeat' (first | with_reducible refine Below.setCell ?_ ?_ _ | with_reducible refine below_drewN ?_ _ | with_reducible refine Below.alloc ?_ ?_ _ | with_reducible exact Below.refl _ _ | (simp; done))

end Go.Proofs.Ybulkcmxg
