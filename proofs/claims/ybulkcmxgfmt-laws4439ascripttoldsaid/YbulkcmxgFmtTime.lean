import Derived.Test.YbulkcmxgFmtNode
import Derived.Laws.BitsLemmas
import Derived.Laws.Bits64
namespace Go.Proofs.YbulkcmxgFmt
open Go.RowKit

theorem wraps63 (n : Int) (h₀ : 0 ≤ n) (h₁ : n < 2 ^ 63) : IntKind.u64.wrap n = n := by rw [IntKind.wrap_u64]; omega

theorem bits_low (n : Int) (h0 : 0 ≤ n) (h1 : n < 1073741824) : bits .and .u64 n 1073741823 = n := by
  have h := bits_mask .u64 63 (by decide) wraps63 30 (by decide) n h0 (by omega)
  have e : ((2 : Int) ^ 30 - 1) = 1073741823 := by decide
  have e2 : ((2 : Int) ^ 30) = 1073741824 := by decide
  rw [e, e2] at h
  rw [h]; omega

theorem bits_high (n : Int) (h0 : 0 ≤ n) (h1 : n < 1073741824) : bits .and .u64 n 9223372036854775808 = 0 := by
  obtain ⟨k, rfl⟩ : ∃ k : Nat, n = k := ⟨n.toNat, by omega⟩
  have hk : k < 1073741824 := by omega
  have : (BitVec.ofInt 64 (k : Int) &&& BitVec.ofInt 64 9223372036854775808) = 0#64 := by
    have e1 : BitVec.ofInt 64 (k : Int) = BitVec.ofNat 64 k := by simp
    have e2 : BitVec.ofInt 64 9223372036854775808 = BitVec.ofNat 64 (2 ^ 63) := by decide
    rw [e1, e2]
    apply BitVec.eq_of_toNat_eq
    rw [BitVec.toNat_and, BitVec.toNat_ofNat, BitVec.toNat_ofNat, Nat.mod_eq_of_lt (by omega : k < 2 ^ 64), Nat.mod_eq_of_lt (by decide : 2 ^ 63 < 2 ^ 64)]
    apply Nat.eq_of_testBit_eq
    intro i
    rw [Nat.testBit_and, Nat.testBit_two_pow]
    by_cases hi : 63 = i
    · subst hi
      rw [Nat.testBit_lt_two_pow (by omega : k < 2 ^ 63)]; simp
    · simp [hi]
  show IntKind.u64.wrap (((BitVec.ofInt 64 (k : Int) &&& BitVec.ofInt 64 9223372036854775808).toNat : Nat) : Int) = 0
  rw [this]; decide

theorem bits_clear : bits .andNot .u64 0 1073741823 = 0 := by decide

theorem bits_set (n : Int) (h0 : 0 ≤ n) (h1 : n < 1073741824) : bits .or .u64 0 n = n := by
  obtain ⟨k, rfl⟩ : ∃ k : Nat, n = k := ⟨n.toNat, by omega⟩
  have h := (bits_nat .u64 63 (by decide) wraps63 0 k (by decide) (by omega)).2
  simpa using h

theorem nsec_any (b : Nat) (n : Int) (w : World) (h0 : 0 ≤ n) (h1 : n < 1073741824) (hc : w.cell? ⟨b, 0, none⟩ = some (.int .u64 n)) :
    Calls Ybaf.prog 15 #[.pointer (some ⟨b, 0, none⟩)] w fun e w' => e = .returned (.int .i32 n) ∧ w' = w := by
  have hb := bits_low n h0 h1
  go_enter Ybaf.func15, Ybaf.ntmps15
  go_wp2
  go_ret
  exact ⟨rfl, rfl⟩

theorem sec_any (b : Nat) (n x : Int) (w : World) (h0 : 0 ≤ n) (h1 : n < 1073741824) (hc : w.cell? ⟨b, 0, none⟩ = some (.int .u64 n)) (hx : w.cell? ⟨b, 1, none⟩ = some (.int .i64 x)) :
    Calls Ybaf.prog 23 #[.pointer (some ⟨b, 0, none⟩)] w fun e w' => e = .returned (.int .i64 x) ∧ w' = w := by
  have hb := bits_high n h0 h1
  go_enter Ybaf.func23, Ybaf.ntmps23
  go_wp2
  go_ret
  exact ⟨rfl, rfl⟩

theorem addSec_any (b : Nat) (n d : Int) (w : World) (h0 : 0 ≤ n) (h1 : n < 1073741824) (hd : -9223372036854775808 ≤ d) (hd1 : d ≤ 9223372036854775807) (hf : w.frozen? ⟨b, 1, none⟩ = false) (hc : w.cell? ⟨b, 0, none⟩ = some (.int .u64 n)) (hx : w.cell? ⟨b, 1, none⟩ = some (.int .i64 0)) :
    Calls Ybaf.prog 16 #[.pointer (some ⟨b, 0, none⟩), .int .i64 d] w fun e w' => e = .returned (.tuple #[]) ∧ w' = w.setCell ⟨b, 1, none⟩ (.int .i64 d) := by
  have hb := bits_high n h0 h1
  go_enter Ybaf.func16, Ybaf.ntmps16
  go_wp2
  go_end0
  exact ⟨rfl, rfl⟩

theorem tmod_in (t : Int) : -1000000000 < t.tmod 1000000000 ∧ t.tmod 1000000000 < 1000000000 :=
  ⟨Int.lt_tmod_of_pos t (by decide), Int.tmod_lt_of_pos t (by decide)⟩
theorem tdiv_in (t : Int) (h0 : -9223372036854775808 ≤ t) (h1 : t ≤ 9223372036854775807) : -9223372037 ≤ t.tdiv 1000000000 ∧ t.tdiv 1000000000 ≤ 9223372037 := by
  obtain ⟨a, b⟩ := tmod_in t
  have := Int.mul_tdiv_add_tmod t 1000000000
  omega

set_option maxHeartbeats 1000000 in
theorem add_any (t : Int) (w : World) (h0 : -9223372036854775808 ≤ t) (h1 : t ≤ 9223372036854775807) :
    Calls Ybaf.prog 6 #[.agg #[.int .u64 0, .int .i64 0, .pointer none], .int .i64 t] w fun e w' => ∃ n x, 0 ≤ n ∧ n < 1073741824 ∧ -9223372036854775808 ≤ x ∧ x ≤ 9223372036854775807 ∧ e = .returned (.agg #[.int .u64 n, .int .i64 x, .pointer none]) ∧ Below w.heap.size w w' := by
  obtain ⟨d0, d1⟩ := tdiv_in t h0 h1
  obtain ⟨m0, m1⟩ := tmod_in t
  have hc := bits_clear
  go_enter Ybaf.func6, Ybaf.ntmps6
  go_wp2_with fail
  refine (nsec_any w.heap.size 0 _ (by decide) (by decide) ?_).mono ?_
  · simp
  rintro e w1 ⟨rfl, rfl⟩
  go_wp2_with fail
  · have q0 : 0 ≤ t.tmod 1000000000 + 1000000000 := by omega
    have q1 : t.tmod 1000000000 + 1000000000 < 1073741824 := by omega
    have x0 : -9223372036854775808 ≤ t.tdiv 1000000000 - 1 := by omega
    have x1 : t.tdiv 1000000000 - 1 ≤ 9223372036854775807 := by omega
    rw [bits_set _ q0 q1]
    have hb := bits_high _ q0 q1
    refine (addSec_any w.heap.size (t.tmod 1000000000 + 1000000000) (t.tdiv 1000000000 - 1) _ q0 q1 x0 x1 ?_ ?_ ?_).mono ?_
    · simp
    · simp
    · simp
    rintro e w1 ⟨rfl, rfl⟩
    go_wp2
    refine bodyPost_ret (v := .agg #[.int .u64 (t.tmod 1000000000 + 1000000000), .int .i64 (t.tdiv 1000000000 - 1), .pointer none]) (by simp [results, Ybaf.results6, go_sem]) rfl ⟨_, _, q0, q1, x0, x1, rfl, ?_⟩
    exact ((Below.refl _ _).alloc (Nat.le_refl _) _).alloc (by simp) _
  · have hneg : 0 ≤ t.tmod 1000000000 := by assumption
    have q1 : t.tmod 1000000000 < 1073741824 := by omega
    have x0 : -9223372036854775808 ≤ t.tdiv 1000000000 := by omega
    have x1 : t.tdiv 1000000000 ≤ 9223372036854775807 := by omega
    rw [bits_set _ hneg q1]
    have hb := bits_high _ hneg q1
    refine (addSec_any w.heap.size (t.tmod 1000000000) (t.tdiv 1000000000) _ hneg q1 x0 x1 ?_ ?_ ?_).mono ?_
    · simp
    · simp
    · simp
    rintro e w1 ⟨rfl, rfl⟩
    go_wp2
    refine bodyPost_ret (v := .agg #[.int .u64 (t.tmod 1000000000), .int .i64 (t.tdiv 1000000000), .pointer none]) (by simp [results, Ybaf.results6, go_sem]) rfl ⟨_, _, hneg, q1, x0, x1, rfl, ?_⟩
    exact ((Below.refl _ _).alloc (Nat.le_refl _) _).alloc (by simp) _

theorem bits_self (n : Int) (h0 : 0 ≤ n) (h1 : n < 1073741824) : bits .and .u64 n n = n := by
  obtain ⟨k, rfl⟩ : ∃ k : Nat, n = k := ⟨n.toNat, by omega⟩
  have h := (bits_nat .u64 63 (by decide) wraps63 k k (by omega) (by omega)).1
  simpa using h

theorem equal_any (n x : Int) (w : World) (h0 : 0 ≤ n) (h1 : n < 1073741824) :
    Calls Ybaf.prog 20 #[.agg #[.int .u64 n, .int .i64 x, .pointer none], .agg #[.int .u64 n, .int .i64 x, .pointer none]] w fun e w' => e = .returned (.bool true) ∧ w' = (w.alloc (.cells #[.int .u64 n, .int .i64 x, .pointer none] 38)).alloc (.cells #[.int .u64 n, .int .i64 x, .pointer none] 38) := by
  have hb := bits_high n h0 h1
  have hs := bits_self n h0 h1
  go_enter Ybaf.func20, Ybaf.ntmps20
  go_wp2_with fail
  refine (sec_any w.heap.size n x _ h0 h1 (by simp) (by simp)).mono ?_
  rintro e w1 ⟨rfl, rfl⟩
  go_wp2_with fail
  refine (sec_any (w.heap.size + 1) n x _ h0 h1 (by simp) (by simp)).mono ?_
  rintro e w1 ⟨rfl, rfl⟩
  go_wp2_with fail
  refine (nsec_any w.heap.size n _ h0 h1 (by simp)).mono ?_
  rintro e w1 ⟨rfl, rfl⟩
  go_wp2_with fail
  refine (nsec_any (w.heap.size + 1) n _ h0 h1 (by simp)).mono ?_
  rintro e w1 ⟨rfl, rfl⟩
  go_wp2
  go_ret
  exact ⟨rfl, rfl⟩

/-- A Change's value. -/
abbrev chgCells (k st n x q : Int) : Array Value := #[.int .i64 k, .int .u8 st, .int .u64 n, .int .i64 x, .pointer none, .int .u64 q]

theorem same_any (k st n x q : Int) (w : World) (h0 : 0 ≤ n) (h1 : n < 1073741824) :
    Calls Ybaf.prog 9 #[.agg (chgCells k st n x q), .agg (chgCells k st n x q)] w fun e w' => e = .returned (.bool true) ∧ Below w.heap.size w w' := by
  go_enter Ybaf.func9, Ybaf.ntmps9
  go_wp2_with fail
  refine (equal_any n x _ h0 h1).mono ?_
  rintro e w1 ⟨rfl, rfl⟩
  go_wp2
  go_ret
  exact ⟨rfl, ((((Below.refl _ _).alloc (Nat.le_refl _) _).alloc (by simp) _).alloc (by simp; omega) _).alloc (by simp; omega) _⟩

/-- The standing as the law says it. -/
def stOf (g b f : Bool) : Int := if g || b then 2 else if f then 1 else 0

theorem standing_any (g b f : Bool) (w : World) :
    Calls Ybaf.prog 8 #[.bool g, .bool b, .bool f] w fun e w' => e = .returned (.int .u8 (stOf g b f)) ∧ w' = w := by
  cases g <;> cases b <;> cases f <;> (go_enter Ybaf.func8, Ybaf.ntmps8; go_wp2; go_ret; exact ⟨rfl, rfl⟩)

end Go.Proofs.YbulkcmxgFmt
