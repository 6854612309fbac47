import Derived.Test.YbulkcmxgGrid
namespace Go.Proofs.Ybulkcmxg

theorem div_at (s q r : Int) (hr : 0 ≤ r) (hs : r < s) : (q * s + r) / s = q := by
  have h0 : s ≠ 0 := by omega
  have h1 : (q * s + r) = r + q * s := by omega
  have h2 : r / s = 0 := Int.ediv_eq_zero_of_lt hr hs
  rw [h1, Int.add_mul_ediv_right _ _ h0, h2]; omega
theorem mod_at (s q r : Int) (hr : 0 ≤ r) (hs : r < s) : (q * s + r) % s = r := by
  have h1 : (q * s + r) = r + q * s := by omega
  rw [h1, Int.add_mul_emod_self_right]; exact Int.emod_eq_of_lt hr hs

theorem hops_at (s q r q' r' : Int) (hr : 0 ≤ r) (hs : r < s) (hr' : 0 ≤ r') (hs' : r' < s) :
    hopsI s (q * s + r) (q' * s + r') = absI (q - q') + absI (r - r') := by
  unfold hopsI
  rw [div_at s q r hr hs, mod_at s q r hr hs, div_at s q' r' hr' hs', mod_at s q' r' hr' hs']

theorem absI_zero : absI 0 = 0 := rfl
theorem absI_one : absI 1 = 1 := rfl
theorem absI_neg_one : absI (-1) = 1 := rfl

theorem hops_self (s i : Int) : hopsI s i i = 0 := by
  unfold hopsI; rw [Int.sub_self, Int.sub_self]; rfl

def OkNb (s i n : Int) : Prop := n < 0 ∨ (0 ≤ n ∧ n ≤ 100000 ∧ hopsI s i n = 1 ∧ hopsI s n i = 1)

theorem split_i (s i : Int) (h0 : 0 ≤ i) (h2 : 1 ≤ s) : ∃ q r, i = q * s + r ∧ 0 ≤ q ∧ 0 ≤ r ∧ r < s ∧ i / s = q ∧ i % s = r :=
  ⟨i / s, i % s, by have := Int.mul_ediv_add_emod i s; rw [Int.mul_comm] at this; omega, Int.ediv_nonneg h0 (by omega), Int.emod_nonneg _ (by omega), Int.emod_lt_of_pos _ (by omega), rfl, rfl⟩

theorem ok_up (s i : Int) (h0 : 0 ≤ i) (h1 : i ≤ 10000) (h2 : 1 ≤ s) (h3 : s ≤ 10000) : OkNb s i (nbUp s i) := by
  obtain ⟨q, r, e, hq, hr, hrs, e1, e2⟩ := split_i s i h0 h2
  unfold nbUp; rw [e1]
  split
  · have e3 : i - s = (q - 1) * s + r := by rw [e, Int.sub_mul]; omega
    have hn : 0 ≤ (q - 1) * s := Int.mul_nonneg (by omega) (by omega)
    refine .inr ⟨by omega, by omega, ?_, ?_⟩
    · rw [e3, e, hops_at _ _ _ _ _ hr hrs hr hrs, show q - (q - 1) = 1 by omega, show r - r = 0 by omega]; rfl
    · rw [e3, e, hops_at _ _ _ _ _ hr hrs hr hrs, show q - 1 - q = -1 by omega, show r - r = 0 by omega]; rfl
  · exact .inl (by omega)

theorem ok_left (s i : Int) (h0 : 0 ≤ i) (h1 : i ≤ 10000) (h2 : 1 ≤ s) : OkNb s i (nbLeft s i) := by
  obtain ⟨q, r, e, hq, hr, hrs, e1, e2⟩ := split_i s i h0 h2
  unfold nbLeft; rw [e2]
  have hn : 0 ≤ q * s := Int.mul_nonneg hq (by omega)
  split
  · have e3 : i - 1 = q * s + (r - 1) := by omega
    refine .inr ⟨by omega, by omega, ?_, ?_⟩
    · rw [e3, e, hops_at _ _ _ _ _ hr hrs (by omega) (by omega), show q - q = 0 by omega, show r - (r - 1) = 1 by omega]; rfl
    · rw [e3, e, hops_at _ _ _ _ _ (by omega) (by omega) hr hrs, show q - q = 0 by omega, show r - 1 - r = -1 by omega]; rfl
  · exact .inl (by omega)

theorem ok_right (m s i : Int) (h0 : 0 ≤ i) (h1 : i ≤ 10000) (h2 : 1 ≤ s) : OkNb s i (nbRight m s i) := by
  obtain ⟨q, r, e, hq, hr, hrs, e1, e2⟩ := split_i s i h0 h2
  unfold nbRight; rw [e2]
  have hn : 0 ≤ q * s := Int.mul_nonneg hq (by omega)
  split
  · have e3 : i + 1 = q * s + (r + 1) := by omega
    refine .inr ⟨by omega, by omega, ?_, ?_⟩
    · rw [e3, e, hops_at _ _ _ _ _ hr hrs (by omega) (by omega), show q - q = 0 by omega, show r - (r + 1) = -1 by omega]; rfl
    · rw [e3, e, hops_at _ _ _ _ _ (by omega) (by omega) hr hrs, show q - q = 0 by omega, show r + 1 - r = 1 by omega]; rfl
  · exact .inl (by omega)

theorem ok_down (m s i : Int) (h0 : 0 ≤ i) (h1 : i ≤ 10000) (h2 : 1 ≤ s) (h3 : s ≤ 10000) : OkNb s i (nbDown m s i) := by
  obtain ⟨q, r, e, hq, hr, hrs, e1, e2⟩ := split_i s i h0 h2
  unfold nbDown
  split
  · have e3 : i + s = (q + 1) * s + r := by rw [e, Int.add_mul]; omega
    refine .inr ⟨by omega, by omega, ?_, ?_⟩
    · rw [e3, e, hops_at _ _ _ _ _ hr hrs hr hrs, show q - (q + 1) = -1 by omega, show r - r = 0 by omega]; rfl
    · rw [e3, e, hops_at _ _ _ _ _ hr hrs hr hrs, show q + 1 - q = 1 by omega, show r - r = 0 by omega]; rfl
  · exact .inl (by omega)

end Go.Proofs.Ybulkcmxg
