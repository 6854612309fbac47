import Derived.Test.YbulkcmxgLate
namespace Go.Proofs.Ybulkcmxg

/-- The places that a span names, in order. -/
def places (s : Int × Int) : List Int := (List.range (s.2 - s.1 + 1).toNat).map fun (i : Nat) => s.1 + (i : Int)
/-- Not held late for member k. -/
def free (k : Int) (H : List (Int × Int)) (q : Int) : Bool := !(H.any (heldB k q))
def wantOf (k : Int) (H S : List (Int × Int)) : List Int := (S.flatMap places).filter (free k H)
def wantUpto (k : Int) (H S : List (Int × Int)) (a i : Nat) : List Int := wantOf k H (S.take a) ++ ((places (S.getD a (0, 0))).take i).filter (free k H)

theorem places_length (s : Int × Int) : (places s).length = (s.2 - s.1 + 1).toNat := by simp [places]
theorem places_get (s : Int × Int) (i : Nat) (h : i < (places s).length) : (places s)[i] = s.1 + (i : Int) := by simp [places]

theorem upto_start (k : Int) (H S : List (Int × Int)) : wantUpto k H S 0 0 = [] := by simp [wantUpto, wantOf]
theorem upto_zero (k : Int) (H S : List (Int × Int)) (a : Nat) : wantUpto k H S a 0 = wantOf k H (S.take a) := by simp [wantUpto]
theorem upto_all (k : Int) (H S : List (Int × Int)) (a : Nat) (h : S.length ≤ a) : wantUpto k H S a 0 = wantOf k H S := by rw [upto_zero, List.take_of_length_le h]

theorem take_succ_places (s : Int × Int) (i : Nat) (h : i < (s.2 - s.1 + 1).toNat) : (places s).take (i + 1) = (places s).take i ++ [s.1 + (i : Int)] := by
  rw [List.take_succ_eq_append_getElem (by rw [places_length]; exact h), places_get]

theorem upto_hit (k : Int) (H S : List (Int × Int)) (a i : Nat) {f l : Int} (e : S.getD a (0, 0) = (f, l)) (h : i < (l - f + 1).toNat) (hf : free k H (f + i) = true) :
    wantUpto k H S a (i + 1) = wantUpto k H S a i ++ [f + i] := by
  unfold wantUpto; rw [e, take_succ_places (f, l) i h, List.filter_append]; simp [hf]
theorem upto_miss (k : Int) (H S : List (Int × Int)) (a i : Nat) {f l : Int} (e : S.getD a (0, 0) = (f, l)) (h : i < (l - f + 1).toNat) (hf : free k H (f + i) = false) :
    wantUpto k H S a (i + 1) = wantUpto k H S a i := by
  unfold wantUpto; rw [e, take_succ_places (f, l) i h, List.filter_append]; simp [hf]

theorem wantOf_append (k : Int) (H A B : List (Int × Int)) : wantOf k H (A ++ B) = wantOf k H A ++ wantOf k H B := by simp [wantOf, List.flatMap_append, List.filter_append]

theorem take_succ_getD {α : Type} (l : List α) (d : α) (a : Nat) (h : a < l.length) : l.take (a + 1) = l.take a ++ [l.getD a d] := by
  rw [List.take_succ_eq_append_getElem h]; simp [List.getD, List.getElem?_eq_getElem h]

theorem upto_next (k : Int) (H S : List (Int × Int)) (a i : Nat) {f l : Int} (ha : a < S.length) (e : S.getD a (0, 0) = (f, l)) (h : (l - f + 1).toNat ≤ i) :
    wantUpto k H S (a + 1) 0 = wantUpto k H S a i := by
  rw [upto_zero, take_succ_getD S (0, 0) a ha, wantOf_append]
  unfold wantUpto
  rw [e, List.take_of_length_le (l := places (f, l)) (by rw [places_length]; exact h)]
  simp [wantOf]

theorem upto_prefix (k : Int) (H S : List (Int × Int)) (a i : Nat) (ha : a < S.length) : wantUpto k H S a i <+: wantOf k H S := by
  have e : S = S.take a ++ (S.getD a (0, 0) :: S.drop (a + 1)) := by
    have : S.drop a = S.getD a (0, 0) :: S.drop (a + 1) := by rw [List.drop_eq_getElem_cons ha]; simp [List.getD, List.getElem?_eq_getElem ha]
    rw [← this, List.take_append_drop]
  refine ⟨((places (S.getD a (0, 0))).drop i).filter (free k H) ++ wantOf k H (S.drop (a + 1)), ?_⟩
  have e2 : wantOf k H S = wantOf k H (S.take a) ++ ((places (S.getD a (0, 0))).filter (free k H) ++ wantOf k H (S.drop (a + 1))) := by
    conv => lhs; rw [e]
    rw [wantOf_append]; simp [wantOf]
  rw [e2]
  unfold wantUpto
  have e3 : (places (S.getD a (0, 0))).filter (free k H) = ((places (S.getD a (0, 0))).take i).filter (free k H) ++ ((places (S.getD a (0, 0))).drop i).filter (free k H) := by
    rw [← List.filter_append, List.take_append_drop]
  rw [e3]; simp

/-- The n-th of what is wanted, where the walk stands at a free place. -/
theorem want_at (k : Int) (H S : List (Int × Int)) (a i : Nat) {f l : Int} (ha : a < S.length) (e : S.getD a (0, 0) = (f, l)) (h : i < (l - f + 1).toNat) (hf : free k H (f + i) = true) :
    (wantUpto k H S a i).length < (wantOf k H S).length ∧ (wantOf k H S)[(wantUpto k H S a i).length]? = some (f + i) := by
  obtain ⟨t, ht⟩ := upto_prefix k H S a (i + 1) ha
  rw [upto_hit k H S a i e h hf] at ht
  constructor
  · rw [← ht]; simp
  · rw [← ht]; simp

theorem upto_le (k : Int) (H S : List (Int × Int)) (a i : Nat) (ha : a < S.length) : (wantUpto k H S a i).length ≤ (wantOf k H S).length := (upto_prefix k H S a i ha).length_le

theorem flatMap_places_le (S : List (Int × Int)) (h : ∀ s ∈ S, s.2 - s.1 ≤ 7) : (S.flatMap places).length ≤ 8 * S.length := by
  induction S with
  | nil => simp
  | cons s S ih =>
    have h1 := h s (by simp)
    have h2 := ih (fun s hs => h s (by simp [hs]))
    simp only [List.flatMap_cons, List.length_append, places_length, List.length_cons]
    omega
theorem wantOf_le (k : Int) (H S : List (Int × Int)) (h : ∀ s ∈ S, s.2 - s.1 ≤ 7) : (wantOf k H S).length ≤ 8 * S.length :=
  Nat.le_trans (List.length_filter_le _ _) (flatMap_places_le S h)

end Go.Proofs.Ybulkcmxg
