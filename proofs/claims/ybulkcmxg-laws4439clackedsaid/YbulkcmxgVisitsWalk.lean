import Derived.Test.YbulkcmxgBuild
import Derived.Test.YbulkcmxgVisit
namespace Go.Proofs.Ybulkcmxg
open Go.RowKit

theorem u64s_get (xs : List Int) (j : Nat) (h : j < xs.length) : (u64s xs)[j]? = some (.int .u64 (xs.getD j 0)) := by
  simp [u64s, List.getD, List.getElem?_eq_getElem h]

theorem rowU_of {w : World} {base : Nat} {v : Value} {n : Nat} {xs : List Int} (h : w.ownsRow base 41 1 v n (u64s xs)) (hn : xs.length = n) :
    ∃ a cap, v = .slice a n cap ∧ n ≤ cap ∧ RowU w a xs ∧ (0 < n → ∃ g, a = some ⟨g, 0, none⟩) ∧ ∀ g, a = some ⟨g, 0, none⟩ → g < w.heap.size := by
  rcases h.2 with ⟨e, h0⟩ | ⟨g, cap, cur, e, r⟩
  · subst e; subst h0
    exact ⟨none, 0, rfl, Nat.le_refl _, .inl (List.eq_nil_of_length_eq_zero hn), fun h => by omega, fun g h => by cases h⟩
  · subst e
    refine ⟨some ⟨g, 0, none⟩, cap, rfl, r.2.2.1, .inr ⟨g, rfl, fun j hj => own_cell h (u64s_get xs j hj)⟩, fun _ => ⟨g, rfl⟩, fun g' h' => ?_⟩
    cases h'; exact (h.lt g rfl).2

theorem RowU.below {w w' : World} {B : Nat} {a : Option Addr} {xs : List Int} (h : RowU w a xs) (hB : Below B w w') (hg : ∀ g, a = some ⟨g, 0, none⟩ → g < B) : RowU w' a xs := by
  rcases h with h | ⟨g, rfl, h⟩
  · exact .inl h
  · exact .inr ⟨g, rfl, fun j hj => (hB.cell (by exact hg g rfl)).trans (h j hj)⟩

theorem RowU.take {w : World} {a : Option Addr} {xs : List Int} (h : RowU w a xs) (n : Nat) : RowU w a (xs.take n) := by
  rcases h with rfl | ⟨g, rfl, h⟩
  · exact .inl (by simp)
  · refine .inr ⟨g, rfl, fun j hj => ?_⟩
    have hj' : j < n ∧ j < xs.length := by simpa [List.length_take, Nat.lt_min] using hj
    rw [h j hj'.2]
    simp [List.getD, hj'.1]

theorem logAt_start (want : List Int) (stop : Int) (w : World) :
    LogAt want stop (w.heap.size + 1) w.heap.size 0 (fun b => b = w.heap.size + 1 ∨ (Value.slice none 0 0).ownBlock = some b) ((w.alloc (.cells #[.int .i64 stop] 3)).alloc (.cells #[.slice none 0 0] 37)) := by
  refine ⟨.slice none 0 0, ?_, World.frozen?_alloc_at _ _ _ _ (by simp), World.ownsRow_nil _ _ _ _, ?_, by simp, by simp, fun b => Iff.rfl⟩
  · rw [World.cell?_alloc_at _ _ _ _ (by simp)]; rfl
  · rw [World.cell?_alloc_past _ _ _ (by simp), World.cell?_alloc_at _ _ _ _ rfl]; rfl

/-- How far the visitor came, in plain words. -/
theorem stop_cases {stop : Int} {n : Nat} {b : Bool} {w' : World} {I : Nat → (Nat → Prop) → World → Prop} (hs : 0 ≤ stop) (h : EachPost I (contV stop) n b w') :
    (b = true ∧ (stop = 0 ∨ (n : Int) < stop) ∧ ∃ D, I n D w') ∨ (b = false ∧ stop ≠ 0 ∧ stop ≤ n ∧ ∃ D, I stop.toNat D w') := by
  rcases h with ⟨hb, hI, hc⟩ | ⟨hb, c, h1, h2, h3, h4, hI⟩
  · refine .inl ⟨hb, ?_, hI⟩
    by_cases hn : n = 0
    · subst hn; by_cases h0 : stop = 0
      · exact .inl h0
      · right; omega
    · have := hc n (by omega) (Nat.le_refl _)
      simpa [contV] using this
  · have h5 : stop ≠ 0 ∧ stop ≤ c := by
      simp [contV] at h3; exact h3
    have h6 : stop = c := by
      by_cases hlt : stop.toNat < c
      · have := h4 stop.toNat (by omega) hlt
        simp [contV] at this
        omega
      · omega
    refine .inr ⟨hb, h5.1, by omega, ?_⟩
    rw [h6]; simpa using hI

set_option maxHeartbeats 2000000 in
set_option maxRecDepth 1000000 in
theorem visits_main (K Lim : Int) (n1 c1 n2 c2 : Nat) (a1 a2 : Option Addr) (sp : List (Int × Int × Int)) (hl : List (Int × Int)) (w : World)
    (hK0 : 0 ≤ K) (hK1 : K ≤ 255) (hL0 : 0 ≤ Lim) (hL1 : Lim ≤ 255) (hn1 : sp.length = n1) (hn2 : hl.length = n2) (hm1 : n1 ≤ 1024) (hm2 : n2 ≤ 1024)
    (hsp : SpansIn w w.heap.size a1 sp) (hhl : HeldIn w w.heap.size a2 hl) :
    Calls Yba.prog 5 #[.int .u8 K, .slice a1 n1 c1, .slice a2 n2 c2, .int .u8 Lim] w fun e w' => e = .returned (.bool true) ∧ Below w.heap.size w w' := by
  have HSP : Hid (SpansIn w w.heap.size a1 sp) := hsp
  have HHL : Hid (HeldIn w w.heap.size a2 hl) := hhl
  have HN1 : Hid (sp.length = n1) := hn1
  have HN2 : Hid (hl.length = n2) := hn2
  clear hsp hhl hn1 hn2
  have hmf : ∀ (fn : Fn) (first cap : Array Value) (w : World), (Instr.makeFunc fn first cap).run Yba.prog w = .ok (.func fn first cap) w := fun _ _ _ _ => rfl
  obtain ⟨k, hk⟩ : ∃ k : Nat, K % 3 = (k : Int) := ⟨(K % 3).toNat, by omega⟩
  have hk3 : k < 3 := by omega
  obtain ⟨st, hst⟩ : ∃ st : Nat, Lim % 16 = (st : Int) := ⟨(Lim % 16).toNat, by omega⟩
  have hst16 : st < 16 := by omega
  go_enter Yba.func5, Yba.ntmps5
  go_wp2_with fail
  refine (build_any k n1 c1 n2 c2 a1 a2 sp hl w hk3 HN1.out HN2.out hm1 hm2 HSP.out HHL.out).mono ?_
  rintro e w1 ⟨nb, vw, rfl, hN, hW, hB1⟩
  have hwl := wantOf_le k (hl.map h3) (spansFor k sp) (fun s hs => (spansFor_fits (fitS_of HSP.out) k s hs).2.2.2)
  have hsl := spansFor_le k sp
  rw [HN1.out] at hsl
  obtain ⟨aw, cw, rfl, hcw, hRU, hag, hgl⟩ := rowU_of hW rfl
  have hz1 := hB1.size
  have HN : Hid (NodeAt w1 w1.heap.size nb k (hl.map h3) (spansFor k sp)) := hN
  have HRU : Hid (RowU w1 aw (wantOf k (hl.map h3) (spansFor k sp))) := hRU
  have HAG : Hid (0 < (wantOf k (hl.map h3) (spansFor k sp)).length → ∃ g, aw = some ⟨g, 0, none⟩) := hag
  have HGL : Hid (∀ g, aw = some ⟨g, 0, none⟩ → g < w1.heap.size) := hgl
  clear hN hW hRU hag hgl
  go_wp2_with fail
  have hBW : Below w1.heap.size w1 ((w1.alloc (.cells #[.int .i64 (st : Int)] 3)).alloc (.cells #[.slice none 0 0] 37)) := ((Below.refl _ _).alloc (Nat.le_refl _) _).alloc (by simp) _
  refine (each_any w1.heap.size nb 13 k ⟨w1.heap.size + 1, 0, none⟩ ⟨w1.heap.size, 0, none⟩ (hl.map h3) (spansFor k sp) (LogAt (wantOf k (hl.map h3) (spansFor k sp)) (st : Int) (w1.heap.size + 1) w1.heap.size) (contV (st : Int)) _ (HN.out.below hBW) (by simp; omega) _ (logAt_start _ _ _) (logAt_keeps _ _ _ _ (by omega)) (logAt_lies _ _ _ _ _ (by omega)) (visit_any _ _ _ _ (by omega) (by omega)) ent13).mono ?_
  rintro e w2 ⟨b, rfl, hP, hB2⟩
  have hBB : Below w1.heap.size w1 w2 := hBW.trans hB2
  have hold : Below w.heap.size w w2 := hB1.trans (hBB.mono hz1)
  have hR2 : RowU w2 aw (wantOf k (hl.map h3) (spansFor k sp)) := HRU.out.below hBB HGL.out
  have HR2 : Hid (RowU w2 aw (wantOf k (hl.map h3) (spansFor k sp))) := hR2
  clear hB2 hBB hBW hR2
  rcases stop_cases (by omega) hP with ⟨rfl, hs, D, v, k1, k2, k3, k4, k5, k6, k7⟩ | ⟨rfl, hs0, hs1, D, v, k1, k2, k3, k4, k5, k6, k7⟩
  · rw [List.take_of_length_le (Nat.le_refl _)] at k3
    obtain ⟨al, cl, rfl, hcl, hRL, _, _⟩ := rowU_of k3 rfl
    have HRL : Hid (RowU w2 al (wantOf k (hl.map h3) (spansFor k sp))) := hRL
    clear hP k3 k7 hRL k6 k2
    by_cases h0 : (st : Int) = 0
    · have h0' : ((st : Int) == 0) = true := by simpa using h0
      clear h0 hs
      go_wp2_with fail
      refine (eq_true al aw (wantOf k (hl.map h3) (spansFor k sp)).length cl cw (wantOf k (hl.map h3) (spansFor k sp)) w2 rfl (by omega) HRL.out HR2.out).mono ?_
      rintro e w3 ⟨rfl, q, rfl⟩
      go_wp2
      go_ret
      exact ⟨rfl, below_drewN hold _⟩
    · have h0' : ((st : Int) == 0) = false := by simpa using h0
      have hs' : ((wantOf k (hl.map h3) (spansFor k sp)).length : Int) < (st : Int) := by omega
      clear h0 hs
      go_wp2_with fail
      refine (eq_true al aw (wantOf k (hl.map h3) (spansFor k sp)).length cl cw (wantOf k (hl.map h3) (spansFor k sp)) w2 rfl (by omega) HRL.out HR2.out).mono ?_
      rintro e w3 ⟨rfl, q, rfl⟩
      go_wp2
      go_ret
      exact ⟨rfl, below_drewN hold _⟩
  · have hs2 : st ≤ (wantOf k (hl.map h3) (spansFor k sp)).length := by omega
    rw [Int.toNat_natCast] at k3
    have hlen : ((wantOf k (hl.map h3) (spansFor k sp)).take st).length = st := by rw [List.length_take]; omega
    obtain ⟨al, cl, rfl, hcl, hRL, _, _⟩ := rowU_of k3 hlen
    obtain ⟨g, rfl⟩ := HAG.out (by omega)
    have HRL : Hid (RowU w2 al ((wantOf k (hl.map h3) (spansFor k sp)).take st)) := hRL
    have HRW : Hid (RowU w2 (some ⟨g, 0, none⟩) ((wantOf k (hl.map h3) (spansFor k sp)).take st)) := HR2.out.take st
    have HLN : Hid (((wantOf k (hl.map h3) (spansFor k sp)).take st).length = st) := hlen
    have h0' : ((st : Int) == 0) = false := by simpa using hs0
    have hsc : (st : Int) ≤ (cw : Int) := by omega
    have hc0 : ¬ cw = 0 := by omega
    clear hP k3 k7 hRL k6 k2 hs0 hlen
    go_wp2
    go_quiet ((go_at_call 14; exact Calls.quiet_of (eq_true al (some ⟨g, 0, none⟩) st cl cw ((wantOf k (hl.map h3) (spansFor k sp)).take st) _ HLN.out (by omega) (by exact HRL.out) (by exact HRW.out))))
    go_wp2
    go_ret
    exact ⟨rfl, below_drewN hold _⟩

theorem visits_big (K Lim : Int) (n1 c1 n2 c2 : Nat) (a1 a2 : Option Addr) (w : World) (hm1 : n1 ≤ maxLen) (hm2 : n2 ≤ maxLen) (h : 1024 < n1 ∨ 1024 < n2) :
    Calls Yba.prog 5 #[.int .u8 K, .slice a1 n1 c1, .slice a2 n2 c2, .int .u8 Lim] w fun e w' => e = .returned (.bool true) ∧ Below w.heap.size w w' := by
  unfold maxLen at hm1 hm2
  by_cases h1 : 1024 < n1
  · go_enter Yba.func5, Yba.ntmps5
    go_wp2
    go_ret
    exact ⟨rfl, Below.refl _ _⟩
  · have h2 : 1024 < n2 := by omega
    go_enter Yba.func5, Yba.ntmps5
    go_wp2
    go_ret
    exact ⟨rfl, Below.refl _ _⟩

end Go.Proofs.Ybulkcmxg
