import Derived.Test.YbulkcmywCallsParts
namespace Go.Proofs.Ybulkcmyw
open Go.RowKit

/-- Where the calls stop: behind the first false answer, else behind the last pair. -/
def Stops (bs : List Bool) (n c : Nat) (b : Bool) : Prop :=
  (b = true ∧ c = n - 1 ∧ ∀ j, j < c → ansAt bs j = true) ∨ (b = false ∧ 1 ≤ c ∧ c ≤ n - 1 ∧ ansAt bs (c - 1) = false ∧ ∀ j, j < c - 1 → ansAt bs j = true)

theorem stops_one {bs : List Bool} {n c c' : Nat} {b b' : Bool} (h : Stops bs n c b) (h' : Stops bs n c' b') : c = c' ∧ b = b' := by
  rcases h with ⟨rfl, e, f⟩ | ⟨rfl, e1, e2, e3, f⟩ <;> rcases h' with ⟨rfl, e', f'⟩ | ⟨rfl, e1', e2', e3', f'⟩
  · exact ⟨by omega, rfl⟩
  · have := f (c' - 1) (by omega); rw [this] at e3'; cases e3'
  · have := f' (c - 1) (by omega); rw [this] at e3; cases e3
  · refine ⟨?_, rfl⟩
    by_cases h1 : c < c'
    · have := f' (c - 1) (by omega); rw [this] at e3; cases e3
    · by_cases h2 : c' < c
      · have := f (c' - 1) (by omega); rw [this] at e3'; cases e3'
      · omega

theorem getD_get {zs : List Int} {j : Nat} (h : j < zs.length) : zs[j]? = some (zs.getD j 0) := by simp [List.getD, List.getElem?_eq_getElem h]

theorem ent5 : ∀ args w1, (callFunc 5 args).run Yba.prog w1 = .ok (.enter 5 args) w1 := fun _ _ => by kernel_rfl

set_option maxHeartbeats 2000000 in
theorem every_calls (w0 : World) (a a2 : Option Addr) (n c n2 c2 : Nat) (zs : List Int) (bs : List Bool) (w : World) (hn : n ≤ 1024) (hzn : zs.length = n)
    (hz : IntsIn w0 a n zs) (hb : BoolsIn w0 a2 n2 bs) (h0 : CallsAt w0 a2 n2 c2 zs 0 (.slice none 0 0) (.slice none 0 0) w) :
    Calls Yba.prog 6 #[.slice a n c, .func (.func 5) #[] #[.pointer (some ⟨w0.heap.size + 2, 0, none⟩), .pointer (some ⟨w0.heap.size + 3, 0, none⟩), .pointer (some ⟨w0.heap.size + 1, 0, none⟩), .pointer (some ⟨w0.heap.size, 0, none⟩)]] w fun e w' =>
      ∃ b k va vb, e = .returned (.bool b) ∧ CallsAt w0 a2 n2 c2 zs k va vb w' ∧ Stops bs n k b := by
  have HZ : Hid (IntsIn w0 a n zs) := hz
  have HB : Hid (BoolsIn w0 a2 n2 bs) := hb
  have H0 : Hid (CallsAt w0 a2 n2 c2 zs 0 (.slice none 0 0) (.slice none 0 0) w) := h0
  have HZN : Hid (zs.length = n) := hzn
  clear hz hb h0 hzn
  go_enter Yba.func6, Yba.ntmps6
  go_wp2
  go_loopw [5] (fun i wr => ∃ k : Nat, (k = 0 ∨ k + 1 ≤ n) ∧ i = .int .i64 (k + 1 : Nat) ∧ (∀ j, j < k → ansAt bs j = true) ∧ ∃ va vb, CallsAt w0 a2 n2 c2 zs k va vb wr) (fun i _ => n + 1 - (intOf i).toNat)
  case atStart => exact ⟨0, .inl rfl, rfl, fun j hj => by omega, _, _, H0.out⟩
  case round =>
    obtain ⟨wq, rfl⟩ : ∃ wq, wq = wr := ⟨_, rfl⟩
    obtain ⟨k, hk, rfl, hs, va, vb, hI⟩ := hrel
    have HS : Hid (∀ j, j < k → ansAt bs j = true) := hs
    have HI : Hid (CallsAt w0 a2 n2 c2 zs k va vb wq) := hI
    clear hs hI
    by_cases hlt : k + 1 < n
    · rcases HZ.out with h | ⟨b, off, rfl, hb0, hc⟩
      · omega
      obtain ⟨x, ex⟩ : ∃ x, x = zs.getD k 0 := ⟨_, rfl⟩
      obtain ⟨y, ey⟩ : ∃ y, y = zs.getD (k + 1) 0 := ⟨_, rfl⟩
      have d1 := (HI.out.old.cell (p := ⟨b, off + k, none⟩) (by exact hb0)).trans (hc k (by omega))
      have d2 := (HI.out.old.cell (p := ⟨b, off + (k + 1), none⟩) (by exact hb0)).trans (hc (k + 1) hlt)
      have hx : zs[k]? = some x := by rw [ex]; exact getD_get (by rw [HZN.out]; omega)
      have hy : zs[k + 1]? = some y := by rw [ey]; exact getD_get (by rw [HZN.out]; omega)
      have HX : Hid (zs[k]? = some x) := hx
      have HY : Hid (zs[k + 1]? = some y) := hy
      have HD1 : Hid (w0.cell? ⟨b, off + k, none⟩ = some (.int .i64 x)) := by rw [ex]; exact hc k (by omega)
      have HD2 : Hid (w0.cell? ⟨b, off + (k + 1), none⟩ = some (.int .i64 y)) := by rw [ey]; exact hc (k + 1) hlt
      rw [← ex] at d1
      rw [← ey] at d2
      clear ex ey hc hx hy
      have b1 : (k : Int) < (n : Int) := by omega
      have b2 : (k : Int) + 1 < (n : Int) := by omega
      have b3 : (0 : Int) ≤ (k : Int) + 1 := by omega
      have t1 : ((k : Int) + 1).toNat = k + 1 := by omega
      have wk : IntKind.i64.wrap (k : Int) = (k : Int) := IntWalk.i64_in _ (by omega)
      have C : ∀ q, Calls Yba.prog 5 #[.int .i64 x, .int .i64 y, .pointer (some ⟨w0.heap.size + 2, 0, none⟩), .pointer (some ⟨w0.heap.size + 3, 0, none⟩), .pointer (some ⟨w0.heap.size + 1, 0, none⟩), .pointer (some ⟨w0.heap.size, 0, none⟩)] (wq.drewN q) fun e w' =>
          e = .returned (.bool (ansAt bs k)) ∧ w'.cell? ⟨b, off + k, none⟩ = some (.int .i64 x) ∧ w'.cell? ⟨b, off + (k + 1), none⟩ = some (.int .i64 y) ∧ Hid (∃ va' vb', CallsAt w0 a2 n2 c2 zs (k + 1) va' vb' w') := fun q =>
        (rel_any w0 a2 n2 c2 zs bs k va vb x y _ (HI.out.drew q) HB.out (by omega) HX.out HY.out).mono fun e w' h => ⟨h.1, by obtain ⟨_, _, h2⟩ := h.2; exact (h2.old.cell (by exact hb0)).trans HD1.out, by obtain ⟨_, _, h2⟩ := h.2; exact (h2.old.cell (by exact hb0)).trans HD2.out, h.2⟩
      have HC : Hid (∀ q, Calls Yba.prog 5 #[.int .i64 x, .int .i64 y, .pointer (some ⟨w0.heap.size + 2, 0, none⟩), .pointer (some ⟨w0.heap.size + 3, 0, none⟩), .pointer (some ⟨w0.heap.size + 1, 0, none⟩), .pointer (some ⟨w0.heap.size, 0, none⟩)] (wq.drewN q) fun e w' =>
          e = .returned (.bool (ansAt bs k)) ∧ w'.cell? ⟨b, off + k, none⟩ = some (.int .i64 x) ∧ w'.cell? ⟨b, off + (k + 1), none⟩ = some (.int .i64 y) ∧ Hid (∃ va' vb', CallsAt w0 a2 n2 c2 zs (k + 1) va' vb' w')) := C
      clear C
      cases hr : ansAt bs k with
      | true =>
        go_wp2
        go_region_held3 (fun w' => w'.cell? ⟨b, off + k, none⟩ = some (.int .i64 x) ∧ w'.cell? ⟨b, off + (k + 1), none⟩ = some (.int .i64 y)) (go_keep) ((go_at_call 5; refine (HC.out 1).mono ?_; rintro e w' ⟨rfl, e1, e2, HN⟩))
        go_wp2
        go_roundw
        case rel =>
          refine ⟨k + 1, .inr (by omega), by go_num, fun j hj => ?_, HN.out⟩
          by_cases hjk : j = k
          · rw [hjk]; exact hr
          · exact HS.out j (by omega)
        case measure => simp [intOf]; omega
      | false =>
        go_wp2
        go_region_held3 (fun w' => w'.cell? ⟨b, off + k, none⟩ = some (.int .i64 x) ∧ w'.cell? ⟨b, off + (k + 1), none⟩ = some (.int .i64 y)) (go_keep) ((go_at_call 5; refine (HC.out 1).mono ?_; rintro e w' ⟨rfl, e1, e2, HN⟩))
        go_wp2
        go_ret
        obtain ⟨va', vb', h⟩ := HN.out
        exact ⟨false, k + 1, va', vb', rfl, h, .inr ⟨rfl, by omega, by omega, hr, fun j hj => HS.out j (by omega)⟩⟩
    · go_wp2
      go_ret
      exact ⟨true, k, va, vb, rfl, HI.out, .inl ⟨rfl, by omega, HS.out⟩⟩

def RowI (w : World) (a : Option Addr) (xs : List Int) : Prop :=
  xs = [] ∨ ∃ g, a = some ⟨g, 0, none⟩ ∧ ∀ j, j < xs.length → w.cell? ⟨g, j, none⟩ = some (.int .i64 (xs.getD j 0))

theorem own_cell {w : World} {base : Nat} {e : TypeId} {size : Nat} {n cap g : Nat} {xs : List Value} (h : w.ownsRow base e size (.slice (some ⟨g, 0, none⟩) n cap) n xs) {i : Nat} {u : Value} (hu : xs[i]? = some u) : w.cell? ⟨g, i, none⟩ = some u := by
  have := h.cells (g := g) rfl i u hu
  rwa [show ((⟨g, 0, none⟩ : Addr).add i) = ⟨g, i, none⟩ by unfold Addr.add; split <;> simp_all] at this

theorem row_of {w : World} {base : Nat} {v : Value} {n : Nat} {xs : List Int} (h : w.ownsRow base 3 1 v n (i64s xs)) (hn : xs.length = n) : ∃ a cap, v = .slice a n cap ∧ n ≤ cap ∧ RowI w a xs := by
  rcases h.2 with ⟨e, h0⟩ | ⟨g, cap, cur, e, r⟩
  · subst e; subst h0
    exact ⟨none, 0, rfl, Nat.le_refl _, .inl (List.eq_nil_of_length_eq_zero hn)⟩
  · subst e
    exact ⟨some ⟨g, 0, none⟩, cap, rfl, r.2.2.1, .inr ⟨g, rfl, fun j hj => own_cell h (by simp [i64s, List.getD, List.getElem?_eq_getElem hj])⟩⟩

theorem round_facts {w0 w1 : World} {a aa ab : Option Addr} {n m j : Nat} {zs : List Int} (hz : IntsIn w0 a n zs) (hB : Below w0.heap.size w0 w1) (ha : RowI w1 aa (zs.take m)) (hb : RowI w1 ab (zs.tail.take m)) (hn : zs.length = n) (hj : j < m) (hm : m ≤ n - 1) :
    ∃ x y ga gb b off, aa = some ⟨ga, 0, none⟩ ∧ ab = some ⟨gb, 0, none⟩ ∧ a = some ⟨b, off, none⟩ ∧ w1.cell? ⟨ga, j, none⟩ = some (.int .i64 x) ∧ w1.cell? ⟨b, off + j, none⟩ = some (.int .i64 x) ∧
      w1.cell? ⟨gb, j, none⟩ = some (.int .i64 y) ∧ w1.cell? ⟨b, off + (j + 1), none⟩ = some (.int .i64 y) := by
  have l1 : (zs.take m).length = m := by rw [List.length_take]; omega
  have l2 : (zs.tail.take m).length = m := by rw [List.length_take, List.length_tail]; omega
  rcases ha with h | ⟨ga, rfl, ha⟩
  · rw [h] at l1; simp at l1; omega
  rcases hb with h | ⟨gb, rfl, hb⟩
  · rw [h] at l2; simp at l2; omega
  rcases hz with h | ⟨b, off, rfl, hb0, hc⟩
  · omega
  refine ⟨zs.getD j 0, zs.getD (j + 1) 0, ga, gb, b, off, rfl, rfl, rfl, ?_, (hB.cell (by exact hb0)).trans (hc j (by omega)), ?_, (hB.cell (by exact hb0)).trans (hc (j + 1) (by omega))⟩
  · rw [ha j (by omega)]; simp [List.getD, hj]
  · rw [hb j (by omega)]; simp [List.getD, hj]

theorem calls_start (w0 : World) (a2 : Option Addr) (n2 c2 : Nat) (zs : List Int) :
    CallsAt w0 a2 n2 c2 zs 0 (.slice none 0 0) (.slice none 0 0) ((((w0.alloc (.cells #[.slice a2 n2 c2] 23)).alloc (.cells #[.int .i64 0] 3)).alloc (.cells #[.slice none 0 0] 22)).alloc (.cells #[.slice none 0 0] 22)) := by
  refine ⟨?_, ?_, ?_, ?_, ?_, ?_, World.frozen?_alloc_at _ _ _ _ (by simp), World.ownsRow_nil _ _ _ _, World.ownsRow_nil _ _ _ _, .inl rfl, .inl rfl, by simp, ?_⟩
  · rw [World.cell?_alloc_past _ _ _ (by first | (simp; done) | (simp; omega)), World.cell?_alloc_past _ _ _ (by first | (simp; done) | (simp; omega)), World.cell?_alloc_past _ _ _ (by simp), World.cell?_alloc_at _ _ _ _ rfl]; rfl
  · rw [World.cell?_alloc_past _ _ _ (by first | (simp; done) | (simp; omega)), World.cell?_alloc_past _ _ _ (by simp), World.cell?_alloc_at _ _ _ _ (by simp)]; rfl
  · rw [World.frozen?_alloc_past _ _ _ (by first | (simp; done) | (simp; omega)), World.frozen?_alloc_past _ _ _ (by simp)]; exact World.frozen?_alloc_at _ _ _ _ (by simp)
  · rw [World.cell?_alloc_past _ _ _ (by simp), World.cell?_alloc_at _ _ _ _ (by simp)]; rfl
  · rw [World.frozen?_alloc_past _ _ _ (by simp)]; exact World.frozen?_alloc_at _ _ _ _ (by simp)
  · rw [World.cell?_alloc_at _ _ _ _ (by simp)]; rfl
  · exact ((((Below.refl _ _).alloc (Nat.le_refl _) _).alloc (by simp) _).alloc (by first | (simp; done) | (simp; omega)) _).alloc (by first | (simp; done) | (simp; omega)) _

theorem calls_big (a a2 : Option Addr) (n c n2 c2 : Nat) (w : World) (hm1 : n ≤ maxLen) (hm2 : n2 ≤ maxLen) (h : 1024 < n ∨ 1024 < n2) :
    Calls Yba.prog 3 #[.slice a n c, .slice a2 n2 c2] w fun e w' => e = .returned (.bool true) ∧ Below w.heap.size w w' := by
  unfold maxLen at hm1 hm2
  by_cases h1 : 1024 < n
  · go_enter Yba.func3, Yba.ntmps3
    go_wp2
    go_ret
    exact ⟨rfl, (Below.refl _ _).alloc (Nat.le_refl _) _⟩
  · have h2 : 1024 < n2 := by omega
    go_enter Yba.func3, Yba.ntmps3
    go_wp2
    go_ret
    exact ⟨rfl, (Below.refl _ _).alloc (Nat.le_refl _) _⟩

set_option maxHeartbeats 4000000 in
set_option maxRecDepth 100000 in
theorem calls_main (a a2 : Option Addr) (n c n2 c2 : Nat) (zs : List Int) (bs : List Bool) (w : World) (hn : n ≤ 1024) (hn2 : n2 ≤ 1024) (hzn : zs.length = n) (hz : IntsIn w a n zs) (hb : BoolsIn w a2 n2 bs) :
    Calls Yba.prog 3 #[.slice a n c, .slice a2 n2 c2] w fun e w' => e = .returned (.bool true) ∧ Below w.heap.size w w' := by
  have HZ : Hid (IntsIn w a n zs) := hz
  have HB : Hid (BoolsIn w a2 n2 bs) := hb
  have HZN : Hid (zs.length = n) := hzn
  clear hz hb hzn
  have hmf : ∀ (fn : Fn) (first cap : Array Value) (w : World), (Instr.makeFunc fn first cap).run Yba.prog w = .ok (.func fn first cap) w := fun _ _ _ _ => rfl
  go_enter Yba.func3, Yba.ntmps3
  go_wp2_with fail
  refine (every_calls w a a2 n c n2 c2 zs bs _ hn HZN.out HZ.out HB.out (calls_start w a2 n2 c2 zs)).mono ?_
  rintro e w1 ⟨got, kk, va, vb, rfl, hI, hST⟩
  have HI : Hid (CallsAt w a2 n2 c2 zs kk va vb w1) := hI
  have HST : Hid (Stops bs n kk got) := hST
  have hans := hI.ans
  clear hI hST
  go_wp2
  go_loop [10, 11, 12] (fun m v i => ∃ k : Nat, (k = 0 ∨ k + 1 ≤ n) ∧ m = .int .i64 (k : Nat) ∧ v = .bool true ∧ i = .int .i64 (k + 1 : Nat) ∧ (∀ j, j < k → ansAt bs j = true)) (fun _ _ i => n + 1 - (intOf i).toNat)
  case atStart => exact ⟨0, .inl rfl, rfl, rfl, rfl, fun j hj => by omega⟩
  case round =>
    obtain ⟨k, hk, rfl, rfl, rfl, hs⟩ := hrel
    have HS : Hid (∀ j, j < k → ansAt bs j = true) := hs
    clear hs
    by_cases hlt : k + 1 < n
    · cases hr : ansAt bs k with
      | true =>
        have HR : Hid (ansAt bs k = true) := hr
        clear hr
        by_cases hk2 : k < n2
        · rcases HB.out.2 with h | ⟨b, off, rfl, hb0, hc⟩
          · omega
          have d := (HI.out.old.cell (p := ⟨b, off + k, none⟩) (by exact hb0)).trans (hc k hk2)
          rw [show bs.getD k true = true from HR.out] at d
          clear hc
          go_wp2
          go_round
          case rel =>
            refine ⟨k + 1, .inr (by omega), by go_num, rfl, by go_num, fun j hj => ?_⟩
            by_cases hjk : j = k
            · rw [hjk]; exact HR.out
            · exact HS.out j (by omega)
          case measure => simp [intOf]; omega
        · go_wp2
          go_round
          case rel =>
            refine ⟨k + 1, .inr (by omega), by go_num, rfl, by go_num, fun j hj => ?_⟩
            by_cases hjk : j = k
            · rw [hjk]; exact HR.out
            · exact HS.out j (by omega)
          case measure => simp [intOf]; omega
      | false =>
        have HR : Hid (ansAt bs k = false) := hr
        clear hr
        have hk2 : k < n2 := by
          by_cases h : k < n2
          · exact h
          · have h2 := ansAt_out (bs := bs) (n := k) (by have := HB.out.1; omega)
            rw [HR.out] at h2; cases h2
        rcases HB.out.2 with h | ⟨b2, off2, rfl, hb0, hc⟩
        · omega
        have d := (HI.out.old.cell (p := ⟨b2, off2 + k, none⟩) (by exact hb0)).trans (hc k hk2)
        rw [show bs.getD k true = false from HR.out] at d
        clear hc
        obtain ⟨hkm, hbm⟩ := stops_one HST.out (show Stops bs n (k + 1) false from .inr ⟨rfl, by omega, by omega, HR.out, fun j hj => HS.out j (by omega)⟩)
        subst hbm
        subst hkm
        obtain ⟨aa, ca, hva, hca, hra⟩ := row_of HI.out.ra (by rw [List.length_take]; have := HZN.out; omega)
        obtain ⟨ab, cb, hvb, hcb, hrb⟩ := row_of HI.out.rb (by rw [List.length_take, List.length_tail]; have := HZN.out; omega)
        have hla := HI.out.la
        have hlb := HI.out.lb
        rw [hva] at hla
        rw [hvb] at hlb
        have HRA : Hid (RowI w1 aa (zs.take (k + 1))) := hra
        have HRB : Hid (RowI w1 ab (zs.tail.take (k + 1))) := hrb
        clear hra hrb hva hvb
        go_wp2
        go_loopw [14] (fun i wr => ∃ j : Nat, j ≤ (k + 1) ∧ i = .int .i64 j ∧ ∃ q, wr = w1.drewN q) (fun i _ => (k + 1) - (intOf i).toNat)
        case atStart => exact ⟨0, Nat.zero_le _, rfl, 0, rfl⟩
        case round =>
          obtain ⟨j, hj, rfl, q, rfl⟩ := hrel
          by_cases hlt2 : j < (k + 1)
          · obtain ⟨x, y, ga, gb, b, off, rfl, rfl, rfl, e1, e2, e3, e4⟩ := round_facts HZ.out HI.out.old HRA.out HRB.out HZN.out hlt2 (by omega)
            have j1 : (j : Int) < ((k + 1) : Int) := by omega
            have j2 : (j : Int) < (n : Int) := by omega
            have j3 : (j : Int) + 1 < (n : Int) := by omega
            have j4 : (0 : Int) ≤ (j : Int) + 1 := by omega
            have t1 : ((j : Int) + 1).toNat = j + 1 := by omega
            have wk : IntKind.i64.wrap ((j : Int) + 1) = (j : Int) + 1 := IntWalk.i64_in _ (by omega)
            have nx : (x != x) = false := by simp
            go_wp2
            go_quiet (fail)
            go_wp2
            go_roundw
            case rel => exact ⟨j + 1, by omega, by go_num, _, rfl⟩
            case measure => simp [intOf]; omega
          · go_wp2
            go_ret
            exact ⟨rfl, below_drewN HI.out.old _⟩
    · obtain ⟨hkm, hbm⟩ := stops_one HST.out (show Stops bs n k true from .inl ⟨rfl, by omega, HS.out⟩)
      subst hbm
      have hkm' := hkm.symm
      clear hkm
      subst hkm'
      obtain ⟨aa, ca, hva, hca, hra⟩ := row_of HI.out.ra (by rw [List.length_take]; have := HZN.out; omega)
      obtain ⟨ab, cb, hvb, hcb, hrb⟩ := row_of HI.out.rb (by rw [List.length_take, List.length_tail]; have := HZN.out; omega)
      have hla := HI.out.la
      have hlb := HI.out.lb
      rw [hva] at hla
      rw [hvb] at hlb
      have HRA : Hid (RowI w1 aa (zs.take k)) := hra
      have HRB : Hid (RowI w1 ab (zs.tail.take k)) := hrb
      clear hra hrb hva hvb
      go_wp2
      go_loopw [14] (fun i wr => ∃ j : Nat, j ≤ k ∧ i = .int .i64 j ∧ ∃ q, wr = w1.drewN q) (fun i _ => k - (intOf i).toNat)
      case atStart => exact ⟨0, Nat.zero_le _, rfl, 0, rfl⟩
      case round =>
        obtain ⟨j, hj, rfl, q, rfl⟩ := hrel
        by_cases hlt2 : j < k
        · obtain ⟨x, y, ga, gb, b, off, rfl, rfl, rfl, e1, e2, e3, e4⟩ := round_facts HZ.out HI.out.old HRA.out HRB.out HZN.out hlt2 (by omega)
          have j1 : (j : Int) < (k : Int) := by omega
          have j2 : (j : Int) < (n : Int) := by omega
          have j3 : (j : Int) + 1 < (n : Int) := by omega
          have j4 : (0 : Int) ≤ (j : Int) + 1 := by omega
          have t1 : ((j : Int) + 1).toNat = j + 1 := by omega
          have wk : IntKind.i64.wrap ((j : Int) + 1) = (j : Int) + 1 := IntWalk.i64_in _ (by omega)
          have nx : (x != x) = false := by simp
          go_wp2
          go_quiet (fail)
          go_wp2
          go_roundw
          case rel => exact ⟨j + 1, by omega, by go_num, _, rfl⟩
          case measure => simp [intOf]; omega
        · go_wp2
          go_ret
          exact ⟨rfl, below_drewN HI.out.old _⟩

end Go.Proofs.Ybulkcmyw
