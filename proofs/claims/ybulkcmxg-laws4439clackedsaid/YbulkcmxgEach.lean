import Derived.Test.YbulkcmxgSpanMath
namespace Go.Proofs.Ybulkcmxg
open Go.RowKit

/-- One member's row of lacked spans, as cells. -/
def SpanAt (w : World) (rb k : Nat) (S : List (Int × Int)) : Prop :=
  ∀ j, j < S.length → ∃ f l : Int, S.getD j (0, 0) = (f, l) ∧ 0 ≤ f ∧ f ≤ l ∧ l ≤ 18446744073709551615 ∧ l - f ≤ 7 ∧
    w.cell? ⟨rb, j * 3, none⟩ = some (.int .i64 (k : Int)) ∧ w.cell? ⟨rb, j * 3 + 1, none⟩ = some (.int .u64 f) ∧ w.cell? ⟨rb, j * 3 + 2, none⟩ = some (.int .u64 l)

theorem HeldAt.below {B : Nat} {w w' : World} {hb : Nat} {H : List (Int × Int)} (h : HeldAt w hb H) (hB : Below B w w') (hhb : hb < B) : HeldAt w' hb H := by
  intro j hj
  obtain ⟨h1, h2, h3, h4, h5⟩ := h j hj
  exact ⟨h1, h2, h3, h4, fun t ht => (hB.cell (by exact hhb)).trans (h5 t ht)⟩

/-- Of what was there, only blocks in D have turned. -/
structure Apart (D : Nat → Prop) (w w' : World) : Prop where
  os : w'.os = w.os
  tape : w'.tape = w.tape
  output : w'.output = w.output
  size : w.heap.size ≤ w'.heap.size
  block : ∀ b, b < w.heap.size → ¬ D b → w'.heap[b]? = w.heap[b]?

theorem Apart.below {D : Nat → Prop} {w w' : World} {B : Nat} (h : Apart D w w') (hD : ∀ b, D b → B ≤ b) (hB : B ≤ w.heap.size) : Below B w w' :=
  ⟨h.os, h.tape, h.output, h.size, fun b hb => h.block b (by omega) (fun hd => by have := hD b hd; omega)⟩
theorem Apart.cell {D : Nat → Prop} {w w' : World} (h : Apart D w w') {p : Addr} (hp : p.block < w.heap.size) (hd : ¬ D p.block) : w'.cell? p = w.cell? p :=
  World.cell?_of_block (w := w) (h.block p.block hp hd)

/-- What eachLacked hands back, and where the visitor stands. -/
def EachPost (I : Nat → (Nat → Prop) → World → Prop) (cont : Nat → Bool) (n : Nat) (b : Bool) (w' : World) : Prop :=
  (b = true ∧ (∃ D, I n D w') ∧ ∀ m, 1 ≤ m → m ≤ n → cont m = true) ∨
  (b = false ∧ ∃ c, 1 ≤ c ∧ c ≤ n ∧ cont c = false ∧ (∀ m, 1 ≤ m → m < c → cont m = true) ∧ ∃ D, I c D w')

/-- What is asked of the visitor: at its n-th call (from 0) it takes the n-th place that is wanted. -/
def Visits (I : Nat → (Nat → Prop) → World → Prop) (cont : Nat → Bool) (want : List Int) (f : Nat) (p1 p2 : Addr) : Prop :=
  ∀ n D x w1, I n D w1 → want[n]? = some x → Calls Yba.prog f #[.int .u64 x, .pointer (some p1), .pointer (some p2)] w1 fun e w2 =>
    e = .returned (.bool (cont (n + 1))) ∧ ∃ D', I (n + 1) D' w2 ∧ (∀ b, D' b → D b ∨ w1.heap.size ≤ b) ∧ Apart D w1 w2
def Keeps (I : Nat → (Nat → Prop) → World → Prop) : Prop := ∀ n D w1 w2, I n D w1 → Below w1.heap.size w1 w2 → I n D w2
def Lies (I : Nat → (Nat → Prop) → World → Prop) (B : Nat) : Prop := ∀ n D w1, I n D w1 → ∀ b, D b → B ≤ b ∧ b < w1.heap.size

set_option maxHeartbeats 2000000 in
theorem each_some (B nb lb rb rcap hb hcap f k : Nat) (p1 p2 : Addr) (H S : List (Int × Int)) (I : Nat → (Nat → Prop) → World → Prop) (cont : Nat → Bool) (w : World)
    (hk3 : k < 3) (hHn : H.length ≤ 1024) (hSn : S.length ≤ 1024) (hBw : B ≤ w.heap.size) (hnb : nb < B) (hrb : rb < B) (hhb : hb < B)
    (hl : w.cell? ⟨nb, 55, none⟩ = some (.slice (some ⟨lb, 0, none⟩) 3 3)) (hk : w.cell? ⟨lb, k, none⟩ = some (.slice (some ⟨rb, 0, none⟩) S.length rcap))
    (hh : w.cell? ⟨nb, 57, none⟩ = some (.slice (some ⟨hb, 0, none⟩) H.length hcap)) (hS : SpanAt w rb k S) (hH : HeldAt w hb H)
    (D0 : Nat → Prop) (hI0 : I 0 D0 w) (hIk : Keeps I) (hIB : Lies I B) (hv : Visits I cont (wantOf k H S) f p1 p2)
    (hent : ∀ args w1, (callFunc f args).run Yba.prog w1 = .ok (.enter f args) w1) :
    Calls Yba.prog 12 #[.pointer (some ⟨nb, 0, none⟩), .int .i64 (k : Int), .func (.func f) #[] #[.pointer (some p1), .pointer (some p2)]] w fun e w' =>
      ∃ b, e = .returned (.bool b) ∧ EachPost I cont (wantOf k H S).length b w' ∧ Below B w w' := by
  have HV : Hid (Visits I cont (wantOf k H S) f p1 p2) := hv
  have HS : Hid (SpanAt w rb k S) := hS
  have HH : Hid (HeldAt w hb H) := hH
  have HI : Hid (Keeps I) := hIk
  have HL : Hid (Lies I B) := hIB
  have H0 : Hid (I 0 D0 w) := hI0
  have HK : Hid (w.cell? ⟨nb, 57, none⟩ = some (.slice (some ⟨hb, 0, none⟩) H.length hcap)) := hh
  clear hv hS hH hIk hIB hI0 hh
  go_enter Yba.func12, Yba.ntmps12
  go_wp2
  go_loopw [19] (fun i wr => ∃ a : Nat, a ≤ S.length ∧ i = .int .i64 a ∧ (∃ D, I (wantUpto k H S a 0).length D wr) ∧ (∀ m, 1 ≤ m → m ≤ (wantUpto k H S a 0).length → cont m = true) ∧ Below B w wr) (fun i _ => S.length - (intOf i).toNat)
  case atStart => exact ⟨0, Nat.zero_le _, rfl, ⟨D0, by rw [upto_start]; exact H0.out⟩, by rw [upto_start]; intro m h1 h2; simp at h2; omega, Below.refl _ _⟩
  case round =>
    obtain ⟨wo, rfl⟩ : ∃ wo, wo = wr := ⟨_, rfl⟩
    obtain ⟨a, ha, rfl, hI, hC, hB⟩ := hrel
    by_cases hlt : a < S.length
    · obtain ⟨F, L, eS, s1, s2, s3, s4, c0, c1, c2⟩ := HS.out a hlt
      have d0 := (hB.cell (p := ⟨rb, a * 3, none⟩) (by exact hrb)).trans c0
      have d1 := (hB.cell (p := ⟨rb, a * 3 + 1, none⟩) (by exact hrb)).trans c1
      have d2 := (hB.cell (p := ⟨rb, a * 3 + 2, none⟩) (by exact hrb)).trans c2
      have ES : Hid (S.getD a (0, 0) = (F, L)) := eS
      have HIr : Hid (∃ D, I (wantUpto k H S a 0).length D wo) := hI
      have HC : Hid (∀ m, 1 ≤ m → m ≤ (wantUpto k H S a 0).length → cont m = true) := hC
      have hsz := hB.size
      clear eS hI hC c0 c1 c2
      go_wp2
      go_loopw [29] (fun i wq => ∃ (c : Nat) (D : Nat → Prop), (c : Int) ≤ L - F + 1 ∧ i = .int .u64 (c : Int) ∧ I (wantUpto k H S a c).length D wq ∧ ¬ D wo.heap.size ∧ wq.cell? ⟨wo.heap.size, 1, none⟩ = some (.int .u64 F) ∧ wo.heap.size < wq.heap.size ∧ (∀ m, 1 ≤ m → m ≤ (wantUpto k H S a c).length → cont m = true) ∧ Below B w wq) (fun i _ => (L - F + 1 - intOf i).toNat)
      case atStart =>
        obtain ⟨D, hD⟩ := HIr.out
        refine ⟨0, D, by omega, rfl, HI.out _ _ _ _ hD ((Below.refl _ _).alloc (Nat.le_refl _) _), fun h => ?_, by simp, by simp, HC.out, hB.alloc (by omega) _⟩
        have := (HL.out _ _ _ hD _ h).2; omega
      case round =>
        obtain ⟨wq, rfl⟩ : ∃ wq, wq = wr := ⟨_, rfl⟩
        obtain ⟨c, D, hc, rfl, hI, hD, dF, hv, hC, hB2⟩ := hrel
        have HI2 : Hid (I (wantUpto k H S a c).length D wq) := hI
        have HD2 : Hid (¬ D wo.heap.size) := hD
        have HC2 : Hid (∀ m, 1 ≤ m → m ≤ (wantUpto k H S a c).length → cont m = true) := hC
        have hB2s := hB2.size
        clear hI hC hD d0 d1 d2
        by_cases hlt2 : (c : Int) < L - F + 1
        · have hH2 : HeldAt wq hb H := HH.out.below hB2 hhb
          have hK2 := (hB2.cell (p := ⟨nb, 57, none⟩) (by exact hnb)).trans HK.out
          have HHq : Hid (HeldAt wq hb H) := hH2
          have HKq : Hid (wq.cell? ⟨nb, 57, none⟩ = some (.slice (some ⟨hb, 0, none⟩) H.length hcap)) := hK2
          clear hH2 hK2
          by_cases hf : H.any (heldB k (F + c)) = true
          · go_wp2_with fail
            refine (late_any nb hb hcap k (F + c) H _ hHn (by omega) HKq.out HHq.out).mono ?_
            rintro e w3 ⟨rfl, hb3⟩
            have hz3 := hb3.size
            go_wp2
            go_roundw
            case rel =>
              refine ⟨c + 1, D, by omega, by go_num, ?_, HD2.out, ?_, by omega, ?_, hB2.trans (hb3.mono (by omega))⟩
              · rw [upto_miss k H S a c ES.out (by omega) (by unfold free; rw [hf]; rfl)]; exact HI.out _ _ _ _ HI2.out hb3
              · rw [hb3.cell (by exact hv)]; exact dF
              · rw [upto_miss k H S a c ES.out (by omega) (by unfold free; rw [hf]; rfl)]; exact HC2.out
            case measure => simp [intOf]; omega
          · have hf' : H.any (heldB k (F + c)) = false := by simpa using hf
            clear hf
            go_wp2_with fail
            refine (late_any nb hb hcap k (F + c) H _ hHn (by omega) HKq.out HHq.out).mono ?_
            rintro e w3 ⟨rfl, hb3⟩
            go_wp2_with fail
            have hfr : free k H (F + c) = true := by unfold free; rw [hf']; rfl
            obtain ⟨hn1, hn2⟩ := want_at k H S a c hlt ES.out (by omega) hfr
            have hI3 := HI.out _ _ _ _ HI2.out hb3
            have hz3 := hb3.size
            refine (HV.out _ D _ w3 hI3 hn2).mono ?_
            rintro e w4 ⟨rfl, D', hI4, hD4, hA4⟩
            have hB4 : Below B w w4 := (hB2.trans (hb3.mono (by omega))).trans (hA4.below (fun b hb => (HL.out _ _ _ hI3 b hb).1) (by omega))
            have hz4 := hA4.size
            have dF4 : w4.cell? ⟨wo.heap.size, 1, none⟩ = some (.int .u64 F) := by
              rw [hA4.cell (by show wo.heap.size < w3.heap.size; omega) HD2.out, hb3.cell (by exact hv)]; exact dF
            have hnD : ¬ D' wo.heap.size := fun h => by
              rcases hD4 _ h with h | h
              · exact HD2.out h
              · omega
            have HI4 : Hid (I ((wantUpto k H S a c).length + 1) D' w4) := hI4
            have HnD : Hid (¬ D' wo.heap.size) := hnD
            have hl1 : (wantUpto k H S a (c + 1)).length = (wantUpto k H S a c).length + 1 := by rw [upto_hit k H S a c ES.out (by omega) hfr]; simp
            have HL1 : Hid ((wantUpto k H S a (c + 1)).length = (wantUpto k H S a c).length + 1) := hl1
            have HN1 : Hid ((wantUpto k H S a c).length < (wantOf k H S).length) := hn1
            clear hI4 hD4 hA4 hnD hl1 hn1 hn2 hfr hI3
            by_cases hcn : cont ((wantUpto k H S a c).length + 1) = true
            · go_wp2
              go_roundw
              case rel =>
                refine ⟨c + 1, D', by omega, by go_num, by rw [HL1.out]; exact HI4.out, HnD.out, dF4, by omega, ?_, hB4⟩
                rw [HL1.out]
                intro m h1 h2
                by_cases hm : m = (wantUpto k H S a c).length + 1
                · rw [hm]; exact hcn
                · exact HC2.out m h1 (by omega)
              case measure => simp [intOf]; omega
            · have hcn' : cont ((wantUpto k H S a c).length + 1) = false := by simpa using hcn
              clear hcn
              go_wp2
              go_ret
              refine ⟨false, rfl, .inr ⟨rfl, (wantUpto k H S a c).length + 1, by omega, ?_, hcn', ?_, D', HI4.out⟩, hB4⟩
              · exact HN1.out
              · intro m h1 h2; exact HC2.out m h1 (by omega)
        · go_wp2
          go_roundw
          case rel =>
            refine ⟨a + 1, by omega, by go_num, ⟨D, ?_⟩, ?_, hB2⟩
            · rw [upto_next k H S a c hlt ES.out (by omega)]; exact HI2.out
            · rw [upto_next k H S a c hlt ES.out (by omega)]; exact HC2.out
          case measure => simp [intOf]; omega
    · go_wp2
      go_ret
      refine ⟨true, rfl, .inl ⟨rfl, ?_, ?_⟩, hB⟩
      · rw [upto_all _ _ _ _ (by omega)] at hI; exact hI
      · rw [upto_all _ _ _ _ (by omega)] at hC; exact hC

theorem each_none (B nb lb f k : Nat) (p1 p2 : Addr) (H : List (Int × Int)) (I : Nat → (Nat → Prop) → World → Prop) (cont : Nat → Bool) (w : World)
    (hk3 : k < 3) (hl : w.cell? ⟨nb, 55, none⟩ = some (.slice (some ⟨lb, 0, none⟩) 3 3)) (hk : w.cell? ⟨lb, k, none⟩ = some (.slice none 0 0)) (D0 : Nat → Prop) (hI0 : I 0 D0 w) :
    Calls Yba.prog 12 #[.pointer (some ⟨nb, 0, none⟩), .int .i64 (k : Int), .func (.func f) #[] #[.pointer (some p1), .pointer (some p2)]] w fun e w' =>
      ∃ b, e = .returned (.bool b) ∧ EachPost I cont (wantOf k H []).length b w' ∧ Below B w w' := by
  have H0 : Hid (I 0 D0 w) := hI0
  clear hI0
  go_enter Yba.func12, Yba.ntmps12
  go_wp2
  refine wp_loop_rounds 1 ?_
  rw [rounds_succ]
  go_wp2
  go_ret
  exact ⟨true, rfl, .inl ⟨rfl, ⟨D0, H0.out⟩, fun m h1 h2 => by simp [wantOf] at h2; omega⟩, Below.refl _ _⟩

/-- The k-th slot of the node's row of lacked spans: nil where there is none. -/
def LackAt (w : World) (B lb k : Nat) (S : List (Int × Int)) : Prop :=
  (S = [] ∧ w.cell? ⟨lb, k, none⟩ = some (.slice none 0 0)) ∨
  ∃ rb rcap, rb < B ∧ w.cell? ⟨lb, k, none⟩ = some (.slice (some ⟨rb, 0, none⟩) S.length rcap) ∧ SpanAt w rb k S

theorem SpanAt.below {B : Nat} {w w' : World} {rb k : Nat} {S : List (Int × Int)} (h : SpanAt w rb k S) (hB : Below B w w') (hrb : rb < B) : SpanAt w' rb k S := by
  intro j hj
  obtain ⟨f, l, h0, h1, h2, h3, h4, h5, h6, h7⟩ := h j hj
  exact ⟨f, l, h0, h1, h2, h3, h4, (hB.cell (by exact hrb)).trans h5, (hB.cell (by exact hrb)).trans h6, (hB.cell (by exact hrb)).trans h7⟩

/-- The node that the law builds, as eachLacked reads it. -/
structure NodeAt (w : World) (B nb k : Nat) (H S : List (Int × Int)) : Prop where
  hk3 : k < 3
  hHn : H.length ≤ 1024
  hSn : S.length ≤ 1024
  ex : ∃ lb hb hcap, nb < B ∧ lb < B ∧ hb < B ∧ w.cell? ⟨nb, 55, none⟩ = some (.slice (some ⟨lb, 0, none⟩) 3 3) ∧ w.cell? ⟨nb, 57, none⟩ = some (.slice (some ⟨hb, 0, none⟩) H.length hcap) ∧ LackAt w B lb k S ∧ HeldAt w hb H

theorem NodeAt.below {B nb k : Nat} {w w' : World} {H S : List (Int × Int)} (h : NodeAt w B nb k H S) (hB : Below B w w') : NodeAt w' B nb k H S := by
  obtain ⟨h1, h2, h3, lb, hb, hcap, g1, g2, g3, g4, g5, g6, g7⟩ := h
  refine ⟨h1, h2, h3, lb, hb, hcap, g1, g2, g3, (hB.cell (by exact g1)).trans g4, (hB.cell (by exact g1)).trans g5, ?_, g7.below hB g3⟩
  rcases g6 with ⟨rfl, k1⟩ | ⟨rb, rcap, k1, k2, k3⟩
  · exact .inl ⟨rfl, (hB.cell (by exact g2)).trans k1⟩
  · exact .inr ⟨rb, rcap, k1, (hB.cell (by exact g2)).trans k2, k3.below hB k1⟩

theorem each_any (B nb f k : Nat) (p1 p2 : Addr) (H S : List (Int × Int)) (I : Nat → (Nat → Prop) → World → Prop) (cont : Nat → Bool) (w : World)
    (hN : NodeAt w B nb k H S) (hBw : B ≤ w.heap.size) (D0 : Nat → Prop) (hI0 : I 0 D0 w) (hIk : Keeps I) (hIB : Lies I B) (hv : Visits I cont (wantOf k H S) f p1 p2)
    (hent : ∀ args w1, (callFunc f args).run Yba.prog w1 = .ok (.enter f args) w1) :
    Calls Yba.prog 12 #[.pointer (some ⟨nb, 0, none⟩), .int .i64 (k : Int), .func (.func f) #[] #[.pointer (some p1), .pointer (some p2)]] w fun e w' =>
      ∃ b, e = .returned (.bool b) ∧ EachPost I cont (wantOf k H S).length b w' ∧ Below B w w' := by
  obtain ⟨h1, h2, h3, lb, hb, hcap, g1, g2, g3, g4, g5, g6, g7⟩ := hN
  rcases g6 with ⟨rfl, k1⟩ | ⟨rb, rcap, k1, k2, k3⟩
  · exact each_none B nb lb f k p1 p2 H I cont w h1 g4 k1 D0 hI0
  · exact each_some B nb lb rb rcap hb hcap f k p1 p2 H S I cont w h1 h2 h3 hBw g1 k1 g3 g4 k2 g5 k3 g7 D0 hI0 hIk hIB hv hent

theorem ent13 : ∀ args w1, (callFunc 13 args).run Yba.prog w1 = .ok (.enter 13 args) w1 := fun _ _ => by kernel_rfl
theorem ent19 : ∀ args w1, (callFunc 19 args).run Yba.prog w1 = .ok (.enter 19 args) w1 := fun _ _ => by kernel_rfl

end Go.Proofs.Ybulkcmxg
