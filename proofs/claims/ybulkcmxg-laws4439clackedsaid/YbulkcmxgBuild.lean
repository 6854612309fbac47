import Derived.Test.YbulkcmxgNodeLaw
namespace Go.Proofs.Ybulkcmxg
open Go.RowKit

set_option maxHeartbeats 2000000 in
set_option maxRecDepth 1000000 in
theorem build_any (k n1 c1 n2 c2 : Nat) (a1 a2 : Option Addr) (sp : List (Int × Int × Int)) (hl : List (Int × Int)) (w : World)
    (hk3 : k < 3) (hn1 : sp.length = n1) (hn2 : hl.length = n2) (hm1 : n1 ≤ 1024) (hm2 : n2 ≤ 1024)
    (hsp : SpansIn w w.heap.size a1 sp) (hhl : HeldIn w w.heap.size a2 hl) :
    Calls Yba.prog 11 #[.int .i64 (k : Int), .slice a1 n1 c1, .slice a2 n2 c2] w fun e w' =>
      ∃ nb v, e = .returned (.tuple #[.pointer (some ⟨nb, 0, none⟩), v]) ∧ NodeAt w' w'.heap.size nb k (hl.map h3) (spansFor k sp) ∧
        w'.ownsRow w.heap.size 41 1 v (wantOf k (hl.map h3) (spansFor k sp)).length (u64s (wantOf k (hl.map h3) (spansFor k sp))) ∧ Below w.heap.size w w' := by
  have HSP : Hid (SpansIn w w.heap.size a1 sp) := hsp
  have HHL : Hid (HeldIn w w.heap.size a2 hl) := hhl
  have HN1 : Hid (sp.length = n1) := hn1
  have HN2 : Hid (hl.length = n2) := hn2
  clear hsp hhl hn1 hn2
  have hmk : ∀ w, (Instr.makeSlice 50 (.int .i64 3) (.int .i64 3)).run Yba.prog w = .ok (.slice (some ⟨w.heap.size, 0, none⟩) 3 3) (w.alloc (.cells #[.slice none 0 0, .slice none 0 0, .slice none 0 0] 53)) := fun _ => by kernel_rfl
  go_enter Yba.func11, Yba.ntmps11
  go_wp2
  go_loopw [29] (fun i wr => ∃ j : Nat, j ≤ n1 ∧ i = .int .i64 j ∧ Lack3 wr w.heap.size (sp.take j) ∧ Below w.heap.size w wr ∧ w.heap.size < wr.heap.size) (fun i _ => n1 - (intOf i).toNat)
  case atStart => exact ⟨0, Nat.zero_le _, rfl, lack3_start w, (Below.refl _ _).alloc (Nat.le_refl _) _, by simp⟩
  case round =>
    obtain ⟨wo, rfl⟩ : ∃ wo, wo = wr := ⟨_, rfl⟩
    obtain ⟨j, hj, rfl, hL, hB, hsz⟩ := hrel
    by_cases hlt : j < n1
    · rcases HSP.out with h | ⟨b, off, rfl, hb, hcs⟩
      · have := HN1.out; rw [h] at this; simp at this; omega
      obtain ⟨m, f, l, es, m0, m1, f0, f1, l0, l1, q0, q1, q2⟩ := hcs j (by rw [HN1.out]; exact hlt)
      have d0 := (hB.cell (p := ⟨b, off + j * 3, none⟩) (by exact hb)).trans q0
      have d1 := (hB.cell (p := ⟨b, off + j * 3 + 1, none⟩) (by exact hb)).trans q1
      have d2 := (hB.cell (p := ⟨b, off + j * 3 + 2, none⟩) (by exact hb)).trans q2
      obtain ⟨mm, hmm⟩ : ∃ mm : Nat, m % 3 = (mm : Int) := ⟨(m % 3).toNat, by omega⟩
      have hmm3 : mm < 3 := by omega
      obtain ⟨V, hV, hD⟩ := hL
      have dV := (hV mm hmm3).1
      have dF := (hV mm hmm3).2.1
      have HES : Hid (sp.getD j (0, 0, 0) = (m, f, l)) := es
      clear q0 q1 q2 hcs es
      have hle := spansFor_le mm (sp.take j)
      have hlt2 : (sp.take j).length ≤ j := List.length_take_le _ _
      obtain ⟨i0, hi, hz0, hz1, hz2⟩ := info_parts Yba.info55
      rcases Int.lt_or_le (18446744073709551615 - l % 8) f with hov | hov
      · go_wp2_with (at_builtin; refine wpList_append_own_at _ rfl (.tmp 54) (.tmp 61) 53 rfl (w.heap.size + 1) 55 i0 (.agg #[.int .i64 0, .int .u64 0, .int .u64 0]) 3 24 Yba.underlying53 hi hz0 hz1 hz2 rfl (by decide) (V mm) (spansFor mm (sp.take j)).length (rowCells mm (spansFor mm (sp.take j))) rfl ?c0 ⟨wo.heap.size + 1, 0, none⟩ 1 1 [.int .i64 (mm : Int), .int .u64 f, .int .u64 (f + (18446744073709551615 - f))] rfl rfl ?c1 ?c2 ?c3 ?c4 ?c5 ?_)
        case c0 => exact ((hV mm hmm3).2.2.alloc _).alloc _
        case c1 => exact cells3_new _ _ _ _ _ _ (by simp)
        case c2 => exact ints3_one _ _ _ _ _ _
        case c3 => unfold maxLen; omega
        case c4 => omega
        case c5 => simp; omega
        intro v' w1 hown' hgrow _ hat
        obtain ⟨g, cp, rfl⟩ := owns_pos hown'
        rw [spanCells_over (m := m) hov] at hown'
        have h2 : Below wo.heap.size wo ((wo.alloc (.cells #[.int .u8 m, .int .u64 f, .int .u8 l] 52)).alloc (.cells #[.int .i64 (mm : Int), .int .u64 f, .int .u64 (f + (18446744073709551615 - f))] 55)) := ((Below.refl _ _).alloc (Nat.le_refl _) _).alloc (by simp) _
        obtain ⟨e1, e2⟩ := lack3_mid hV hmm3 hsz h2 hgrow
        have R := lack3_step (s := (m, f, l)) hV hD hmm3 hmm hsz hB h2 hown' hgrow (by simpa using hat)
        rw [take_snoc_getD (by rw [HN1.out]; exact hlt) HES.out] at R
        obtain ⟨R1, R2, R3⟩ := R
        have HR1 : Hid (Lack3 (w1.setCell ⟨w.heap.size, mm, none⟩ (.slice (some ⟨g, 0, none⟩) ((spansFor mm (sp.take j)).length + 1) cp)) w.heap.size (sp.take (j + 1))) := R1
        clear hV hD hown' hgrow hat h2 R1 dV dF d0 d1 d2
        go_wp2
        go_roundw
        case rel => exact ⟨j + 1, by omega, by go_num, HR1.out, R2, R3⟩
        case measure => simp [intOf]; omega
      · go_wp2_with (at_builtin; refine wpList_append_own_at _ rfl (.tmp 54) (.tmp 61) 53 rfl (w.heap.size + 1) 55 i0 (.agg #[.int .i64 0, .int .u64 0, .int .u64 0]) 3 24 Yba.underlying53 hi hz0 hz1 hz2 rfl (by decide) (V mm) (spansFor mm (sp.take j)).length (rowCells mm (spansFor mm (sp.take j))) rfl ?cc0 ⟨wo.heap.size + 1, 0, none⟩ 1 1 [.int .i64 (mm : Int), .int .u64 f, .int .u64 (f + l % 8)] rfl rfl ?cc1 ?cc2 ?cc3 ?cc4 ?cc5 ?_)
        case cc0 => exact ((hV mm hmm3).2.2.alloc _).alloc _
        case cc1 => exact cells3_new _ _ _ _ _ _ (by simp)
        case cc2 => exact ints3_one _ _ _ _ _ _
        case cc3 => unfold maxLen; omega
        case cc4 => omega
        case cc5 => simp; omega
        intro v' w1 hown' hgrow _ hat
        obtain ⟨g, cp, rfl⟩ := owns_pos hown'
        rw [spanCells_in (m := m) hov] at hown'
        have h2 : Below wo.heap.size wo ((wo.alloc (.cells #[.int .u8 m, .int .u64 f, .int .u8 l] 52)).alloc (.cells #[.int .i64 (mm : Int), .int .u64 f, .int .u64 (f + l % 8)] 55)) := ((Below.refl _ _).alloc (Nat.le_refl _) _).alloc (by simp) _
        obtain ⟨e1, e2⟩ := lack3_mid hV hmm3 hsz h2 hgrow
        have R := lack3_step (s := (m, f, l)) hV hD hmm3 hmm hsz hB h2 hown' hgrow (by simpa using hat)
        rw [take_snoc_getD (by rw [HN1.out]; exact hlt) HES.out] at R
        obtain ⟨R1, R2, R3⟩ := R
        have HR1 : Hid (Lack3 (w1.setCell ⟨w.heap.size, mm, none⟩ (.slice (some ⟨g, 0, none⟩) ((spansFor mm (sp.take j)).length + 1) cp)) w.heap.size (sp.take (j + 1))) := R1
        clear hV hD hown' hgrow hat h2 R1 dV dF d0 d1 d2
        go_wp2
        go_roundw
        case rel => exact ⟨j + 1, by omega, by go_num, HR1.out, R2, R3⟩
        case measure => simp [intOf]; omega
    · have hjn : j = n1 := by omega
      subst hjn
      rw [List.take_of_length_le (by rw [HN1.out]; omega)] at hL
      have HL : Hid (Lack3 wo w.heap.size sp) := hL
      clear hL
      obtain ⟨ih, hhi, hhz0, hhz1, hhz2⟩ := info_parts Yba.info64
      go_wp2_with (at_make; refine wpList_make_own _ rfl (.const (.int .i64 0)) (.tmp 66) 56 rfl wo.heap.size 64 ih (.agg #[.int .u64 0, .int .i32 0, .int .i32 0, .int .u64 0, .int .i64 0, .pointer none, .slice none 0 0]) 7 Yba.underlying56 hhi hhz0 hhz1 .i64 .i64 _ n2 rfl rfl rfl ?h1 ?h2 ?h3 ?_)
      case h1 => rw [hhz2]; omega
      case h2 => unfold maxLen; omega
      case h3 => exact Nat.le_refl _
      intro w2 hownH hgrowH
      have hB2 : Below wo.heap.size wo w2 := (Below.refl _ _).grown hgrowH (Nat.le_refl _) (fun k hk => by cases hk)
      have hz2 : wo.heap.size < w2.heap.size := (hownH.lt wo.heap.size rfl).2
      have HOH : Hid (w2.ownsRow wo.heap.size 64 7 (.slice (some ⟨wo.heap.size, 0, none⟩) 0 n2) 0 []) := hownH
      clear hownH hgrowH
      go_wp2
      go_loopw [14, 70] (fun v i wr => ∃ j : Nat, j ≤ n2 ∧ i = .int .i64 j ∧ v = .slice (some ⟨wo.heap.size, 0, none⟩) j n2 ∧ wr.ownsRow wo.heap.size 64 7 (.slice (some ⟨wo.heap.size, 0, none⟩) j n2) j (heldRow (hl.take j)) ∧ Below wo.heap.size wo wr ∧ wo.heap.size < wr.heap.size) (fun _ i _ => n2 - (intOf i).toNat)
      case atStart => exact ⟨0, Nat.zero_le _, rfl, rfl, HOH.out, hB2, hz2⟩
      case round =>
        obtain ⟨wp, rfl⟩ : ∃ wp, wp = wr := ⟨_, rfl⟩
        obtain ⟨i, hi, rfl, rfl, hown, hBp, hzp⟩ := hrel
        by_cases hlt2 : i < n2
        · rcases HHL.out with h | ⟨b, off, rfl, hb, hcs⟩
          · have := HN2.out; rw [h] at this; simp at this; omega
          obtain ⟨s, q, es, s0, s1, q0, q1, d0, d1⟩ := hcs i (by rw [HN2.out]; exact hlt2)
          have hBw : Below w.heap.size w wp := hB.trans (hBp.mono (by omega))
          have x0 := (hBw.cell (p := ⟨b, off + i * 2, none⟩) (by exact hb)).trans d0
          have x1 := (hBw.cell (p := ⟨b, off + i * 2 + 1, none⟩) (by exact hb)).trans d1
          have HES : Hid (hl.getD i (0, 0) = (s, q)) := es
          clear d0 d1 hcs es
          go_wp2_with (at_builtin; refine wpList_append_fits _ rfl (.tmp 74) (.tmp 82) 56 rfl wo.heap.size 64 ih 7 Yba.underlying56 hhi hhz1 wo.heap.size i n2 (heldRow (hl.take i)) rfl ?g0 ⟨wp.heap.size + 1, 0, none⟩ 1 1 (heldCells (h3 (s, q))) rfl rfl ?g1 ?g2 ?g3 ?_)
          case g0 => exact (hown.alloc _).alloc _
          case g1 => exact cells7_new _ _ _ _ _ _ _ _ _ _ (by simp)
          case g2 => exact heldCells_one _
          case g3 => omega
          intro w3 hown3 hgrow3
          have R1 : w3.ownsRow wo.heap.size 64 7 (.slice (some ⟨wo.heap.size, 0, none⟩) (i + 1) n2) (i + 1) (heldRow (hl.take (i + 1))) := by
            rw [← take_snoc_getD (by rw [HN2.out]; exact hlt2) HES.out, heldRow_snoc]; exact hown3
          have R2 : Below wo.heap.size wo w3 := ((hBp.alloc (by omega) _).alloc (by simp; omega) _).grown hgrow3 (by simp; omega) (fun k hk => by cases hk; exact Nat.le_refl _)
          have R3 : wo.heap.size < w3.heap.size := by have := hgrow3.size; simp at this; omega
          have HR1 : Hid (w3.ownsRow wo.heap.size 64 7 (.slice (some ⟨wo.heap.size, 0, none⟩) (i + 1) n2) (i + 1) (heldRow (hl.take (i + 1)))) := R1
          clear R1 hown3 hgrow3 hown x0 x1
          go_wp2
          go_roundw
          case rel => exact ⟨i + 1, by omega, by go_num, rfl, HR1.out, R2, R3⟩
          case measure => simp [intOf]; omega
        · have hin : i = n2 := by omega
          subst hin
          rw [List.take_of_length_le (by rw [HN2.out]; omega)] at hown
          have hfS := fitS_of HSP.out
          have hH := heldAt_of (fitH_of HHL.out) hown
          have hLk := lack3_at hfS hk3 HL.out hBp hsz
          have hHl : (hl.map h3).length = i := by rw [List.length_map]; exact HN2.out
          have hle := spansFor_le k sp
          rw [HN1.out] at hle
          have HH : Hid (HeldAt wp wo.heap.size (hl.map h3)) := hH
          have HHL2 : Hid ((hl.map h3).length = i) := hHl
          have hBw : Below w.heap.size w wp := hB.trans (hBp.mono (by omega))
          have hNp : w.heap.size < wp.heap.size := by omega
          clear hH hHl hown hfS hmk hi hhi hhz0 hhz1 hhz2
          rcases hLk with ⟨hS0, hck⟩ | ⟨rb, rcap, hrb, hck, hSp⟩
          · have HS0 : Hid (spansFor k sp = []) := hS0
            clear hS0
            go_wp2_with (refine wpList_build102 rfl (.tmp 85) (.tmp 86) rfl rfl rfl ?_; intro cs hc55 hc57)
            have hN := node_made hk3 HHL2.out hm2 (by omega) hNp hzp hc55 hc57 (.inl ⟨HS0.out, hck⟩) HH.out
            have HN : Hid (NodeAt (wp.alloc (.cells cs 102)) (wp.heap.size + 1) wp.heap.size k (hl.map h3) (spansFor k sp)) := hN
            clear hN hc55 hc57
            refine wp_loop_rounds 1 ?_
            rw [rounds_succ]
            go_wp2
            go_ret2
            refine ⟨wp.heap.size, .slice none 0 0, rfl, HN.out.more (by simp), ?_, hBw.alloc (by omega) _⟩
            rw [HS0.out]
            exact World.ownsRow_nil _ _ _ _
          · have HSp : Hid (SpanAt wp rb k (spansFor k sp)) := hSp
            clear hSp
            go_wp2_with (refine wpList_build102 rfl (.tmp 85) (.tmp 86) rfl rfl rfl ?_; intro cs hc55 hc57)
            have hN := node_made hk3 HHL2.out hm2 (by omega) hNp hzp hc55 hc57 (.inr ⟨rb, rcap, by omega, hck, HSp.out⟩) HH.out
            have hBa : Below wp.heap.size wp (wp.alloc (.cells cs 102)) := (Below.refl _ _).alloc (Nat.le_refl _) _
            have hBt : Built w (wp.heap.size + 1) wp.heap.size rb wo.heap.size k (hl.map h3) (spansFor k sp) (wp.alloc (.cells cs 102)) :=
              ⟨hN, HSp.out.below hBa (by omega), HH.out.below hBa hzp, hBw.alloc (by omega) _, by simp, by omega, by omega, by omega⟩
            have HBt : Hid (Built w (wp.heap.size + 1) wp.heap.size rb wo.heap.size k (hl.map h3) (spansFor k sp) (wp.alloc (.cells cs 102))) := hBt
            clear hN hc55 hc57 hBa hBt hck
            obtain ⟨iu, hiu, hu0, hu1, hu2⟩ := info_parts Yba.info41
            have hwl := wantOf_le k (hl.map h3) (spansFor k sp) (fun s hs => (spansFor_fits (fitS_of HSP.out) k s hs).2.2.2)
            go_loopw [18, 94] (fun v x wr => ∃ a : Nat, a ≤ (spansFor k sp).length ∧ x = .int .i64 a ∧ wr.ownsRow (wp.heap.size + 1) 41 1 v (wantUpto k (hl.map h3) (spansFor k sp) a 0).length (u64s (wantUpto k (hl.map h3) (spansFor k sp) a 0)) ∧ Built w (wp.heap.size + 1) wp.heap.size rb wo.heap.size k (hl.map h3) (spansFor k sp) wr) (fun _ x _ => (spansFor k sp).length - (intOf x).toNat)
            case atStart => exact ⟨0, Nat.zero_le _, rfl, by rw [upto_start]; exact World.ownsRow_nil _ _ _ _, HBt.out⟩
            case round =>
              obtain ⟨wq, rfl⟩ : ∃ wq, wq = wr := ⟨_, rfl⟩
              obtain ⟨a, ha, rfl, hown3, hb3⟩ := hrel
              by_cases hlt3 : a < (spansFor k sp).length
              · obtain ⟨F, L, eS, s1, s2, s3, s4, c0, c1', c2'⟩ := hb3.span a hlt3
                have ES : Hid ((spansFor k sp).getD a (0, 0) = (F, L)) := eS
                have hz3 := hb3.size
                have HB3 : Hid (Built w (wp.heap.size + 1) wp.heap.size rb wo.heap.size k (hl.map h3) (spansFor k sp) wq) := hb3
                have HOW3 : Hid (wq.ownsRow (wp.heap.size + 1) 41 1 u18 (wantUpto k (hl.map h3) (spansFor k sp) a 0).length (u64s (wantUpto k (hl.map h3) (spansFor k sp) a 0))) := hown3
                clear eS hb3 hown3
                go_wp2
                go_loopw [18, 21] (fun v x wr => ∃ c : Nat, (c : Int) ≤ L - F + 1 ∧ x = .int .u64 (c : Int) ∧ wr.ownsRow (wp.heap.size + 1) 41 1 v (wantUpto k (hl.map h3) (spansFor k sp) a c).length (u64s (wantUpto k (hl.map h3) (spansFor k sp) a c)) ∧ v.ownBlock ≠ some wq.heap.size ∧ wr.cell? ⟨wq.heap.size, 1, none⟩ = some (.int .u64 F) ∧ wr.cell? ⟨wq.heap.size, 2, none⟩ = some (.int .u64 L) ∧ wq.heap.size < wr.heap.size ∧ Built w (wp.heap.size + 1) wp.heap.size rb wo.heap.size k (hl.map h3) (spansFor k sp) wr) (fun _ x _ => (L - F + 1 - intOf x).toNat)
                case atStart =>
                  refine ⟨0, by omega, rfl, HOW3.out.alloc _, fun h => ?_, by simp, by simp, by simp, HB3.out.below ((Below.refl _ _).alloc hz3 _)⟩
                  have := (HOW3.out.lt _ h).2; omega
                case round =>
                  obtain ⟨wc, rfl⟩ : ∃ wc, wc = wr := ⟨_, rfl⟩
                  obtain ⟨c, hc, rfl, hown4, hne4, dF, dL, hv4, hb4⟩ := hrel
                  have hz4 := hb4.size
                  have HB4 : Hid (Built w (wp.heap.size + 1) wp.heap.size rb wo.heap.size k (hl.map h3) (spansFor k sp) wc) := hb4
                  have HOW4 : Hid (wc.ownsRow (wp.heap.size + 1) 41 1 u18 (wantUpto k (hl.map h3) (spansFor k sp) a c).length (u64s (wantUpto k (hl.map h3) (spansFor k sp) a c))) := hown4
                  have HNE4 : Hid (u18.ownBlock ≠ some wq.heap.size) := hne4
                  clear c0 c1' c2' hb4 hown4 hne4
                  by_cases hlt4 : (c : Int) < L - F + 1
                  · have hul := upto_le k (hl.map h3) (spansFor k sp) a c hlt3
                    have hHH := HB4.out.held
                    have HHH : Hid (HeldAt wc wo.heap.size (hl.map h3)) := hHH
                    clear hHH
                    obtain ⟨vo, rfl⟩ : ∃ vo, vo = u18 := ⟨_, rfl⟩
                    go_wp2
                    go_loopw [23, 113] (fun v x wr => ∃ t : Nat, t ≤ i ∧ x = .int .i64 t ∧ v = .bool (((hl.map h3).take t).any (heldB k (F + c))) ∧ Below wc.heap.size wc wr) (fun _ x _ => i - (intOf x).toNat)
                    case atStart => exact ⟨0, Nat.zero_le _, rfl, rfl, Below.refl _ _⟩
                    case round =>
                      obtain ⟨wt, rfl⟩ : ∃ wt, wt = wr := ⟨_, rfl⟩
                      obtain ⟨t, ht, rfl, rfl, hBt⟩ := hrel
                      have hzt := hBt.size
                      by_cases hlt5 : t < i
                      · have htH : t < (hl.map h3).length := by rw [HHL2.out]; exact hlt5
                        obtain ⟨_, _, _, _, gc⟩ := HHH.out t htH
                        obtain ⟨h, eh⟩ : ∃ h, h = (hl.map h3).getD t (0, 0) := ⟨_, rfl⟩
                        obtain ⟨s, r⟩ := h
                        obtain ⟨y1, y2, y3, y4, gc⟩ := HHH.out t htH
                        rw [← eh] at gc y1 y2 y3 y4
                        have EH : Hid ((s, r) = (hl.map h3).getD t (0, 0)) := eh
                        have HTH : Hid (t < (hl.map h3).length) := htH
                        have hw5 : wo.heap.size < wc.heap.size := by omega
                        have z0 : wt.cell? ⟨wo.heap.size, t * 7, none⟩ = some (.int .u64 r) := (hBt.cell (by exact hw5)).trans (gc 0 (by omega))
                        have z1 : wt.cell? ⟨wo.heap.size, t * 7 + 1, none⟩ = some (.int .i32 s) := (hBt.cell (by exact hw5)).trans (gc 1 (by omega))
                        have z2 : wt.cell? ⟨wo.heap.size, t * 7 + 2, none⟩ = some (.int .i32 0) := (hBt.cell (by exact hw5)).trans (gc 2 (by omega))
                        have z3 : wt.cell? ⟨wo.heap.size, t * 7 + 3, none⟩ = some (.int .u64 0) := (hBt.cell (by exact hw5)).trans (gc 3 (by omega))
                        have z4 : wt.cell? ⟨wo.heap.size, t * 7 + 4, none⟩ = some (.int .i64 0) := (hBt.cell (by exact hw5)).trans (gc 4 (by omega))
                        have z5 : wt.cell? ⟨wo.heap.size, t * 7 + 5, none⟩ = some (.pointer none) := (hBt.cell (by exact hw5)).trans (gc 5 (by omega))
                        have z6 : wt.cell? ⟨wo.heap.size, t * 7 + 6, none⟩ = some (.slice none 0 0) := (hBt.cell (by exact hw5)).trans (gc 6 (by omega))
                        clear gc eh htH dF dL
                        go_wp2
                        · have hh := heldB_yes (k := k) (q := F + c) (s := s) (r := r) ‹_› ‹_›
                          go_roundw
                          case rel =>
                            have hnew : (Value.bool true) = .bool (((hl.map h3).take (t + 1)).any (heldB k (F + c))) := by rw [any_take_succ _ (0, 0) _ _ HTH.out, ← EH.out, hh, Bool.or_true]
                            refine ⟨_, _, _, ⟨t + 1, by omega, ?_, hnew, hBt.alloc hzt _⟩, rfl, rfl, rfl⟩
                            go_num
                          case measure => simp [intOf]; omega
                        · have hh := heldB_no1 (k := k) (q := F + c) (s := s) (r := r) ‹_›
                          go_roundw
                          case rel =>
                            have hnew : (Value.bool (((hl.map h3).take t).any (heldB k (F + c)))) = .bool (((hl.map h3).take (t + 1)).any (heldB k (F + c))) := by rw [any_take_succ _ (0, 0) _ _ HTH.out, ← EH.out, hh, Bool.or_false]
                            refine ⟨_, _, _, ⟨t + 1, by omega, ?_, hnew, hBt.alloc hzt _⟩, rfl, rfl, rfl⟩
                            go_num
                          case measure => simp [intOf]; omega
                        · have hh := heldB_no2 (k := k) (q := F + c) (s := s) (r := r) ‹_›
                          go_roundw
                          case rel =>
                            have hnew : (Value.bool (((hl.map h3).take t).any (heldB k (F + c)))) = .bool (((hl.map h3).take (t + 1)).any (heldB k (F + c))) := by rw [any_take_succ _ (0, 0) _ _ HTH.out, ← EH.out, hh, Bool.or_false]
                            refine ⟨_, _, _, ⟨t + 1, by omega, ?_, hnew, hBt.alloc hzt _⟩, rfl, rfl, rfl⟩
                            go_num
                          case measure => simp [intOf]; omega
                      · have hall : (hl.map h3).any (heldB k (F + c)) = ((hl.map h3).take t).any (heldB k (F + c)) := by rw [List.take_of_length_le (by rw [HHL2.out]; omega)]
                        have HALL : Hid ((hl.map h3).any (heldB k (F + c)) = ((hl.map h3).take t).any (heldB k (F + c))) := hall
                        clear hall
                        cases hfd : ((hl.map h3).take t).any (heldB k (F + c)) with
                        | true =>
                          have hfr : free k (hl.map h3) (F + c) = false := by unfold free; rw [HALL.out, hfd]; rfl
                          have hbB := HB4.out.below (hBt.mono hz4)
                          have HbB : Hid (Built w (wp.heap.size + 1) wp.heap.size rb wo.heap.size k (hl.map h3) (spansFor k sp) wt) := hbB
                          have dF' := (hBt.cell (p := ⟨wq.heap.size, 1, none⟩) (by exact hv4)).trans dF
                          have dL' := (hBt.cell (p := ⟨wq.heap.size, 2, none⟩) (by exact hv4)).trans dL
                          have HFR : Hid (free k (hl.map h3) (F + c) = false) := hfr
                          clear hfr hbB
                          go_wp2
                          go_roundw
                          case rel =>
                            refine ⟨c + 1, by omega, by go_num, ?_, HNE4.out, dF', dL', by omega, HbB.out⟩
                            rw [upto_miss k (hl.map h3) (spansFor k sp) a c ES.out (by omega) HFR.out]
                            exact ownsRow_below HOW4.out hBt
                          case measure => simp [intOf]; omega
                        | false =>
                          have hfr : free k (hl.map h3) (F + c) = true := by unfold free; rw [HALL.out, hfd]; rfl
                          have HFR : Hid (free k (hl.map h3) (F + c) = true) := hfr
                          have hownt := ownsRow_below HOW4.out hBt
                          have dF' := (hBt.cell (p := ⟨wq.heap.size, 1, none⟩) (by exact hv4)).trans dF
                          have dL' := (hBt.cell (p := ⟨wq.heap.size, 2, none⟩) (by exact hv4)).trans dL
                          have HOWT : Hid (wt.ownsRow (wp.heap.size + 1) 41 1 vo (wantUpto k (hl.map h3) (spansFor k sp) a c).length (u64s (wantUpto k (hl.map h3) (spansFor k sp) a c))) := hownt
                          clear hfr hownt
                          go_wp2_with (at_builtin; refine wpList_append_own_at _ rfl (.tmp 131) (.tmp 133) 37 rfl (wp.heap.size + 1) 41 iu (.int .u64 0) 1 8 Yba.underlying37 hiu hu0 hu1 hu2 rfl (by decide) vo (wantUpto k (hl.map h3) (spansFor k sp) a c).length (u64s (wantUpto k (hl.map h3) (spansFor k sp) a c)) rfl ?w0 ⟨wt.heap.size, 0, none⟩ 1 1 [.int .u64 (F + c)] rfl rfl ?w1 ?w2 ?w3 ?w4 ?w5 ?_)
                          case w0 => exact HOWT.out.alloc _
                          case w1 => exact cell_one_new _ _ _
                          case w2 => exact ints_oneCell _ [F + c]
                          case w3 => unfold maxLen; omega
                          case w4 => omega
                          case w5 => simp; omega
                          intro v' w6 hown6 hgrow6 _ hat6
                          obtain ⟨R1, R2, R3, R4⟩ := want_own (vb := wq.heap.size) (HOWT.out.alloc _) HNE4.out (by simp; omega) (by simp; omega) hgrow6 (by simpa using hat6)
                          have dF6 := (R3 1).trans ((World.cell?_alloc_past _ _ _ (by omega)).trans dF')
                          have dL6 := (R3 2).trans ((World.cell?_alloc_past _ _ _ (by omega)).trans dL')
                          have hb6 := (HB4.out.below (hBt.mono hz4)).below (((Below.refl _ _).alloc (by omega) _).trans R1)
                          have HR0 : Hid (w6.ownsRow (wp.heap.size + 1) 41 1 v' ((wantUpto k (hl.map h3) (spansFor k sp) a c).length + 1) (u64s (wantUpto k (hl.map h3) (spansFor k sp) a c) ++ [.int .u64 (F + c)])) := hown6
                          have HR2 : Hid (v'.ownBlock ≠ some wq.heap.size) := R2
                          have Hb6 : Hid (Built w (wp.heap.size + 1) wp.heap.size rb wo.heap.size k (hl.map h3) (spansFor k sp) w6) := hb6
                          clear hown6 hgrow6 hat6 R1 R2 R3 hb6 dF' dL' dF dL
                          go_wp2
                          go_roundw
                          case rel =>
                            refine ⟨c + 1, by omega, by go_num, ?_, HR2.out, dF6, dL6, R4, Hb6.out⟩
                            rw [upto_hit k (hl.map h3) (spansFor k sp) a c ES.out (by omega) HFR.out, u64s_snoc, List.length_append]
                            exact HR0.out
                          case measure => simp [intOf]; omega
                  · go_wp2
                    go_roundw
                    case rel =>
                      refine ⟨a + 1, by omega, by go_num, ?_, HB4.out⟩
                      rw [upto_next k (hl.map h3) (spansFor k sp) a c hlt3 ES.out (by omega)]; exact HOW4.out
                    case measure => simp [intOf]; omega
              · go_wp2
                go_ret2
                rw [upto_all _ _ _ _ (by omega)] at hown3
                exact ⟨wp.heap.size, u18, rfl, hb3.node.more hb3.size, ownsRow_base hown3 (by omega), hb3.old⟩

end Go.Proofs.Ybulkcmxg
