import Derived.Test.YbulkcmxgFmtState
namespace Go.Proofs.YbulkcmxgFmt
open Go.RowKit

set_option maxHeartbeats 4000000 in
set_option maxRecDepth 100000 in
theorem script_any (a b pre : Nat) (ao : Option Addr) (L cap : Nat) (w : World) (ha : a ≤ 255) (hb : b ≤ 255) (hpre : pre ≤ 65535) (hL : L ≤ 2048) (hS : StepsAt ao L w) (hp : PaceAt w) :
    Calls Ybaf.prog 4 #[.int .u8 (a : Int), .int .u8 (b : Int), .int .u16 (pre : Int), .slice ao L cap] w fun e w' => e = .returned (.bool true) ∧ Below w.heap.size w w' := by
  have HP : Hid (PaceAt w) := hp
  have HS : Hid (StepsAt ao L w) := hS
  clear hp hS
  go_enter Ybaf.func4, Ybaf.ntmps4
  go_wp2_with fail
  generalize hm : (1 + (a : Int) % 8) = M
  obtain ⟨m, rfl⟩ : ∃ m : Nat, M = m := ⟨M.toNat, by omega⟩
  have hm1 : 1 ≤ m := by omega
  have hm8 : m ≤ 8 := by omega
  have hmp : (0 : Int) < m := by omega
  generalize hs : (b : Int) % (m : Int) = s
  have hs0 : 0 ≤ s := by rw [← hs]; exact Int.emod_nonneg _ (by omega)
  have hs1 : s < m := by rw [← hs]; exact Int.emod_lt_of_pos _ hmp
  refine (newNode_any s m w hm1 hm8 hs0 hs1 HP.out).mono ?_
  rintro e w1 ⟨nb, gf, gg, rfl, hN, hB1⟩
  have HN : Hid _ := hN
  have HB1 : Hid _ := hB1
  clear hN hB1
  go_wp2_with (at_make; first | refine wpList_make_len rfl (.tmp 42) (.tmp 46) rfl (pre % 1025) (pre % 1025 + L) ?a1 ?a2 ?a3 ?a4 ?_ | refine wpList_make_len rfl (.tmp 48) (.tmp 52) rfl (pre % 1025) (pre % 1025 + L) ?b1 ?b2 ?b3 ?b4 ?_)
  case a1 => simp [Act.eval]
  case a2 => simp [Act.eval]
  case a3 => omega
  case a4 => omega
  case b1 => simp [Act.eval]
  case b2 => simp [Act.eval]
  case b3 => omega
  case b4 => omega
  have hcast : (pre : Int) % 1025 = ((pre % 1025 : Nat) : Int) := by omega
  simp only [hcast]
  have hP1 : pre % 1025 ≤ 1024 := by omega
  clear hcast
  generalize pre % 1025 = P at hP1 ⊢
  have hT0 := two_new (P + L) w1
  have hB2 : Below w1.heap.size w1 ((w1.alloc (madeRow (P + L))).alloc (madeRow (P + L))) := ((Below.refl _ _).alloc (Nat.le_refl _) _).alloc (by simp) _
  generalize (w1.alloc (madeRow (P + L))).alloc (madeRow (P + L)) = w2 at hT0 hB2 ⊢
  generalize hU : w1.heap.size = U at hT0 hB2 ⊢
  generalize hV : U + 1 = V at hT0 ⊢
  have HT0 : Hid _ := hT0
  have HB2 : Hid _ := hB2
  clear hT0 hB2
  go_loopw [15] (fun i wr => ∃ j : Nat, j ≤ P ∧ i = .int .i64 j ∧ (∃ au av, Two (P + L) U (V) 0 j au av wr) ∧ Below U w1 wr) (fun i _ => P - (intOf i).toNat)
  case atStart => exact ⟨0, Nat.zero_le _, rfl, HT0.out, HB2.out⟩
  case round =>
    obtain ⟨wq, rfl⟩ : ∃ wq, wq = wr := ⟨_, rfl⟩
    obtain ⟨j, hj, rfl, ⟨au, av, hT⟩, hBq⟩ := hrel
    by_cases hlt : j < P
    · have HT : Hid _ := hT
      have HBq : Hid _ := hBq
      obtain ⟨rU, rV, sU, sV, ne, _⟩ := hT
      have cU : ∀ c, c < 6 → ∃ v, wq.cell? ⟨U, j * 6 + c, none⟩ = some v := fun c hc => ⟨_, (cell_of_blk rU _).trans (Array.getElem?_eq_getElem (by omega))⟩
      have cV : ∀ c, c < 6 → ∃ v, wq.cell? ⟨V, j * 6 + c, none⟩ = some v := fun c hc => ⟨_, (cell_of_blk rV _).trans (Array.getElem?_eq_getElem (by omega))⟩
      obtain ⟨x0, a0⟩ := cU 0 (by decide)
      obtain ⟨x1, a1⟩ := cU 1 (by decide)
      obtain ⟨x2, a2⟩ := cU 2 (by decide)
      obtain ⟨x3, a3⟩ := cU 3 (by decide)
      obtain ⟨x4, a4⟩ := cU 4 (by decide)
      obtain ⟨x5, a5⟩ := cU 5 (by decide)
      obtain ⟨y0, b0⟩ := cV 0 (by decide)
      obtain ⟨y1, b1⟩ := cV 1 (by decide)
      obtain ⟨y2, b2⟩ := cV 2 (by decide)
      obtain ⟨y3, b3⟩ := cV 3 (by decide)
      obtain ⟨y4, b4⟩ := cV 4 (by decide)
      obtain ⟨y5, b5⟩ := cV 5 (by decide)
      have zU : ∀ i, wq.frozen? ⟨U, i, none⟩ = false := frozen_of_blk rU
      have zV : ∀ i, wq.frozen? ⟨V, i, none⟩ = false := frozen_of_blk rV
      have lU : U < wq.heap.size := (Array.getElem?_eq_some_iff.1 rU).1
      have lV : V < wq.heap.size := (Array.getElem?_eq_some_iff.1 rV).1
      have m1 : U ≠ wq.heap.size := by omega
      have m2 : V ≠ wq.heap.size := by omega
      have m3 : wq.heap.size ≠ U := by omega
      have m4 : wq.heap.size ≠ V := by omega
      have m5 : V ≠ U := fun e => ne e.symm
      rw [Nat.add_zero] at a0 b0
      have hUV : U ≤ V := by omega
      clear rU rV sU sV hBq cU cV hU hV
      go_wp2
      exact ⟨⟨j + 1, by omega, by go_num, two_pre HT.out (by omega), pre_below hUV (by omega) HBq.out⟩, by simp [intOf]; omega⟩
    · obtain rfl : j = P := by omega
      have hw1 := HB1.out.size
      obtain ⟨cs0, hI0⟩ := sinv_start HN.out hU (by omega) hBq (Nat.le_add_right j L) hT (by omega)
      have hBw : Below w.heap.size w ((wq.setCell ⟨nb, 79, none⟩ (.slice (some ⟨U, 0, none⟩) j (j + L))).setCell ⟨nb, 80, none⟩ (.int .u64 (j : Int))) :=
        ((HB1.out.trans (hBq.mono (by omega))).setCell (p := ⟨nb, 79, none⟩) HN.out.node.1 _).setCell (p := ⟨nb, 80, none⟩) HN.out.node.1 _
      obtain ⟨hnN, cs, hnb0, csz, c0, c71, c73, c79, c80⟩ := HN.out.node
      have l1 : nb < U := by rw [← hU]; exact (Array.getElem?_eq_some_iff.1 hnb0).1
      have hnb := (hBq.block nb l1).trans hnb0
      have d79 : wq.cell? ⟨nb, 79, none⟩ = _ := (cell_of_blk hnb _).trans c79
      have d80 : wq.cell? ⟨nb, 80, none⟩ = _ := (cell_of_blk hnb _).trans c80
      have z79 := frozen_of_blk hnb 79
      have z80 := frozen_of_blk hnb 80
      have HI0 : Hid _ := hI0
      have HBw : Hid _ := hBw
      clear hI0 hBw hnb hnb0 c0 c71 c73 c79 c80 csz hT hBq HT0 HB2
      go_wp2_with fail
      clear d79 d80 z79 z80
      go_loopw [14, 17, 18] (fun sl md i wr => ∃ (l o len made : Nat) (cs au av : Array Value), l ≤ L ∧ sl = .slice (some ⟨V, o * 6, none⟩) len (j + L - o) ∧ md = .int .u64 (made : Int) ∧ i = .int .i64 (l : Int) ∧ SInv w.heap.size (j + L) nb gf gg U V m s o len made cs au av wr ∧ o + len ≤ j + l ∧ made ≤ j + l ∧ len ≤ 1024 ∧ Below w.heap.size w wr) (fun _ _ i _ => L - (intOf i).toNat)
      case atStart => exact ⟨0, 0, j, j, cs0, _, _, Nat.zero_le _, by simp, rfl, rfl, HI0.out, by omega, by omega, hP1, HBw.out⟩
      case round =>
        obtain ⟨ws, rfl⟩ : ∃ ws, ws = wr := ⟨_, rfl⟩
        obtain ⟨l, o, len, made, cs, au, av, hl, rfl, rfl, rfl, hI, hol, hml, hlen, hBs⟩ := hrel
        by_cases hlt : l < L
        · obtain ⟨sb, soff, K, was, f, g, bh, T, rfl, hsb, hK, hwas, T0, T1, s0, s1, s2, s3, s4, s5⟩ := HS.out l hlt
          rw [← hBs.cell (p := ⟨sb, _, none⟩) hsb] at s0 s1 s2 s3 s4 s5
          have HI : Hid _ := hI
          have HBs : Hid _ := hBs
          clear hI hBs
          go_wp2_with fail
          have HI3 : Hid (SInv w.heap.size (j + L) nb gf gg U V m s o len made cs au av (ws.alloc (.cells #[.int .u8 (K : Int), .bool f, .bool g, .bool bh, .int .u8 (was : Int), .int .i64 T] 80))) := HI.out.mono ((Below.refl _ _).alloc (Nat.le_refl _) _)
          have HB3 : Hid (Below w.heap.size w (ws.alloc (.cells #[.int .u8 (K : Int), .bool f, .bool g, .bool bh, .int .u8 (was : Int), .int .i64 T] 80))) := HBs.out.alloc HBs.out.size _
          have hsB : (ws.alloc (.cells #[.int .u8 (K : Int), .bool f, .bool g, .bool bh, .int .u8 (was : Int), .int .i64 T] 80)).heap[ws.heap.size]? = some (.cells #[.int .u8 (K : Int), .bool f, .bool g, .bool bh, .int .u8 (was : Int), .int .i64 T] 80 (0, 0)) := heap_alloc_new ws _
          clear s0 s1 s2 s3 s4 s5 HI HBs
          generalize (ws.alloc (.cells #[.int .u8 (K : Int), .bool f, .bool g, .bool bh, .int .u8 (was : Int), .int .i64 T] 80)) = w3 at HI3 HB3 hsB ⊢
          generalize ws.heap.size = sB at hsB ⊢
          generalize hk : (K : Int) % (m : Int) = kI
          have hk0 : 0 ≤ kI := by rw [← hk]; exact Int.emod_nonneg _ (by omega)
          have hk1 : kI < m := by rw [← hk]; exact Int.emod_lt_of_pos _ hmp
          obtain ⟨k, rfl⟩ : ∃ k : Nat, kI = k := ⟨kI.toNat, by omega⟩
          have hkm : k < m := by omega
          obtain ⟨hfN, af, hfb, hfs⟩ := HI3.out.rf
          obtain ⟨hgN, ag, hgb, hgs⟩ := HI3.out.rg
          have hnb := HI3.out.ls.node
          have n1 : nb ≠ gf := blk_ne hnb hfb (by decide)
          have n2 : nb ≠ gg := blk_ne hnb hgb (by decide)
          have n3 : gf ≠ gg := HI3.out.nfg
          have n1' : gf ≠ nb := fun e => n1 e.symm
          have n2' : gg ≠ nb := fun e => n2 e.symm
          have n3' : gg ≠ gf := fun e => n3 e.symm
          have p1 : sB ≠ nb := blk_ne hsB hnb (by decide)
          have p2 : sB ≠ gf := blk_ne hsB hfb (by decide)
          have p3 : sB ≠ gg := blk_ne hsB hgb (by decide)
          have p1' : nb ≠ sB := fun e => p1 e.symm
          have p2' : gf ≠ sB := fun e => p2 e.symm
          have p3' : gg ≠ sB := fun e => p3 e.symm
          have d71 : w3.cell? ⟨nb, 71, none⟩ = _ := (cell_of_blk hnb _).trans HI3.out.c71
          have d73 : w3.cell? ⟨nb, 73, none⟩ = _ := (cell_of_blk hnb _).trans HI3.out.c73
          have csz := HI3.out.ls.csz
          have d78 : w3.cell? ⟨nb, 78, none⟩ = _ := (cell_of_blk hnb _).trans (Array.getElem?_eq_getElem (by omega : 78 < cs.size))
          have df : w3.cell? ⟨gf, k, none⟩ = _ := (cell_of_blk hfb _).trans (Array.getElem?_eq_getElem (by omega : k < af.size))
          have dg : w3.cell? ⟨gg, k, none⟩ = _ := (cell_of_blk hgb _).trans (Array.getElem?_eq_getElem (by omega : k < ag.size))
          have z1 := frozen_of_blk hnb 78
          have z2 := frozen_of_blk hfb k
          have z3 := frozen_of_blk hgb k
          have t1 : w3.cell? ⟨sB, 1, none⟩ = some (.bool f) := cell_of_blk hsB 1
          have t2 : w3.cell? ⟨sB, 2, none⟩ = some (.bool g) := cell_of_blk hsB 2
          have t3 : w3.cell? ⟨sB, 3, none⟩ = some (.bool bh) := cell_of_blk hsB 3
          have t4 : w3.cell? ⟨sB, 4, none⟩ = some (.int .u8 (was : Int)) := cell_of_blk hsB 4
          have t5 : w3.cell? ⟨sB, 5, none⟩ = some (.int .i64 T) := cell_of_blk hsB 5
          have HNB : Hid _ := hnb
          have HFB : Hid _ := hfb
          have HGB : Hid _ := hgb
          have HSB : Hid _ := hsB
          clear hnb hfb hgb hsB
          go_region_held3 (fun w' => w'.cell? ⟨nb, 71, none⟩ = some (.slice (some ⟨gf, 0, none⟩) m m) ∧ w'.cell? ⟨sB, 1, none⟩ = some (.bool f)) (go_keep) (fail)
          go_wp2_with fail
          go_region_held3 (fun w' => w'.cell? ⟨nb, 73, none⟩ = some (.slice (some ⟨gg, 0, none⟩) m m) ∧ w'.cell? ⟨sB, 2, none⟩ = some (.bool g)) (go_keep) (fail)
          go_wp2_with fail
          obtain ⟨W, hW⟩ : ∃ W, W = ((((w3.setCell ⟨gf, k, none⟩ (.bool f)).setCell ⟨gg, k, none⟩ (.bool g)).setCell ⟨nb, 78, none⟩ (.bool bh)).drew.drew) := ⟨_, rfl⟩
          obtain ⟨hI4, e1, e2, e3, e4, e5⟩ := HI3.out.marks hkm f g bh hW
          rw [← hW]
          have hsB4 := (e5 sB p1 p2 p3).trans HSB.out
          have hB4 := HB3.out.trans e4
          clear hW e5 e4 d71 d73 d78 df dg z1 z2 z3 t1 t2 t3 t4 t5 HI3 HB3 HNB HFB HGB HSB csz hfs hgs
          generalize cs.setIfInBounds 78 (.bool bh) = cs2 at hI4 e3
          refine (add_any T W T0 T1).mono ?_
          rintro e w5 ⟨n, x, x0, x1, x2, x3, rfl, hB5⟩
          have hI5 := hI4.mono hB5
          have e1' := (hB5.cell (p := ⟨gf, k, none⟩) hI4.rf.lt).trans e1
          have e2' := (hB5.cell (p := ⟨gg, k, none⟩) hI4.rg.lt).trans e2
          have hsB5 := (hB5.block sB (Array.getElem?_eq_some_iff.1 hsB4).1).trans hsB4
          have hB5w := hB4.trans (hB5.mono hB4.size)
          clear hB5 hsB4 hI4 e1 e2 hB4
          have hnb := hI5.ls.node
          have csz := hI5.ls.csz
          have l1 : nb < w5.heap.size := (Array.getElem?_eq_some_iff.1 hnb).1
          have l2 : sB < w5.heap.size := (Array.getElem?_eq_some_iff.1 hsB5).1
          have d81 : w5.cell? ⟨nb, 81, none⟩ = _ := (cell_of_blk hnb _).trans (Array.getElem?_eq_getElem (by omega : 81 < cs2.size))
          have d82 : w5.cell? ⟨nb, 81 + 1, none⟩ = _ := (cell_of_blk hnb _).trans (Array.getElem?_eq_getElem (by omega : 82 < cs2.size))
          have d83 : w5.cell? ⟨nb, 81 + 2, none⟩ = _ := (cell_of_blk hnb _).trans (Array.getElem?_eq_getElem (by omega : 83 < cs2.size))
          have z1 := frozen_of_blk hnb 81
          have z2 : w5.frozen? ⟨nb, 81 + 1, none⟩ = false := frozen_of_blk hnb _
          have z3 : w5.frozen? ⟨nb, 81 + 2, none⟩ = false := frozen_of_blk hnb _
          have t4 : w5.cell? ⟨sB, 4, none⟩ = some (.int .u8 (was : Int)) := cell_of_blk hsB5 4
          have HI5 : Hid _ := hI5
          have HB5 : Hid _ := hB5w
          have HS5 : Hid _ := hsB5
          clear hI5 hB5w hsB5 hnb
          go_wp2_with fail
          obtain ⟨W6, hW6⟩ : ∃ W6, W6 = ((((w5.setCell ⟨nb, 81, none⟩ (.int .u64 n)).setCell ⟨nb, 82, none⟩ (.int .i64 x)).setCell ⟨nb, 83, none⟩ (.pointer none)).alloc (.cells #[.int .u64 n, .int .i64 x, .pointer none] 38)) := ⟨_, rfl⟩
          obtain ⟨cs3, hI6, hR, hat, hB6, far6⟩ := HI5.out.stamp e3 n x _ hW6
          rw [← hW6]
          have f1 := (World.cell?_of_block (a := ⟨gf, k, none⟩) (far6 gf HI5.out.rf.lt n1')).trans e1'
          have f2 := (World.cell?_of_block (a := ⟨gg, k, none⟩) (far6 gg HI5.out.rg.lt n2')).trans e2'
          have hsB6 := (far6 sB l2 p1).trans HS5.out
          have hB6w := HB5.out.trans hB6
          have n5 : w5.heap.size ≠ nb := by omega
          have n6 : w5.heap.size ≠ U := by have := (Array.getElem?_eq_some_iff.1 HI5.out.ls.row).1; omega
          have n7 : sB ≠ U := blk_ne HS5.out HI5.out.ls.row (by decide)
          clear hW6 e1' e2' e3 hB6 far6 d81 d82 d83 z1 z2 z3 t4 HI5 HB5 HS5 csz l1 l2
          generalize w5.heap.size = at' at hat n5 n6 ⊢
          generalize hwz : (was : Int) % 4 = wz
          have HE : Hid (0 < len → ∃ k st n x q, ChgAt au o k st n x q) := fun h => by
            obtain ⟨k', st', n', x', q', _, _, h1, _⟩ := hI6.same o (Nat.le_refl _) (by omega)
            exact ⟨k', st', n', x', q', h1⟩
          refine (log_room w.heap.size (j + L) U o len made au nb gf gg m k s wz n x f g bh cs3 W6 hkm hR f1 f2 hI6.nN hI6.nU hlen (by omega) (by omega) hI6.ls HE.out).mono ?_
          have HI6 : Hid _ := hI6
          have HB6 : Hid _ := hB6w
          clear hI6 hB6w hR f1 f2 HE
          rintro e w7 ⟨rfl, ⟨hst, rfl⟩ | ⟨hst, hA⟩⟩
          · have t1 : w7.cell? ⟨sB, 1, none⟩ = some (.bool f) := cell_of_blk hsB6 1
            have t2 : w7.cell? ⟨sB, 2, none⟩ = some (.bool g) := cell_of_blk hsB6 2
            have t3 : w7.cell? ⟨sB, 3, none⟩ = some (.bool bh) := cell_of_blk hsB6 3
            clear hsB6 hat
            by_cases hks : (k : Int) = s
            · subst hks
              go_wp2_with fail
              refine (standing_any g bh f _).mono ?_
              rintro e w8 ⟨rfl, rfl⟩
              have hst' : stOf g bh f = wz := by simpa using hst
              rw [hst']
              go_wp2
              exact ⟨⟨l + 1, o, len, made, cs3, au, av, by omega, rfl, rfl, by go_num, HI6.out, by omega, by omega, hlen, HB6.out⟩, by simp [intOf]; omega⟩
            · go_wp2_with fail
              refine (standing_any g false f _).mono ?_
              rintro e w8 ⟨rfl, rfl⟩
              have hst' : stOf g false f = wz := by simpa [hks] using hst
              rw [hst']
              go_wp2
              exact ⟨⟨l + 1, o, len, made, cs3, au, av, by omega, rfl, rfl, by go_num, HI6.out, by omega, by omega, hlen, HB6.out⟩, by simp [intOf]; omega⟩
          · have ls6 := (Array.getElem?_eq_some_iff.1 hsB6).1
            have la6 := (Array.getElem?_eq_some_iff.1 hat).1
            have hsB7 := (hA.rest sB ls6 p1 n7).trans hsB6
            have hat7 := (hA.rest at' la6 n5 n6).trans hat
            have t1 : w7.cell? ⟨sB, 1, none⟩ = some (.bool f) := cell_of_blk hsB7 1
            have t2 : w7.cell? ⟨sB, 2, none⟩ = some (.bool g) := cell_of_blk hsB7 2
            have t3 : w7.cell? ⟨sB, 3, none⟩ = some (.bool bh) := cell_of_blk hsB7 3
            have v0 : w7.cell? ⟨at', 0, none⟩ = some (.int .u64 n) := cell_of_blk hat7 0
            have v1 : w7.cell? ⟨at', 1, none⟩ = some (.int .i64 x) := cell_of_blk hat7 1
            have v2 : w7.cell? ⟨at', 2, none⟩ = some (.pointer none) := cell_of_blk hat7 2
            have la7 : at' < w7.heap.size := (Array.getElem?_eq_some_iff.1 hat7).1
            have hB7 := HB6.out.trans hA.below
            have lV := (Array.getElem?_eq_some_iff.1 HI6.out.rV).1
            have hV7 : w7.heap[V]? = some (.cells av 75 (0, 0)) := (hA.rest V lV (fun e => blk_ne HI6.out.ls.node HI6.out.rV (by decide) e.symm) (fun e => HI6.out.nUV e.symm)).trans HI6.out.rV
            have HV7 : Hid (∀ ob, (w7.alloc ob).heap[V]? = some (.cells av 75 (0, 0))) := fun ob => (Below.heap_alloc _ _ _ (Array.getElem?_eq_some_iff.1 hV7).1).trans hV7
            have HB7 : Hid _ := hB7
            obtain ⟨iu, hiu, hu0, hu1, hu2⟩ := info_parts75
            clear hsB6 hat hsB7 hat7 hV7 hB7 lV ls6 la6 hu0 hu2
            by_cases hks : (k : Int) = s
            · subst hks
              go_wp2_with fail
              refine (standing_any g bh f _).mono ?_
              rintro e w8 ⟨rfl, rfl⟩
              have hst' : stOf g bh f ≠ wz := by simpa using hst
              simp only [decide_true, Bool.true_and] at hA
              generalize stOf g bh f = st at hst' hA ⊢
              have HA : Hid _ := hA
              clear hA hst
              have hst2 : (st == wz) = false := by simpa using hst'
              by_cases h1024 : len = 1024
              · subst h1024
                obtain ⟨cs4, au4, av4, hI9⟩ := HI6.out.step (ob := .cells #[.int .i64 (k : Int), .int .u8 st, .int .u64 n, .int .i64 x, .pointer none, .int .u64 ((made : Int) + 1)] 75) (by omega) x0 x1 HA.out
                have hsp := spare_of (o := o + 1) (len := 1023) (news := chgL k st n x ((made : Int) + 1)) (HV7.out (.cells #[.int .i64 (k : Int), .int .u8 st, .int .u64 n, .int .i64 x, .pointer none, .int .u64 ((made : Int) + 1)] 75)) HI6.out.sV (by omega) rfl
                rw [show (o + 1) * 6 = o * 6 + 6 by omega] at hsp
                have HSP : Hid _ := hsp
                rw [show (o + 1024) * 6 = o * 6 + 6 + 1023 * 6 by omega] at hI9
                have HI9 : Hid _ := hI9
                clear hI9 hsp
                go_wp2_with (at_builtin; refine wpList_append_room rfl (.tmp 160) (.tmp 166) 64 rfl 75 iu 6 Ybaf.underlying64 hiu hu1 V (o * 6 + 6) 1023 (j + L - o - 1) rfl ⟨w8.heap.size, 0, none⟩ 1 1 (chgL k st n x ((made : Int) + 1)) rfl rfl (World.news_of_block (heap_alloc_new _ _)) (by simp [Value.oneCell']) (by omega) HSP.out ?_)
                exact ⟨⟨l + 1, o + 1, 1024, made + 1, cs4, au4, av4, by omega, by rw [show (o + 1) * 6 = o * 6 + 6 by omega, show j + L - (o + 1) = j + L - o - 1 by omega], by simp, by go_num, HI9.out, by omega, by omega, by omega, below_setCells HI6.out.nV _ _ _ (HB7.out.alloc HB7.out.size _)⟩, by simp [intOf]; omega⟩
              · have hne : ((len : Int) == 1024) = false := by simp; omega
                obtain ⟨cs4, au4, av4, hI9⟩ := HI6.out.step (ob := .cells #[.int .i64 (k : Int), .int .u8 st, .int .u64 n, .int .i64 x, .pointer none, .int .u64 ((made : Int) + 1)] 75) (by omega) x0 x1 HA.out
                have HSP : Hid _ := spare_of (o := o) (len := len) (news := chgL k st n x ((made : Int) + 1)) (HV7.out (.cells #[.int .i64 (k : Int), .int .u8 st, .int .u64 n, .int .i64 x, .pointer none, .int .u64 ((made : Int) + 1)] 75)) HI6.out.sV (by omega) rfl
                rw [show (o + len) * 6 = o * 6 + len * 6 by omega, show nxtO o len = o from if_neg h1024, show nxtL len = len + 1 from if_neg h1024] at hI9
                have HI9 : Hid _ := hI9
                clear hI9
                go_wp2_with (at_builtin; refine wpList_append_room rfl (.tmp 160) (.tmp 166) 64 rfl 75 iu 6 Ybaf.underlying64 hiu hu1 V (o * 6) len (j + L - o) rfl ⟨w8.heap.size, 0, none⟩ 1 1 (chgL k st n x ((made : Int) + 1)) rfl rfl (World.news_of_block (heap_alloc_new _ _)) (by simp [Value.oneCell']) (by omega) HSP.out ?_)
                exact ⟨⟨l + 1, o, len + 1, made + 1, cs4, au4, av4, by omega, rfl, by simp, by go_num, HI9.out, by omega, by omega, by omega, below_setCells HI6.out.nV _ _ _ (HB7.out.alloc HB7.out.size _)⟩, by simp [intOf]; omega⟩
            · go_wp2_with fail
              refine (standing_any g false f _).mono ?_
              rintro e w8 ⟨rfl, rfl⟩
              have hst' : stOf g false f ≠ wz := by simpa [hks] using hst
              simp only [hks, decide_false, Bool.false_and] at hA
              generalize stOf g false f = st at hst' hA ⊢
              have HA : Hid _ := hA
              clear hA hst
              have hst2 : (st == wz) = false := by simpa using hst'
              by_cases h1024 : len = 1024
              · subst h1024
                obtain ⟨cs4, au4, av4, hI9⟩ := HI6.out.step (ob := .cells #[.int .i64 (k : Int), .int .u8 st, .int .u64 n, .int .i64 x, .pointer none, .int .u64 ((made : Int) + 1)] 75) (by omega) x0 x1 HA.out
                have hsp := spare_of (o := o + 1) (len := 1023) (news := chgL k st n x ((made : Int) + 1)) (HV7.out (.cells #[.int .i64 (k : Int), .int .u8 st, .int .u64 n, .int .i64 x, .pointer none, .int .u64 ((made : Int) + 1)] 75)) HI6.out.sV (by omega) rfl
                rw [show (o + 1) * 6 = o * 6 + 6 by omega] at hsp
                have HSP : Hid _ := hsp
                rw [show (o + 1024) * 6 = o * 6 + 6 + 1023 * 6 by omega] at hI9
                have HI9 : Hid _ := hI9
                clear hI9 hsp
                go_wp2_with (at_builtin; refine wpList_append_room rfl (.tmp 160) (.tmp 166) 64 rfl 75 iu 6 Ybaf.underlying64 hiu hu1 V (o * 6 + 6) 1023 (j + L - o - 1) rfl ⟨w8.heap.size, 0, none⟩ 1 1 (chgL k st n x ((made : Int) + 1)) rfl rfl (World.news_of_block (heap_alloc_new _ _)) (by simp [Value.oneCell']) (by omega) HSP.out ?_)
                exact ⟨⟨l + 1, o + 1, 1024, made + 1, cs4, au4, av4, by omega, by rw [show (o + 1) * 6 = o * 6 + 6 by omega, show j + L - (o + 1) = j + L - o - 1 by omega], by simp, by go_num, HI9.out, by omega, by omega, by omega, below_setCells HI6.out.nV _ _ _ (HB7.out.alloc HB7.out.size _)⟩, by simp [intOf]; omega⟩
              · have hne : ((len : Int) == 1024) = false := by simp; omega
                obtain ⟨cs4, au4, av4, hI9⟩ := HI6.out.step (ob := .cells #[.int .i64 (k : Int), .int .u8 st, .int .u64 n, .int .i64 x, .pointer none, .int .u64 ((made : Int) + 1)] 75) (by omega) x0 x1 HA.out
                have HSP : Hid _ := spare_of (o := o) (len := len) (news := chgL k st n x ((made : Int) + 1)) (HV7.out (.cells #[.int .i64 (k : Int), .int .u8 st, .int .u64 n, .int .i64 x, .pointer none, .int .u64 ((made : Int) + 1)] 75)) HI6.out.sV (by omega) rfl
                rw [show (o + len) * 6 = o * 6 + len * 6 by omega, show nxtO o len = o from if_neg h1024, show nxtL len = len + 1 from if_neg h1024] at hI9
                have HI9 : Hid _ := hI9
                clear hI9
                go_wp2_with (at_builtin; refine wpList_append_room rfl (.tmp 160) (.tmp 166) 64 rfl 75 iu 6 Ybaf.underlying64 hiu hu1 V (o * 6) len (j + L - o) rfl ⟨w8.heap.size, 0, none⟩ 1 1 (chgL k st n x ((made : Int) + 1)) rfl rfl (World.news_of_block (heap_alloc_new _ _)) (by simp [Value.oneCell']) (by omega) HSP.out ?_)
                exact ⟨⟨l + 1, o, len + 1, made + 1, cs4, au4, av4, by omega, rfl, by simp, by go_num, HI9.out, by omega, by omega, by omega, below_setCells HI6.out.nV _ _ _ (HB7.out.alloc HB7.out.size _)⟩, by simp [intOf]; omega⟩
        · have d79 : ws.cell? ⟨nb, 79, none⟩ = _ := (cell_of_blk hI.ls.node _).trans hI.ls.unread
          have d80 : ws.cell? ⟨nb, 80, none⟩ = _ := (cell_of_blk hI.ls.node _).trans hI.ls.made
          have HI : Hid _ := hI
          have HBs : Hid _ := hBs
          clear hI hBs
          go_wp2_with fail
          clear d79 d80
          go_loopw [24] (fun i wr => ∃ p : Nat, p ≤ len ∧ i = .int .i64 (p : Int) ∧ SInv w.heap.size (j + L) nb gf gg U V m s o len made cs au av wr ∧ Below w.heap.size w wr) (fun i _ => len - (intOf i).toNat)
          case atStart => exact ⟨0, Nat.zero_le _, rfl, HI.out, HBs.out⟩
          case round =>
            obtain ⟨wt, rfl⟩ : ∃ wt, wt = wr := ⟨_, rfl⟩
            obtain ⟨p, hp, rfl, hI, hBt⟩ := hrel
            by_cases hpl : p < len
            · obtain ⟨k, st, n, x, q, x0, x1, ⟨c0, c1, c2, c3, c4, c5⟩, e0, e1, e2, e3, e4, e5⟩ := hI.same (o + p) (by omega) (by omega)
              rw [show (o + p) * 6 = o * 6 + p * 6 by omega] at c0 c1 c2 c3 c4 c5 e0 e1 e2 e3 e4 e5
              have d79 : wt.cell? ⟨nb, 79, none⟩ = _ := (cell_of_blk hI.ls.node _).trans hI.ls.unread
              have u0 : wt.cell? ⟨U, o * 6 + p * 6, none⟩ = _ := (cell_of_blk hI.ls.row _).trans c0
              have u1 : wt.cell? ⟨U, o * 6 + p * 6 + 1, none⟩ = _ := (cell_of_blk hI.ls.row _).trans c1
              have u2 : wt.cell? ⟨U, o * 6 + p * 6 + 2, none⟩ = _ := (cell_of_blk hI.ls.row _).trans c2
              have u3 : wt.cell? ⟨U, o * 6 + p * 6 + 3, none⟩ = _ := (cell_of_blk hI.ls.row _).trans c3
              have u4 : wt.cell? ⟨U, o * 6 + p * 6 + 4, none⟩ = _ := (cell_of_blk hI.ls.row _).trans c4
              have u5 : wt.cell? ⟨U, o * 6 + p * 6 + 5, none⟩ = _ := (cell_of_blk hI.ls.row _).trans c5
              have v0 : wt.cell? ⟨V, o * 6 + p * 6, none⟩ = _ := (cell_of_blk hI.rV _).trans e0
              have v1 : wt.cell? ⟨V, o * 6 + p * 6 + 1, none⟩ = _ := (cell_of_blk hI.rV _).trans e1
              have v2 : wt.cell? ⟨V, o * 6 + p * 6 + 2, none⟩ = _ := (cell_of_blk hI.rV _).trans e2
              have v3 : wt.cell? ⟨V, o * 6 + p * 6 + 3, none⟩ = _ := (cell_of_blk hI.rV _).trans e3
              have v4 : wt.cell? ⟨V, o * 6 + p * 6 + 4, none⟩ = _ := (cell_of_blk hI.rV _).trans e4
              have v5 : wt.cell? ⟨V, o * 6 + p * 6 + 5, none⟩ = _ := (cell_of_blk hI.rV _).trans e5
              have HSame := same_any k st n x q wt.drew x0 x1
              have HIt : Hid _ := hI
              have HBt : Hid _ := hBt
              clear hI hBt c0 c1 c2 c3 c4 c5 e0 e1 e2 e3 e4 e5
              go_wp2_with fail
              go_region_with (go_at_call 9; refine HSame.mono ?_; rintro e w7 ⟨rfl, hB7⟩)
              all_goals (go_wp2; exact ⟨⟨p + 1, by omega, by go_num, HIt.out.mono (((Below.refl _ _).drew).trans hB7), (HBt.out.drew).trans (hB7.mono HBt.out.size)⟩, by simp [intOf]; omega⟩)
            · go_wp2
              go_ret
              exact ⟨rfl, hBt⟩

end Go.Proofs.YbulkcmxgFmt
