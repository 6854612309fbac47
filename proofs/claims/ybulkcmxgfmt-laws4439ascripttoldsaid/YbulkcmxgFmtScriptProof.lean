import Derived.Test.YbulkcmxgFmtScript
import Derived.Test.YbulkcmxgFmtFrame
import Derived.Test.YbulkcmxgFmtOneProof
import Derived.Deep.Slices
import Derived.OpenShut
import Derived.ChangeOld
namespace Go.Proofs.YbulkcmxgFmt.lawS4439AScript
open Go.ChangeShapes Go.WideShapes Go.ChangeAt Go.RowKit Go.Deep
open Go.Extern.Stop Go.Stop Go.Extern

set_option maxHeartbeats 2000000 in
set_option maxRecDepth 100000 in
theorem script_long (a b pre : Int) (ao : Option Addr) (L cap : Nat) (w : World) (hL : 2048 < L) (hm : L ≤ maxLen) :
    Calls Ybaf.prog 4 #[.int .u8 a, .int .u8 b, .int .u16 pre, .slice ao L cap] w fun e w' => e = .returned (.bool true) ∧ Below w.heap.size w w' := by
  unfold maxLen at hm
  go_enter Ybaf.func4, Ybaf.ntmps4
  go_wp2
  go_ret
  exact ⟨rfl, Below.refl _ _⟩

theorem cells80 : Ybaf.prog.cellsOf 80 = 6 := by kernel_rfl
theorem cells5 : Ybaf.prog.cellsOf 5 = 1 := by kernel_rfl
theorem cells4 : Ybaf.prog.cellsOf 4 = 1 := by kernel_rfl
theorem cells2 : Ybaf.prog.cellsOf 2 = 1 := by kernel_rfl

theorem spot_none {w : World} {a : Addr} {v : Value} (h : w.cell? a = some v) : a = ⟨a.block, a.off, none⟩ := by
  obtain ⟨b, o, s⟩ := a
  cases s with
  | none => rfl
  | some x => unfold World.cell? at h; split at h <;> simp at h

set_option maxRecDepth 100000 in
theorem open_steps {H : Type} {enc : TypeId × Value → H} {W : World} {fuel : Nat} {a : Option Addr} {len cap : Nat} {x : DataW H × List MemPlace}
    (h : DataW.trod enc Ybaf.prog W 0 (fun _ => true) true fuel 78 [.slice a len cap] = some x) : len ≤ maxLen ∧ StepsAt a len W := by
  rcases open_slice Ybaf.underlying78 h with ⟨e, _⟩ | ⟨a', len', cap', m, n, D, Pl, e, hb, hl, hm, hmm, _, hx⟩
  · simp at e; obtain ⟨rfl, rfl, rfl⟩ := e
    exact ⟨by simp [maxLen], fun i hi => by omega⟩
  · simp at e; obtain ⟨rfl, rfl, rfl⟩ := e
    simp at hmm; subst hmm
    rw [cells80] at hx
    refine ⟨by omega, fun i hi => ?_⟩
    have hsp : a' = ⟨a'.block, a'.off, none⟩ := by
      obtain ⟨cs0, h10, _⟩ := hx 0 (by omega)
      obtain ⟨_, hlen0, hcell0⟩ := World.cells?_some h10
      have e := hcell0 0 (by omega)
      rw [List.getElem?_eq_getElem (by omega)] at e
      have := spot_none e
      simpa [Addr.add] using this
    obtain ⟨bb, off, sp⟩ := a'
    simp at hsp
    subst hsp
    obtain ⟨cs', h1, h2⟩ := hx i (by omega)
    obtain ⟨_, hlen, hcell⟩ := World.cells?_some h1
    obtain ⟨xs, k, hk, hxy, _, hxl, hf⟩ := DataW.trod_struct Ybaf.underlying80 h2
    have hxl' : xs.length = 6 := hxl
    match xs, hxl', cs', hlen with
    | [y0, y1, y2, y3, y4, y5], _, [v0, v1, v2, v3, v4, v5], _ =>
      have g0 := hf 0 _ rfl
      have g1 := hf 1 _ rfl
      have g2 := hf 2 _ rfl
      have g3 := hf 3 _ rfl
      have g4 := hf 4 _ rfl
      have g5 := hf 5 _ rfl
      simp [cells5, cells4, cells2] at g0 g1 g2 g3 g4 g5
      obtain ⟨p0, c0, _, f0⟩ := DataW.trod_int Ybaf.underlying5 g0
      obtain ⟨p1, c1, _⟩ := DataW.trod_bool Ybaf.underlying4 g1
      obtain ⟨p2, c2, _⟩ := DataW.trod_bool Ybaf.underlying4 g2
      obtain ⟨p3, c3, _⟩ := DataW.trod_bool Ybaf.underlying4 g3
      obtain ⟨p4, c4, _, f4⟩ := DataW.trod_int Ybaf.underlying5 g4
      obtain ⟨p5, c5, _, f5⟩ := DataW.trod_int Ybaf.underlying2 g5
      simp at c0 c1 c2 c3 c4 c5
      subst c0 c1 c2 c3 c4 c5
      obtain ⟨n0, rfl, b0⟩ := lawS4439AOneCall.nat_of rfl f0
      obtain ⟨n4, rfl, b4⟩ := lawS4439AOneCall.nat_of rfl f4
      have b5 : -9223372036854775808 ≤ p5 ∧ p5 ≤ 9223372036854775807 := by
        simp [Lit.wf, IntKind.min, IntKind.max, IntKind.signed, IntKind.bits] at f5
        omega
      have e0 := hcell 0 (by omega)
      have e1 := hcell 1 (by omega)
      have e2 := hcell 2 (by omega)
      have e3 := hcell 3 (by omega)
      have e4 := hcell 4 (by omega)
      have e5 := hcell 5 (by omega)
      rw [add_add] at e0 e1 e2 e3 e4 e5
      simp only [Addr.add_lit] at e0 e1 e2 e3 e4 e5
      refine ⟨bb, off, n0, n4, p1, p2, p3, p5, rfl, World.block_lt_of_cell? W _ e0, b0, b4, b5.1, b5.2, by simpa using e0, ?_, ?_, ?_, ?_, ?_⟩
      · rw [Nat.add_assoc]; simpa using e1
      · rw [Nat.add_assoc]; simpa using e2
      · rw [Nat.add_assoc]; simpa using e3
      · rw [Nat.add_assoc]; simpa using e4
      · rw [Nat.add_assoc]; simpa using e5

set_option maxRecDepth 100000 in
theorem witness_row (os : Os) {H : Type} (enc : TypeId × Value → H) :
    (OpenSpec.ofChange Rows.lawS4439AScriptSpec).preRow enc Ybaf.prog Ybaf.f4 Rows.lawS4439AScriptRow.domain false Rows.lawS4439AScriptRow.laid ((paceIn (World.holding Ybaf.prog os ⟨#[], #[], []⟩)).forCall (fun _ _ => 0) ⟨#[], #[.int .u8 0, .int .u8 0, .int .u16 0, .slice none 0 0], []⟩).memory #[.int .u8 0, .int .u8 0, .int .u16 0, .slice none 0 0] := by
  have hw : (DataW.whole enc Ybaf.prog ((paceIn (World.holding Ybaf.prog os ⟨#[], #[], []⟩)).forCall (fun _ _ => 0) ⟨#[], #[.int .u8 0, .int .u8 0, .int .u16 0, .slice none 0 0], []⟩).memory Ybaf.f4.params.toList (OpenSpec.ofChange Rows.lawS4439AScriptSpec).vars false #[Value.int .u8 0, .int .u8 0, .int .u16 0, .slice none 0 0].toList 8).map (fun x => (x.1, x.2.1)) =
      some ([.lit (.int .u8 0), .lit (.int .u8 0), .lit (.int .u16 0), .nil], [.agg [.lit (.int .i64 10000000), .lit (.int .i64 30000000), .lit (.int .i64 50000000)]]) := by kernel_rfl
  obtain ⟨⟨x1, x2, x3⟩, hx, hx1⟩ := Option.map_eq_some_iff.1 hw
  simp only [Prod.mk.injEq] at hx1
  obtain ⟨rfl, rfl⟩ := hx1
  exact OpenSpec.preRow_of_cond 8 hx (by kernel_rfl) (fun k hk => by cases hk) (by kernel_rfl) (laid_met os _)

set_option maxRecDepth 100000 in
set_option maxHeartbeats 4000000 in
theorem lifted (os : Os) (started : os.Started) (H : Type) (enc : TypeId × Value → H) :
    ReturnsInTold none {} Ybaf.checked os 4 .any Input.okWide ((OpenSpec.ofChange Rows.lawS4439AScriptSpec).preRow enc Ybaf.prog Ybaf.f4 Rows.lawS4439AScriptRow.domain false Rows.lawS4439AScriptRow.laid) (fun F => ((OpenSpec.ofChange Rows.lawS4439AScriptSpec).at F).post enc Ybaf.prog Ybaf.f4 false true false false) (aloneAtReturn Ybaf.prog) nothingAlways := by
  refine returnsInTold_of_row (C := Ybaf.checked) (s := OpenSpec.ofChange Rows.lawS4439AScriptSpec) (by kernel_rfl) Ybaf.own started (by kernel_rfl) Ybaf.func4
    (OpenSpec.witness_stopped_atRef (enc := enc) (C := Ybaf.checked) false (paceIn (World.holding Ybaf.prog os ⟨#[], #[], []⟩)) #[.int .u8 0, .int .u8 0, .int .u16 0, .slice none 0 0] rfl (by kernel_rfl) (by kernel_rfl) (by kernel_rfl) (witness_row os enc)) ?_
  intro F W base args ds gs before _ _ hval0 hW _ _ _ hL _
  have hval : ∀ (j : Nat) t v, Ybaf.f4.params[j]? = some t → args[j]? = some v → Value.okWide Ybaf.prog W .any base t v := hval0
  have hW' := hW
  obtain ⟨p, q, hA0, hV, rfl, _, _⟩ := hW
  have hA : DataW.TrodAll enc Ybaf.prog W 0 (fun _ => true) true Ybaf.f4.params.toList args.toList ds p := hA0
  rw [Ybaf.params4] at hA hval
  obtain ⟨v0, vs0, d0, ds0, p0, q0, hargs, rfl, rfl, h0, r0⟩ := trodAll_cons hA
  obtain ⟨v1, vs1, d1, ds1, p1, q1, rfl, rfl, rfl, h1, r1⟩ := trodAll_cons r0
  obtain ⟨v2, vs2, d2, ds2, p2, q2, rfl, rfl, rfl, h2, r2⟩ := trodAll_cons r1
  obtain ⟨v3, vs3, d3, ds3, p3, q3, rfl, rfl, rfl, h3, r3⟩ := trodAll_cons r2
  obtain ⟨rfl, rfl, rfl⟩ := trodAll_nil r3
  obtain rfl : args = #[v0, v1, v2, v3] := by cases args; simp_all
  obtain ⟨a0, rfl, rfl, rfl, w0⟩ := open_int Ybaf.underlying5 (hval 0 5 v0 rfl rfl) h0
  obtain ⟨a1, rfl, rfl, rfl, w1⟩ := open_int Ybaf.underlying5 (hval 1 5 v1 rfl rfl) h1
  obtain ⟨a2, rfl, rfl, rfl, w2⟩ := open_int Ybaf.underlying77 (hval 2 77 v2 rfl rfl) h2
  obtain ⟨a3, len3, cap3, rfl⟩ := okWide_slice Ybaf.underlying78 (hval 3 78 v3 rfl rfl)
  obtain ⟨n0, rfl, l0⟩ := lawS4439AOneCall.nat_of rfl w0
  obtain ⟨n1, rfl, l1⟩ := lawS4439AOneCall.nat_of rfl w1
  obtain ⟨n2, rfl, l2⟩ : ∃ n : Nat, a2 = n ∧ n ≤ 65535 := by
    have := w2
    simp [Lit.wf, IntKind.min, IntKind.max, IntKind.signed, IntKind.bits] at this
    exact ⟨a2.toNat, by omega, by omega⟩
  have k3 := h3
  have lt3 : ∀ x ∈ p3, x.block < W.heap.size := by obtain ⟨m, hm⟩ := k3; exact DataW.trod_lt m _ _ _ hm
  obtain ⟨hlen, hsteps⟩ : len3 ≤ maxLen ∧ StepsAt a3 len3 W := by
    obtain ⟨fuel, hf⟩ := h3
    exact open_steps hf
  have hV1 : DataW.TrodVars enc Ybaf.prog W (fun _ => true) ["example.com/antecast/antecast/internal/causal.DefaultPacing"] gs q := hV
  obtain ⟨_, _, _, _, d, _, rfl, _⟩ := trodVars_one hV1
  clear hA0 hval0
  have walk : Calls Ybaf.prog 4 #[.int .u8 (n0 : Int), .int .u8 (n1 : Int), .int .u16 (n2 : Int), .slice a3 len3 cap3] W fun e w' => e = .returned (.bool true) ∧ Below W.heap.size W w' := by
    by_cases hbig : len3 ≤ 2048
    · exact script_any n0 n1 n2 a3 len3 cap3 W l0 l1 l2 hbig hsteps (pace_of_laid hL)
    · exact script_long n0 n1 n2 a3 len3 cap3 W (by omega) hlen
  refine walk.mono ?_
  rintro e W' ⟨rfl, hg⟩
  exact ⟨_, rfl, _, _, _, [], _, _, hW', trodAll_mk1 (shut_bool Ybaf.underlying4 _), (trodAll_cons_mk (shut_int Ybaf.underlying5 w0) (trodAll_cons_mk (shut_int Ybaf.underlying5 w1) (trodAll_cons_mk (shut_int Ybaf.underlying77 w2) (trodAll_cons_mk (Below.trod Ybaf.laidOut (by kernel_rfl) (of_decide_eq_true (by kernel_rfl)) k3 hg lt3) trodAll_mk0)))), Below.trodVars Ybaf.laidOut hg (by kernel_rfl) hV1, hg.frame _, fun h => by cases h⟩

/-- ████ THE STATEMENT ████ -/
theorem proved : Rows.LawS4439AScriptToldSaid :=
  Claim7.holds_of_told_tied_any_at .later 4 Ybaf.f4 "fmt.Sprintf" [] [] _ _ _ _ _ (by kernel_rfl) rfl rfl rfl Ybaf.laidOut (by kernel_rfl) rfl ⟨rfl, rfl, rfl, rfl, rfl, rfl, rfl⟩ rfl rfl (by kernel_rfl) (by kernel_rfl) Ybaf.func4 (by kernel_rfl)
    (of_decide_eq_true (by kernel_rfl)) (by unfold Func.isWrapper; first | (rw [if_pos (by decide +kernel)]; kernel_rfl) | (rw [if_neg (by decide +kernel)]; exact ⟨rfl, rfl⟩)) Ybaf.stops.symm rfl Ybaf.stopKnobs.symm (by kernel_rfl)
    (by kernel_rfl) (by kernel_rfl) (by kernel_rfl) (by kernel_rfl) (by kernel_rfl) (by kernel_rfl) (by kernel_rfl) (by kernel_rfl) (by kernel_rfl) rfl (by kernel_rfl) rfl rfl
    rfl rfl
    rfl (by kernel_rfl) (by kernel_rfl) (by kernel_rfl) (by decide) (by kernel_rfl) lawS4439AScript_row_tie
    (OpenClaim.moreEntering_of (by kernel_rfl) (by kernel_rfl) (by kernel_rfl) (by kernel_rfl) (by kernel_rfl) (by kernel_rfl) (by kernel_rfl) (by kernel_rfl) (by kernel_rfl) (by kernel_rfl))
    ⟨_, WideRow.started_initial, Ybaf.quiet _⟩
    (fun os started _ H enc _ => lifted os started H enc)

end Go.Proofs.YbulkcmxgFmt.lawS4439AScript
