/- The frame follows the seat's shell (written by a program of the kit for this program), turned to this statement's two parameters. -/
import Derived.Test.YbulkcmywCallsWalk
import Derived.Deep.Slices
import Derived.WalkKit
import Derived.ProofKit
import Derived.OpenShut
import Derived.ShutString
import Derived.ChangeOld
import Derived.Below
namespace Go.Proofs.Ybulkcmyw.lawS4442ACalls
open Go.ChangeShapes Go.WideShapes Go.ChangeAt Go.RowKit
open Go.ChangeMaps (open_string shut_string)
set_option linter.unusedVariables false

theorem own : ownKnob Yba.prog.godebug = none := by kernel_rfl
theorem laidOut : laidOutB Yba.prog = true := by kernel_rfl

/-- WHAT THE WALK IS TOLD OF A SLICE OF INTEGERS THAT CAME IN: it is nil; or it leads to a row of 'cap' cells, the numbers 'zs' (the first 'len' are its elements, the rest its spare room), each fitting its kind. -/
def IsRow (k : IntKind) (w : World) (a : Option Addr) (len cap : Nat) (zs : List Int) : Prop :=
  (a = none ∧ len = 0 ∧ cap = 0 ∧ zs = []) ∨
  ∃ x, a = some x ∧ len ≤ cap ∧ cap ≤ maxLen ∧ zs.length = cap ∧ (∀ i, i < zs.length → w.cell? (x.add i) = some (.int k (zs.getD i 0))) ∧ ∀ n ∈ zs, (Lit.int k n).wf = true

theorem ints_in {w : World} {a0 : Option Addr} {len0 cap0 : Nat} {z0 : List Int} (w0 : IsRow .i64 w a0 len0 cap0 z0) : (z0.take len0).length = len0 ∧ len0 ≤ maxLen ∧ IntsIn w a0 len0 (z0.take len0) := by
  rcases w0 with ⟨rfl, rfl, rfl, rfl⟩ | ⟨x, rfl, hl, hm, hz, hc, _⟩
  · exact ⟨rfl, by simp [maxLen], .inl rfl⟩
  · refine ⟨by rw [List.length_take]; omega, by omega, ?_⟩
    by_cases h0 : len0 = 0
    · exact .inl h0
    · obtain ⟨b, off, rfl, hc'⟩ := ints_at hc (by omega)
      refine .inr ⟨b, off, rfl, World.block_lt_of_cell? w ⟨b, off + 0, none⟩ (hc' 0 (by omega)), fun j hj => ?_⟩
      rw [hc' j (by omega)]; simp [List.getD, hj]

theorem spot_none {w : World} {a : Addr} {v : Value} (h : w.cell? a = some v) : a = ⟨a.block, a.off, none⟩ := by
  obtain ⟨b, o, s⟩ := a
  cases s with
  | none => rfl
  | some x => unfold World.cell? at h; split at h <;> simp at h

theorem bools_in {H : Type} {enc : TypeId × Value → H} {W : World} {fuel : Nat} {a : Option Addr} {len cap : Nat} {x : DataW H × List MemPlace}
    (h : DataW.trod enc Yba.prog W 0 (fun _ => true) true fuel 23 [.slice a len cap] = some x) : ∃ bs, len ≤ maxLen ∧ BoolsIn W a len bs := by
  rcases Go.Deep.open_slice1 Yba.underlying23 (by kernel_rfl) h with ⟨e, _⟩ | ⟨a', len', cap', m, n, V, D, Pl, e, hb, hl, hm, hmm, _, hx⟩
  · simp at e; obtain ⟨rfl, rfl, rfl⟩ := e
    exact ⟨[], by simp [maxLen], rfl, .inl rfl⟩
  · simp at e; obtain ⟨rfl, rfl, rfl⟩ := e
    simp at hmm; subst hmm
    have each : ∀ i, i < len → ∃ q : Bool, W.cell? (a'.add i) = some (.bool q) := by
      intro i hi
      obtain ⟨h1, h2⟩ := hx i (by omega)
      obtain ⟨q, c0, _⟩ := DataW.trod_bool Yba.underlying4 h2
      simp at c0
      exact ⟨q, by rw [h1, c0]⟩
    obtain ⟨q, hq⟩ := Go.Deep.choose_lt each
    refine ⟨(List.range len).map q, by omega, by simp, ?_⟩
    by_cases h0 : len = 0
    · exact .inl h0
    · right
      have hz := hq 0 (by omega)
      have hs := spot_none hz
      simp [Addr.add] at hs
      obtain ⟨b, off, sp⟩ := a'
      simp at hs
      subst hs
      refine ⟨b, off, rfl, World.block_lt_of_cell? W ⟨b, off, none⟩ (by simpa [Addr.add] using hz), fun j hj => ?_⟩
      have := hq j hj
      rw [Addr.add_lit] at this
      rw [this]; simp [List.getD, hj]

/-! ### THE ROW's STEP: WRITTEN OUT: LEAVE IT -/
set_option maxRecDepth 100000 in
theorem lifted (os : Os) (started : os.Started) (H : Type) (enc : TypeId × Value → H) :
    ReturnsInHanded {} Yba.checked os 3 .any (Rows.lawS4442ACallsSpec.pre6 enc Yba.prog Yba.f3 Rows.lawS4442ACallsRow.domain false) (Rows.lawS4442ACallsSpec.post enc Yba.prog Yba.f3 false true false false) := by
  refine returnsInHanded_of_change (C := Yba.checked) own started (by kernel_rfl) Yba.func3
    (ChangeSpec.witness6 (enc := enc) (C := Yba.checked) false ⟨#[], #[.slice none 0 0, .slice none 0 0], []⟩ 8 (by kernel_rfl) (by kernel_rfl) (by kernel_rfl) (by kernel_rfl)) ?_
  intro W base args ds gs before hval0 hW hcnd _
  have hval : ∀ (j : Nat) t v, Yba.f3.params[j]? = some t → args[j]? = some v → Value.okWide Yba.prog W .any base t v := hval0
  have hW' := hW
  obtain ⟨p, q, hA0, hV, rfl, hfz, hnd⟩ := hW
  have hA : DataW.TrodAll enc Yba.prog W 0 (fun _ => true) true Yba.f3.params.toList args.toList ds p := hA0
  rw [Yba.params3] at hA hval
  obtain ⟨v0, vs0, d0, ds0, p0, q0, hargs, rfl, rfl, h0, r0⟩ := trodAll_cons hA
  obtain ⟨v1, vs1, d1, ds1, p1, q1, rfl, rfl, rfl, h1, r1⟩ := trodAll_cons r0
  obtain ⟨rfl, rfl, rfl⟩ := trodAll_nil r1
  obtain rfl : args = #[v0, v1] := by cases args; simp_all
  obtain ⟨rfl, rfl⟩ := trodVars_none hV
  obtain ⟨a0, len0, cap0, rfl⟩ := okWide_slice Yba.underlying22 (hval 0 22 v0 rfl rfl)
  have k0 := h0
  have lt0 : ∀ x ∈ p0, x.block < W.heap.size := by obtain ⟨m, hm⟩ := k0; exact DataW.trod_lt m _ _ _ hm
  obtain ⟨z0, w0⟩ : ∃ zs, IsRow .i64 W a0 len0 cap0 zs := by
    obtain ⟨fuel, hf⟩ := h0
    rcases open_ints Yba.underlying22 Yba.underlying3 (by kernel_rfl) hf with ⟨hcs, _⟩ | ⟨x, l, c, zs, hcs, _, hl, hm, hz, _, hcell, hwz⟩
    · simp [Value.cells] at hcs
      obtain ⟨rfl, rfl, rfl⟩ := hcs
      exact ⟨[], .inl ⟨rfl, rfl, rfl, rfl⟩⟩
    · simp [Value.cells] at hcs
      obtain ⟨rfl, rfl, rfl⟩ := hcs
      exact ⟨zs, .inr ⟨_, rfl, hl, hm, by simpa using hz, hcell, hwz⟩⟩
  obtain ⟨a1, len1, cap1, rfl⟩ := okWide_slice Yba.underlying23 (hval 1 23 v1 rfl rfl)
  have k1 := h1
  have lt1 : ∀ x ∈ p1, x.block < W.heap.size := by obtain ⟨m, hm⟩ := k1; exact DataW.trod_lt m _ _ _ hm
  obtain ⟨bs, hbm, hbs⟩ : ∃ bs, len1 ≤ maxLen ∧ BoolsIn W a1 len1 bs := by
    obtain ⟨fuel, hf⟩ := h1
    exact bools_in hf
  clear hA0 hval0
  obtain ⟨hzl, hzm, hzi⟩ := ints_in w0
  have walk : Calls Yba.prog 3 #[.slice a0 len0 cap0, .slice a1 len1 cap1] W fun e w' => e = .returned (.bool true) ∧ Below W.heap.size W w' := by
    by_cases hbig : len0 ≤ 1024 ∧ len1 ≤ 1024
    · exact calls_main a0 a1 len0 cap0 len1 cap1 (z0.take len0) bs W hbig.1 hbig.2 hzl hzi hbs
    · exact calls_big a0 a1 len0 cap0 len1 cap1 W hzm hbm (by omega)
  refine walk.mono fun e W' ⟨he, bel⟩ => ?_
  subst he
  exact ⟨_, rfl, _, _, _, [], _, [], hW', trodAll_mk1 (shut_bool Yba.underlying4 _), (trodAll_cons_mk (Below.trod laidOut (by kernel_rfl) (of_decide_eq_true (by kernel_rfl)) k0 bel lt0) (trodAll_cons_mk (Below.trod laidOut (by kernel_rfl) (of_decide_eq_true (by kernel_rfl)) k1 bel lt1) trodAll_mk0)), rfl, bel.frame _, fun h => by cases h⟩

theorem over : Rows.lawS4442ACallsRow.holds Yba.pinned (OpenSpec.ofChange Rows.lawS4442ACallsSpec) :=
  OpenClaim.holds_of_wide 3 Yba.f3 rfl rfl rfl rfl rfl rfl rfl ⟨rfl, rfl, rfl, rfl, rfl⟩ rfl rfl rfl rfl rfl (by kernel_rfl) Yba.func3 (by kernel_rfl)
    (of_decide_eq_true (by kernel_rfl)) (by unfold Func.isWrapper; first | (rw [if_pos (by decide +kernel)]; kernel_rfl) | (rw [if_neg (by decide +kernel)]; exact ⟨rfl, rfl⟩))
    (fun os started H enc _ => lifted os started H enc)

/-- ████ THE STATEMENT ████ -/
theorem proved : Rows.LawS4442ACallsSaid := over
end Go.Proofs.Ybulkcmyw.lawS4442ACalls
