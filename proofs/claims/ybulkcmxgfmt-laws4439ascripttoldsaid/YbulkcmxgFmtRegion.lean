import Derived.Test.YbulkcmxgFmtRows
import Derived.WalkKit
import Derived.ProofKit
import Derived.Orders
import Derived.Deep.QuietTactic
import Derived.BigQuiet
import Derived.Deep.Draws
import Derived.WalkSpells
import Derived.WalkSmall
import Derived.OpenShut
namespace Go.Proofs.YbulkcmxgFmt
open Go.RowKit

/-! ### A region that draws its order and makes memory: one invariant over what has been carried out so far -/
section
variable {P : Program} {ops : Array Oper} {Q : Exit → Act → World → Prop} {md : Region.Mode}

theorem filter_lt (l : List Nat) (p q : Nat → Bool) (h : ∀ x, q x = true → p x = true) (x : Nat) (hx : x ∈ l) (hp : p x = true) (hq : q x = false) : (l.filter q).length < (l.filter p).length := by
  induction l with
  | nil => cases hx
  | cons y l ih =>
    have hle : ∀ l : List Nat, (l.filter q).length ≤ (l.filter p).length := by
      intro l
      induction l with
      | nil => simp
      | cons z l ih2 =>
        cases hqz : q z with
        | true => simp [hqz, h z hqz]; exact ih2
        | false => cases hpz : p z <;> simp [hqz, hpz] <;> omega
    rcases List.mem_cons.1 hx with rfl | hx
    · simp [hp, hq]; have := hle l; omega
    · have := ih hx
      cases hqy : q y with
      | true => simp [hqy, h y hqy]; exact this
      | false => cases hpy : p y <;> simp [hqy, hpy] <;> omega

/-- How many operations are still to come. -/
def left (n : Nat) (listed : Array Bool) : Nat := ((List.range n).filter fun i => !listed.getD i false).length

theorem getD_set_eq {listed : Array Bool} {i j : Nat} : (listed.setIfInBounds i true).getD j false = true → j = i ∨ listed.getD j false = true := by
  intro h
  by_cases e : i = j
  · exact .inl e.symm
  · rw [getD_set_ne false e] at h; exact .inr h

theorem left_set {n i : Nat} {listed : Array Bool} (hi : i < n) (hs : listed.size = n) (hl : listed.getD i false = false) : left n (listed.setIfInBounds i true) < left n listed := by
  refine filter_lt _ _ _ (fun x hx => ?_) i (List.mem_range.2 hi) (by simpa using hl) ?_
  · by_cases e : i = x
    · subst e; simpa using hl
    · rw [getD_set_ne false e] at hx; exact hx
  · simp [hs, hi]

def edgesB (md : Region.Mode) (ops : Array Oper) : Bool :=
  (List.range ops.size).all fun i => match ops[i]? with
    | some o => o.after.all fun e => !Region.binds md e || decide (e.on < i)
    | none => true

theorem edges_spec (h : edgesB md ops = true) (i : Nat) (o : Oper) (ho : ops[i]? = some o) (e : Edge) (he : e ∈ o.after) (hb : Region.binds md e = true) : e.on < i := by
  unfold edgesB at h
  rw [List.all_eq_true] at h
  have h1 := h i (List.mem_range.2 (Array.getElem?_eq_some_iff.1 ho).1)
  simp only [ho, Array.all_eq_true_iff_forall_mem] at h1
  simpa [hb] using h1 e he

theorem ready_nil_all {listed : Array Bool} (hs : listed.size = ops.size) (he : edgesB md ops = true) (h : Region.ready md ops listed = []) : ∀ i, i < ops.size → listed.getD i false = true := by
  intro i
  induction i using Nat.strongRecOn with
  | ind i ih =>
    intro hi
    by_cases hl : listed.getD i false = true
    · exact hl
    · exfalso
      have hm : i ∈ Region.ready md ops listed := by
        rw [mem_ready]
        refine ⟨?_, ops[i], by simp [hi], fun e hem hb => ?_⟩
        · have hlt : i < listed.size := by omega
          simp [hlt] at hl ⊢; exact hl
        · have hlt := edges_spec he i ops[i] (by simp [hi]) e hem hb
          exact ih e.on hlt (by omega)
      rw [h] at hm; cases hm

theorem wpAny_inv (Inv : Array Bool → Act → World → Prop) (he : edgesB md ops = true)
    (step : ∀ listed a w i, listed.size = ops.size → Inv listed a w → i ∈ Region.ready md ops listed → wpOp P ops Q i (fun a' w' => Inv (listed.setIfInBounds i true) a' w') a w)
    (done : ∀ listed a w, listed.size = ops.size → Inv listed a w → (∀ i, i < ops.size → listed.getD i false = true) → Q .normal a w) :
    ∀ fuel listed a w, listed.size = ops.size → left ops.size listed ≤ fuel → Inv listed a w → wpAny P md ops Q fuel listed a w := by
  intro fuel
  induction fuel with
  | zero =>
    intro listed a w hs hf hI
    have hnil : Region.ready md ops listed = [] := by
      apply List.eq_nil_iff_forall_not_mem.2
      intro i hi
      obtain ⟨h0, o, ho, _⟩ := mem_ready.1 hi
      have hlt := (Array.getElem?_eq_some_iff.1 ho).1
      have hl : listed.getD i false = false := by
        have : i < listed.size := by omega
        simp [this] at h0 ⊢; exact h0
      have := left_set hlt hs hl
      omega
    exact ⟨hnil, done listed a w hs hI (ready_nil_all hs he hnil)⟩
  | succ fuel ih =>
    intro listed a w hs hf hI
    refine ⟨fun hnil => done listed a w hs hI (ready_nil_all hs he hnil), fun i hi => ?_⟩
    obtain ⟨h0, o, ho, _⟩ := mem_ready.1 hi
    have hlt := (Array.getElem?_eq_some_iff.1 ho).1
    have hl : listed.getD i false = false := by
      have : i < listed.size := by omega
      simp [this] at h0 ⊢; exact h0
    have hlf := left_set hlt hs hl
    exact wpOp_mono (fun a' w' h => ih _ a' w' (by simpa using hs) (by omega) h) (step listed a w i hs hI hi)

theorem wp_region_inv {id : Nat} {a : Act} {w : World} (Inv : Array Bool → Act → World → Prop) (hm : P.follows .mixedOrders = true) (he : edgesB .any ops = true)
    (step : ∀ listed a w i, listed.size = ops.size → Inv listed a w → i ∈ Region.ready .any ops listed → wpOp P ops Q i (fun a' w' => Inv (listed.setIfInBounds i true) a' w') a w)
    (done : ∀ listed a w, listed.size = ops.size → Inv listed a w → (∀ i, i < ops.size → listed.getD i false = true) → Q .normal a w)
    (start : Inv (Array.replicate ops.size false) a w.drew) : (Code.region id ops true).wp P Q a w :=
  wp_region_any hm (wpAny_inv Inv he step done ops.size _ _ _ (by simp) (by unfold left; exact Nat.le_trans (List.length_filter_le _ _) (by simp)) start)

/-! ### One operation -/
theorem wpOp_run {i : Nat} {o : Oper} {v : Value} {a : Act} {w w' : World} {K : Act → World → Prop} (ho : ops[i]? = some o) (hg : o.guard = none) (hr : (execOp a.eval o).run P w = .ok (.value v) w') (h : K (a.put o.dst v) w') : wpOp P ops Q i K a w := by
  unfold wpOp
  have hw : Region.wanted o (yielded ops a.tmps) = true := by simp [Region.wanted, hg]
  simp only [ho, hw, if_true]
  left
  unfold Oper.wp
  rw [hr]
  exact h

theorem wpOp_enter {i f : Nat} {o : Oper} {args : Array Value} {a : Act} {w : World} {K : Act → World → Prop} (ho : ops[i]? = some o) (hg : o.guard = none) (hr : (execOp a.eval o).run P w = .ok (.enter f args) w)
    (hc : Calls P f args w fun e w' => ∃ v, e = .returned v ∧ K (a.put o.dst v) w') : wpOp P ops Q i K a w := by
  unfold wpOp
  have hw : Region.wanted o (yielded ops a.tmps) = true := by simp [Region.wanted, hg]
  simp only [ho, hw, if_true]
  left
  unfold Oper.wp
  rw [hr, Oper.upon_enter]
  refine hc.mono fun e w' h => ?_
  obtain ⟨v, rfl, hk⟩ := h
  exact hk

theorem exec_move {o : Oper} {x : Operand} {a : Act} {w : World} (ho : o.op = .move x) : (execOp a.eval o).run P w = .ok (.value (a.eval x)) w := by simp [execOp, ho]
theorem exec_assign {o : Oper} {x : Operand} {a : Act} {w : World} (ho : o.op = .assign x) : (execOp a.eval o).run P w = .ok (.value (a.eval x)) w := by simp [execOp, ho]

theorem exec_make {o : Oper} {x : Operand} {a : Act} {w : World} {t e : TypeId} {z : Value} {size bytes m : Nat} (ho : o.op = .makeSlice t x x) (ht : P.underlying t = some (.slice e))
    (hi : (P.info? e).map (fun i => (i.zero, i.size, i.bytes)) = some (some z, size, bytes)) (hx : a.eval x = .int .i64 (m : Int)) (hm : m ≤ 64) (hb : bytes ≤ 1000000) :
    (execOp a.eval o).run P w = .ok (.value (.slice (some ⟨w.heap.size, 0, none⟩) m m)) (w.alloc (.cells (madeCells z.cells (m * size)) e)) := by
  obtain ⟨i, hi, hz, hs, hby⟩ := info_parts hi
  have h1 : bytes * m ≤ 1000000 * 64 := Nat.mul_le_mul hb hm
  have hr := run_make (P := P) w t e i z ht hi hz .i64 .i64 (m : Int) (m : Int) (by omega) (Int.le_refl _) (by rw [hby, ← Int.natCast_mul]; omega) (by omega)
  simp only [Int.toNat_natCast, hs] at hr
  simp [execOp, ho, hx, hr, Result.andThen]

theorem exec_of {o : Oper} {s : Sem Value} {a : Act} {w w' : World} {v : Value} (he : execOp a.eval o = (do pure (.value (← s)))) (hr : s.run P w = .ok v w') : (execOp a.eval o).run P w = .ok (.value v) w' := by
  rw [he]; simp [hr]
end

/-! ### The invariant's plain part: the slots of what has been carried out hold what they should -/
structure RInv (D : List Nat) (Good : Nat → Value → World → Prop) (w0 : World) (a0 : Act) (listed : Array Bool) (a : Act) (w : World) : Prop where
  defers : a.defers = a0.defers
  size : a.tmps.size = a0.tmps.size
  keep : ∀ t, t ∉ D → a.tmps[t]? = a0.tmps[t]?
  old : Below w0.heap.size w0 w
  good : ∀ j, listed.getD j false = true → Good j (a.tmps.getD (D.getD j 0) undef) w

theorem RInv.put {D : List Nat} {Good : Nat → Value → World → Prop} {w0 : World} {a0 : Act} {listed : Array Bool} {a : Act} {w w' : World} {i : Nat} {v : Value} (h : RInv D Good w0 a0 listed a w)
    (hD : D.Nodup) (hDs : ∀ d ∈ D, d < a0.tmps.size) (hmono : ∀ j v w w', Good j v w → Below w.heap.size w w' → Good j v w') (hl : listed.size = D.length) (hi : i < D.length)
    (hB : Below w.heap.size w w') (hg : Good i v w') : RInv D Good w0 a0 (listed.setIfInBounds i true) (a.put (some (D.getD i 0)) v) w' := by
  have hmem : ∀ j, j < D.length → D.getD j 0 ∈ D := fun j hj => by simp [List.getD, List.getElem?_eq_getElem hj]
  refine ⟨h.defers, by simp [Act.put, h.size], fun t ht => ?_, h.old.trans (hB.mono h.old.size), fun j hj => ?_⟩
  · have hne : D.getD i 0 ≠ t := fun e => ht (e ▸ hmem i hi)
    simp only [Act.put]
    rw [Array.getElem?_setIfInBounds_ne hne]; exact h.keep t ht
  · by_cases e : j = i
    · subst e
      have hlt : D.getD j 0 < a.tmps.size := by rw [h.size]; exact hDs _ (hmem j hi)
      have : ((a.put (some (D.getD j 0)) v).tmps.getD (D.getD j 0) undef) = v := by
        simp only [Act.put, Array.getD_eq_getD_getElem?]
        rw [Array.getElem?_setIfInBounds_self_of_lt hlt]; rfl
      rw [this]; exact hg
    · rcases getD_set_eq hj with e' | hj'
      · exact absurd e' e
      · have hjl : j < D.length := by
          rcases Nat.lt_or_ge j listed.size with h' | h'
          · omega
          · simp [Array.getElem?_eq_none h'] at hj'
        have hne : D.getD i 0 ≠ D.getD j 0 := by
          intro e2
          have e3 : D[i] = D[j] := by simpa [List.getD, List.getElem?_eq_getElem hi, List.getElem?_eq_getElem hjl] using e2
          exact e ((List.getElem_inj hD).1 e3).symm
        have : ((a.put (some (D.getD i 0)) v).tmps.getD (D.getD j 0) undef) = a.tmps.getD (D.getD j 0) undef := by
          simp only [Act.put, Array.getD_eq_getD_getElem?]
          rw [Array.getElem?_setIfInBounds_ne hne]
        rw [this]; exact hmono _ _ _ _ (h.good j hj') hB

theorem RInv.start {D : List Nat} {Good : Nat → Value → World → Prop} {w0 : World} {a : Act} {n : Nat} : RInv D Good w0 a (Array.replicate n false) a w0.drew :=
  ⟨rfl, rfl, fun _ _ => rfl, (Below.refl _ _).drew, fun j hj => by
    exfalso
    by_cases h : j < n
    · simp [h] at hj
    · simp [h] at hj⟩

theorem RInv.slot {D : List Nat} {Good : Nat → Value → World → Prop} {w0 : World} {a0 : Act} {listed : Array Bool} {a : Act} {w : World} (h : RInv D Good w0 a0 listed a w) {t : Nat} (ht : t ∉ D) : a.tmps.getD t undef = a0.tmps.getD t undef := by
  simp only [Array.getD_eq_getD_getElem?]; rw [h.keep t ht]

theorem eval_tmp (a : Act) (t : Nat) : a.eval (.tmp t) = a.tmps.getD t undef := by simp [Act.eval]

end Go.Proofs.YbulkcmxgFmt
