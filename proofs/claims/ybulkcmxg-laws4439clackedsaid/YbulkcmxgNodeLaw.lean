import Derived.Test.YbulkcmxgBuildParts
namespace Go.Proofs.Ybulkcmxg
open Go.RowKit

set_option maxRecDepth 100000 in
theorem run_build102 (p1 p2 : Option Addr) (n1 c1 n2 c2 : Nat) (w : World) :
    ∃ cs : Array Value, (Instr.build 102 #[(33, .slice p1 n1 c1), (35, .slice p2 n2 c2)]).run Yba.prog w = .ok (.agg cs) w ∧ cs[55]? = some (.slice p1 n1 c1) ∧ cs[57]? = some (.slice p2 n2 c2) := by
  refine ⟨match (Instr.build 102 #[(33, .slice p1 n1 c1), (35, .slice p2 n2 c2)]).run Yba.prog w with | .ok (.agg cs) _ => cs | _ => #[], ?_, ?_, ?_⟩
  · kernel_rfl
  · kernel_rfl
  · kernel_rfl

theorem wpList_build102 {w : World} {ops : Array Oper} {rest : List Oper} {o : Oper} {a : Act} {Q : Exit → Act → World → Prop} (hg : o.guard = none) (x y : Operand) (ho : o.op = .build 102 #[(33, x), (35, y)])
    {p1 p2 : Option Addr} {n1 c1 n2 c2 : Nat} (hx : a.eval x = .slice p1 n1 c1) (hy : a.eval y = .slice p2 n2 c2)
    (h : ∀ cs : Array Value, cs[55]? = some (.slice p1 n1 c1) → cs[57]? = some (.slice p2 n2 c2) → wpList Yba.prog ops Q rest (a.put o.dst (.agg cs)) w) : wpList Yba.prog ops Q (o :: rest) a w := by
  refine wpList_plain hg fun K hK => ?_
  obtain ⟨cs, hr, h1, h2⟩ := run_build102 p1 p2 n1 c1 n2 c2 w
  unfold Oper.wp execOp
  simp only [ho, List.map_toArray, List.map_cons, List.map_nil, hx, hy, Sem.run_bind, hr, Result.andThen_ok, Sem.run_pure]
  exact hK _ _ (h cs h1 h2)

theorem LackAt.below {B : Nat} {w w' : World} {lb k : Nat} {S : List (Int × Int)} (h : LackAt w B lb k S) (hB : Below B w w') (hlb : lb < B) : LackAt w' B lb k S := by
  rcases h with ⟨rfl, k1⟩ | ⟨rb, rcap, k1, k2, k3⟩
  · exact .inl ⟨rfl, (hB.cell (by exact hlb)).trans k1⟩
  · exact .inr ⟨rb, rcap, k1, (hB.cell (by exact hlb)).trans k2, k3.below hB k1⟩

theorem node_made {wp : World} {cs : Array Value} {N hb n cap k : Nat} {H S : List (Int × Int)} (hk3 : k < 3) (hn : H.length = n) (hHn : n ≤ 1024) (hSn : S.length ≤ 1024) (hN : N < wp.heap.size) (hhb : hb < wp.heap.size)
    (c55 : cs[55]? = some (.slice (some ⟨N, 0, none⟩) 3 3)) (c57 : cs[57]? = some (.slice (some ⟨hb, 0, none⟩) n cap)) (hL : LackAt wp wp.heap.size N k S) (hH : HeldAt wp hb H) :
    NodeAt (wp.alloc (.cells cs 102)) (wp.heap.size + 1) wp.heap.size k H S := by
  subst hn
  have hB : Below wp.heap.size wp (wp.alloc (.cells cs 102)) := (Below.refl _ _).alloc (Nat.le_refl _) _
  have hL' := hL.below hB hN
  refine ⟨hk3, hHn, hSn, N, hb, cap, by omega, by omega, by omega, ?_, ?_, ?_, hH.below hB hhb⟩
  · rw [World.cell?_alloc_at _ _ _ _ rfl]; exact c55
  · rw [World.cell?_alloc_at _ _ _ _ rfl]; exact c57
  · rcases hL' with ⟨h, k1⟩ | ⟨rb, rcap, k1, k2, k3⟩
    · exact .inl ⟨h, k1⟩
    · exact .inr ⟨rb, rcap, by omega, k2, k3⟩

/-- One more place that is wanted: behind the append. -/
theorem want_own {W w1 : World} {B vb : Nat} {v v' : Value} {n : Nat} {xs : List Value} (hown : W.ownsRow B 41 1 v n xs) (hne : v.ownBlock ≠ some vb) (hvb : vb < W.heap.size) (hB : B ≤ W.heap.size)
    (hgrow : W.grownBy w1 v.ownBlock) (hat : v'.ownBlock = v.ownBlock ∨ v'.ownBlock = some W.heap.size) :
    Below B W w1 ∧ v'.ownBlock ≠ some vb ∧ (∀ o, w1.cell? ⟨vb, o, none⟩ = W.cell? ⟨vb, o, none⟩) ∧ vb < w1.heap.size := by
  refine ⟨(Below.refl _ _).grown hgrow hB (fun b hb => (hown.lt b hb).1), ?_, fun o => World.cell?_of_block (w := W) (a := ⟨vb, o, none⟩) (hgrow.block vb hvb (fun h => hne h.symm)), by have := hgrow.size; omega⟩
  rcases hat with h | h
  · rw [h]; exact hne
  · rw [h]; intro e; cases e; omega

end Go.Proofs.Ybulkcmxg
