import Derived.Test.YbulkcmxgFmtAdd
namespace Go.Proofs.YbulkcmxgFmt
open Go.RowKit

theorem AddNil.of_drew {w w' : World} {nb : Nat} {k st n x : Int} {cs : Array Value} {g cap : Nat} (h : AddNil w.drew w' nb k st n x cs g cap) : AddNil w w' nb k st n x cs g cap :=
  ⟨h.new, h.node, h.row, h.rest, ((Below.refl nb w).drew).trans h.below⟩

/-- What the node's cells hold ahead of a call of logChange. -/
structure Ready (cs : Array Value) (m gf gg : Nat) (s : Int) (b : Bool) (n x : Int) : Prop where
  self : cs[0]? = some (.int .i64 s)
  failed : cs[71]? = some (.slice (some ⟨gf, 0, none⟩) m m)
  givenUp : cs[73]? = some (.slice (some ⟨gg, 0, none⟩) m m)
  behind : cs[78]? = some (.bool b)
  wall : cs[81]? = some (.int .u64 n)
  ext : cs[82]? = some (.int .i64 x)
  loc : cs[83]? = some (.pointer none)

set_option maxHeartbeats 2000000 in
theorem log_nil (nb gf gg m k : Nat) (s was n x : Int) (f g b : Bool) (cs : Array Value) (w : World) (hk : k < m) (hnb : w.heap[nb]? = some (.cells cs 68 (0, 0))) (hr : Ready cs m gf gg s b n x) (h79 : cs[79]? = some (.slice none 0 0)) (h80 : cs[80]? = some (.int .u64 0)) (hf : w.cell? ⟨gf, k, none⟩ = some (.bool f)) (hg : w.cell? ⟨gg, k, none⟩ = some (.bool g)) :
    Calls Ybaf.prog 7 #[.pointer (some ⟨nb, 0, none⟩), .int .i64 (k : Int), .int .u8 was] w fun e w' => e = .returned (.tuple #[]) ∧
      (stOf g (decide ((k : Int) = s) && b) f = was ∧ w' = w ∨ stOf g (decide ((k : Int) = s) && b) f ≠ was ∧ ∃ gr cap, AddNil w w' nb k (stOf g (decide ((k : Int) = s) && b) f) n x cs gr cap) := by
  have c0 : w.cell? ⟨nb, 0, none⟩ = _ := (cell_of_blk hnb _).trans hr.self
  have c71 : w.cell? ⟨nb, 71, none⟩ = _ := (cell_of_blk hnb _).trans hr.failed
  have c73 : w.cell? ⟨nb, 73, none⟩ = _ := (cell_of_blk hnb _).trans hr.givenUp
  have c78 : w.cell? ⟨nb, 78, none⟩ = _ := (cell_of_blk hnb _).trans hr.behind
  have c81 : w.cell? ⟨nb, 81, none⟩ = _ := (cell_of_blk hnb _).trans hr.wall
  have c82 : w.cell? ⟨nb, 81 + 1, none⟩ = _ := (cell_of_blk hnb _).trans hr.ext
  have c83 : w.cell? ⟨nb, 81 + 2, none⟩ = _ := (cell_of_blk hnb _).trans hr.loc
  have hst := stand_any nb gf gg m k s f g b w hk c0 c71 c73 c78 hf hg
  have HNB : Hid (w.heap[nb]? = some (.cells cs 68 (0, 0))) := hnb
  clear hnb c0 c71 c73 c78 hf hg hr
  generalize stOf g (decide ((k : Int) = s) && b) f = st at *
  by_cases hw : st = was
  · subst hw
    go_enter Ybaf.func7, Ybaf.ntmps7
    go_wp2_with fail
    refine hst.mono ?_
    rintro e w1 ⟨rfl, rfl⟩
    go_wp2
    go_end0
    simp
  · go_enter Ybaf.func7, Ybaf.ntmps7
    go_wp2_with fail
    refine hst.mono ?_
    rintro e w1 ⟨rfl, rfl⟩
    go_wp2_with fail
    have HA := add_nil nb k st n x cs w1.drew HNB.out h79 h80
    go_region_with (go_at_call 19; refine HA.mono ?_; rintro e w2 ⟨rfl, gr, cap, hA⟩)
    all_goals (go_wp2; go_end0; exact ⟨rfl, .inr ⟨hw, _, _, hA.of_drew⟩⟩)

end Go.Proofs.YbulkcmxgFmt
