import Derived.Test.YbulkcmxgFmtDrop
namespace Go.Proofs.YbulkcmxgFmt
open Go.RowKit

/-- Where the slice begins, and how long it is, behind one more change. -/
def nxtO (o len : Nat) : Nat := if len = 1024 then o + 1 else o
def nxtL (len : Nat) : Nat := if len = 1024 then 1024 else len + 1

theorem add_room (N C nb U o len made : Nat) (cs au : Array Value) (k st n x : Int) (w : World) (hN : N ≤ nb) (hN2 : N ≤ U) (hlen : len ≤ 1024) (hroom : o + len < C) (hmade : made ≤ 8192) (h : LS C nb U o len made cs au w) (hE : 0 < len → ∃ k st n x q, ChgAt au o k st n x q) :
    Calls Ybaf.prog 19 #[.pointer (some ⟨nb, 79, none⟩), .int .i64 k, .int .u8 st, .agg #[.int .u64 n, .int .i64 x, .pointer none]] w fun e w' => e = .returned (.tuple #[]) ∧
      Added N C nb U o len (nxtO o len) (nxtL len) made cs au k st n x w w' := by
  by_cases h1 : len = 1024
  · subst h1
    exact add_drop N C nb U o made cs au k st n x w hN hN2 hroom hmade h (hE (by decide))
  · have e1 : nxtO o len = o := if_neg h1
    have e2 : nxtL len = len + 1 := if_neg h1
    rw [e1, e2]
    exact add_fits N C nb U o len made cs au k st n x w hN hN2 (by omega) hroom hmade h

theorem LS.drew {C nb U o len made : Nat} {cs au : Array Value} {w : World} (h : LS C nb U o len made cs au w) : LS C nb U o len made cs au w.drew :=
  ⟨h.node, h.csz, h.unread, h.made, h.row, h.asz, h.fit⟩

theorem Added.of_drew {N C nb U o len o' len' made : Nat} {cs au : Array Value} {k st n x : Int} {w w' : World} (h : Added N C nb U o len o' len' made cs au k st n x w.drew w') : Added N C nb U o len o' len' made cs au k st n x w w' :=
  ⟨h.ls, h.rest, ((Below.refl N w).drew).trans h.below⟩

set_option maxHeartbeats 2000000 in
theorem log_room (N C U o len made : Nat) (au : Array Value) (nb gf gg m k : Nat) (s was n x : Int) (f g b : Bool) (cs : Array Value) (w : World) (hk : k < m) (hr : Ready cs m gf gg s b n x) (hf : w.cell? ⟨gf, k, none⟩ = some (.bool f)) (hg : w.cell? ⟨gg, k, none⟩ = some (.bool g))
    (hN : N ≤ nb) (hN2 : N ≤ U) (hlen : len ≤ 1024) (hroom : o + len < C) (hmade : made ≤ 8192) (h : LS C nb U o len made cs au w) (hE : 0 < len → ∃ k st n x q, ChgAt au o k st n x q) :
    Calls Ybaf.prog 7 #[.pointer (some ⟨nb, 0, none⟩), .int .i64 (k : Int), .int .u8 was] w fun e w' => e = .returned (.tuple #[]) ∧
      (stOf g (decide ((k : Int) = s) && b) f = was ∧ w' = w ∨ stOf g (decide ((k : Int) = s) && b) f ≠ was ∧ Added N C nb U o len (nxtO o len) (nxtL len) made cs au k (stOf g (decide ((k : Int) = s) && b) f) n x w w') := by
  have hnb := h.node
  have c0 : w.cell? ⟨nb, 0, none⟩ = _ := (cell_of_blk hnb _).trans hr.self
  have c71 : w.cell? ⟨nb, 71, none⟩ = _ := (cell_of_blk hnb _).trans hr.failed
  have c73 : w.cell? ⟨nb, 73, none⟩ = _ := (cell_of_blk hnb _).trans hr.givenUp
  have c78 : w.cell? ⟨nb, 78, none⟩ = _ := (cell_of_blk hnb _).trans hr.behind
  have c81 : w.cell? ⟨nb, 81, none⟩ = _ := (cell_of_blk hnb _).trans hr.wall
  have c82 : w.cell? ⟨nb, 81 + 1, none⟩ = _ := (cell_of_blk hnb _).trans hr.ext
  have c83 : w.cell? ⟨nb, 81 + 2, none⟩ = _ := (cell_of_blk hnb _).trans hr.loc
  have hst := stand_any nb gf gg m k s f g b w hk c0 c71 c73 c78 hf hg
  have HA0 := fun st => add_room N C nb U o len made cs au k st n x w.drew hN hN2 hlen hroom hmade h.drew hE
  clear hnb c0 c71 c73 c78 hf hg hr hE h
  generalize stOf g (decide ((k : Int) = s) && b) f = st at *
  have HA := HA0 st
  clear HA0
  by_cases hw : st = was
  · subst hw
    go_enter Ybaf.func7, Ybaf.ntmps7
    go_wp2_with fail
    refine hst.mono ?_
    rintro e w1 ⟨rfl, rfl⟩
    go_wp2
    go_end0
    simp
  · go_enter Ybaf.func7, Ybaf.ntmps7
    go_wp2_with fail
    refine hst.mono ?_
    rintro e w1 ⟨rfl, rfl⟩
    go_wp2_with fail
    go_region_with (go_at_call 19; refine HA.mono ?_; rintro e w2 ⟨rfl, hA⟩)
    all_goals (go_wp2; go_end0; exact ⟨rfl, .inr ⟨hw, hA.of_drew⟩⟩)

end Go.Proofs.YbulkcmxgFmt
