/- The package's own test whether two areas overlap: a corner of one lies in the other. -/
import Derived.Test.YtokooampmhcfeaaDoorRGood
import Derived.BigQuiet
namespace Go.Proofs.YtokooampmhcfeaaDoor.Rg
open Go.RowKit

set_option maxHeartbeats 1600000 in
set_option maxRecDepth 100000 in
theorem inrange_cells (c r p q x y : Int) (d b k k' : Nat) (w : World) (g0 : w.cell? ⟨d, 0, none⟩ = some (.int .i64 c)) (g1 : w.cell? ⟨d, 1, none⟩ = some (.int .i64 r)) (c0 : w.cell? ⟨b, 0, none⟩ = some (.int .i64 p)) (c1 : w.cell? ⟨b, 1, none⟩ = some (.int .i64 q)) (c2 : w.cell? ⟨b, 2, none⟩ = some (.int .i64 x)) (c3 : w.cell? ⟨b, 3, none⟩ = some (.int .i64 y)) :
    Calls Tryd.prog 57 #[.slice (some ⟨d, 0, none⟩) 2 k, .slice (some ⟨b, 0, none⟩) 4 k'] w fun e w' => e = .returned (.bool (within c r ⟨p, q, x, y⟩)) ∧ Below w.heap.size w w' := by
  show Calls Tryd.prog 57 #[.slice (some ⟨d, 0, none⟩) 2 k, .slice (some ⟨b, 0, none⟩) 4 k'] w fun e w' => e = .returned (.bool (decide (p ≤ c) && decide (c ≤ x) && decide (q ≤ r) && decide (r ≤ y))) ∧ Below w.heap.size w w'
  by_cases h1 : p ≤ c
  · by_cases h2 : c ≤ x
    · by_cases h3 : q ≤ r
      · by_cases h4 : r ≤ y
        · go_enter Tryd.func57, Tryd.ntmps57
          go_wp2_with fail
          go_quiet (fail)
          go_wp2
          go_ret
          exact ⟨by simp [h1, h2, h3, h4], below_drewN w nq⟩
        · have n3 : decide (r ≤ y) = false := decide_eq_false h4
          go_enter Tryd.func57, Tryd.ntmps57
          go_wp2_with fail
          go_quiet (fail)
          go_wp2
          go_ret
          exact ⟨by simp <;> omega, below_drewN w nq⟩
      · have n2 : decide (q ≤ r) = false := decide_eq_false h3
        go_enter Tryd.func57, Tryd.ntmps57
        go_wp2_with fail
        go_quiet (fail)
        go_wp2
        go_ret
        exact ⟨by simp <;> omega, below_drewN w nq⟩
    · have n1 : decide (c ≤ x) = false := decide_eq_false h2
      go_enter Tryd.func57, Tryd.ntmps57
      go_wp2_with fail
      go_quiet (fail)
      go_wp2
      go_ret
      exact ⟨by simp <;> omega, below_drewN w nq⟩
  · have n0 : decide (p ≤ c) = false := decide_eq_false h1
    go_enter Tryd.func57, Tryd.ntmps57
    go_wp2_with fail
    go_quiet (fail)
    go_wp2
    go_ret
    exact ⟨by simp <;> omega, below_drewN w nq⟩

theorem cell_old (w : World) (a : Addr) (v : Value) (h : w.cell? a = some v) : a.block < w.heap.size := by
  rcases Nat.lt_or_ge a.block w.heap.size with h' | h'
  · exact h'
  · simp [World.cell?, Array.getElem?_eq_none h'] at h

/-- Two rows of four lie where they lay. -/
def SS (w : World) (ga gb : Nat) (a0 a1 a2 a3 b0 b1 b2 b3 : Int) (w' : World) : Prop := Below w.heap.size w w' ∧ w'.cell? ⟨ga, 0, none⟩ = some (.int .i64 a0) ∧ w'.cell? ⟨ga, 1, none⟩ = some (.int .i64 a1) ∧ w'.cell? ⟨ga, 2, none⟩ = some (.int .i64 a2) ∧ w'.cell? ⟨ga, 3, none⟩ = some (.int .i64 a3) ∧ w'.cell? ⟨gb, 0, none⟩ = some (.int .i64 b0) ∧ w'.cell? ⟨gb, 1, none⟩ = some (.int .i64 b1) ∧ w'.cell? ⟨gb, 2, none⟩ = some (.int .i64 b2) ∧ w'.cell? ⟨gb, 3, none⟩ = some (.int .i64 b3)

theorem SS.later {w w1 w2 : World} {ga gb : Nat} {a0 a1 a2 a3 b0 b1 b2 b3 : Int} (h : SS w ga gb a0 a1 a2 a3 b0 b1 b2 b3 w1) (hb : Below w1.heap.size w1 w2) : SS w ga gb a0 a1 a2 a3 b0 b1 b2 b3 w2 := by
  obtain ⟨h0, c0, c1, c2, c3, d0, d1, d2, d3⟩ := h
  have oa := cell_old _ _ _ c0
  have ob := cell_old _ _ _ d0
  exact ⟨h0.trans (hb.mono h0.size), (hb.cell (p := ⟨ga, 0, none⟩) oa).trans c0, (hb.cell (p := ⟨ga, 1, none⟩) oa).trans c1, (hb.cell (p := ⟨ga, 2, none⟩) oa).trans c2, (hb.cell (p := ⟨ga, 3, none⟩) oa).trans c3, (hb.cell (p := ⟨gb, 0, none⟩) ob).trans d0, (hb.cell (p := ⟨gb, 1, none⟩) ob).trans d1, (hb.cell (p := ⟨gb, 2, none⟩) ob).trans d2, (hb.cell (p := ⟨gb, 3, none⟩) ob).trans d3⟩
end Go.Proofs.YtokooampmhcfeaaDoor.Rg
