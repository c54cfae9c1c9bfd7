/- The order of the rows of a column: what the closure says. -/
import Derived.Test.YtokooampmhcfeaaGreatDoorFParts
import Derived.BigQuiet
import Derived.Deep.RegionHeld3
namespace Go.Proofs.YtokooampmhcfeaaGreatDoor.Rg
open Go.RowKit Go.Maps

set_option maxHeartbeats 1600000 in
set_option maxRecDepth 100000 in
theorem less_any (W C b blk m c i j gi gj : Nat) (z ri rj : Int) (w : World) (hW : w.cell? ⟨W, 0, none⟩ = some (.map (some b))) (hC : w.cell? ⟨C, 0, none⟩ = some (.int .i64 z))
    (hk : ∀ q, (Instr.lookup 43 (.map (some b)) (.int .i64 z) false).run Tryz.prog (w.drewN q) = .ok (.slice (some ⟨blk, 0, none⟩) m c) (w.drewN q))
    (hi : i < m) (hj : j < m) (ci : w.cell? ⟨blk, i, none⟩ = some (.slice (some ⟨gi, 0, none⟩) 2 2)) (cj : w.cell? ⟨blk, j, none⟩ = some (.slice (some ⟨gj, 0, none⟩) 2 2))
    (di : w.cell? ⟨gi, 1, none⟩ = some (.int .i64 ri)) (dj : w.cell? ⟨gj, 1, none⟩ = some (.int .i64 rj)) :
    Calls Tryz.prog 37 #[.int .i64 i, .int .i64 j, .pointer (some ⟨W, 0, none⟩), .pointer (some ⟨C, 0, none⟩)] w fun e w' => e = .returned (.bool (decide (ri < rj))) ∧ ∃ q, w' = w.drewN q := by
  have i0 : (0 : Int) ≤ (i : Int) := by omega
  have i1 : (i : Int) < (m : Int) := by omega
  have j0 : (0 : Int) ≤ (j : Int) := by omega
  have j1 : (j : Int) < (m : Int) := by omega
  go_enter Tryz.func37, Tryz.ntmps37
  go_wp2
  go_quiet (fail)
  go_wp2
  go_ret
  exact ⟨rfl, _, rfl⟩
end Go.Proofs.YtokooampmhcfeaaGreatDoor.Rg
