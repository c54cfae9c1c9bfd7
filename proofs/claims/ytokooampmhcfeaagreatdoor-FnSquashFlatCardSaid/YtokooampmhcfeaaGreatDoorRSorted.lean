/- The law of the sorted range: its call returns true. -/
import Derived.Test.YtokooampmhcfeaaGreatDoorRSort
import Derived.StillTailTactics
import Derived.Deep.Cut
namespace Go.Proofs.YtokooampmhcfeaaGreatDoor.Rg
open Go.RowKit

theorem grid_still (n most : Int) (w : World) (h1 : 1 ≤ most) (h2 : most ≤ 2000000) :
    Calls Tryz.prog 11 #[.int .i64 n, .int .i64 most] w fun e w' => e = .returned (.int .i64 (gn n most)) ∧ w' = w :=
  (grid_any n most w h1 h2).mono fun _ _ ⟨a, b⟩ => ⟨a, b.symm⟩

end Go.Proofs.YtokooampmhcfeaaGreatDoor.Rg
