/- The specification's reading of one reference, and of a list of references that holds one. -/
import Derived.Test.YtokooampmhcfeaaGreatDoorRText
import Derived.Test.YtokooampmhcfeaaGreatDoorRGood
namespace Go.Proofs.YtokooampmhcfeaaGreatDoor.Rg
open Go.RowKit

/-- The cells of a list of areas. -/
def Ar.cells (a : Ar) : List Value := [.int .i64 a.p, .int .i64 a.q, .int .i64 a.x, .int .i64 a.y]
theorem Ar.cells_len (a : Ar) : a.cells.length = 4 := rfl
theorem Ar.cells_one (a : Ar) : ∀ u ∈ a.cells, u.oneCell' = true := four_one a.p a.q a.x a.y

/-- The slice is an owned list of areas. -/
structure OwnsR (w : World) (B : Nat) (A : Option Addr) (m c : Nat) (L : List Ar) : Prop where
  own : w.ownsRow B 41 4 (.slice A m c) m (L.flatMap Ar.cells)
  len : m = L.length

theorem infoFour : (Tryz.prog.info? 41).map (fun i => (i.zero, i.size, i.bytes)) = some (some (.agg #[.int .i64 0, .int .i64 0, .int .i64 0, .int .i64 0]), 4, 32) := by kernel_rfl

end Go.Proofs.YtokooampmhcfeaaGreatDoor.Rg
