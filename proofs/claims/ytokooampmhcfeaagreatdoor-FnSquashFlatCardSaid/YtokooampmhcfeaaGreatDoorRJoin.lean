/- The smallest area that holds two, and any four numbers made an area of two cells at least. -/
import Derived.Test.YtokooampmhcfeaaGreatDoorRArea
namespace Go.Proofs.YtokooampmhcfeaaGreatDoor.Rg
open Go.RowKit

def join (a b : Ar) : Ar := ⟨min a.p b.p, min a.q b.q, max a.x b.x, max a.y b.y⟩

end Go.Proofs.YtokooampmhcfeaaGreatDoor.Rg
