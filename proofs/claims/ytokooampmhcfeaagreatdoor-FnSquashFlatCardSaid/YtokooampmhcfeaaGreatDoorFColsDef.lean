/- Columns: a slice of records, each with a row of numbers. -/
import Derived.Test.YtokooampmhcfeaaGreatDoorFParts
import Derived.Test.YtokooampmhcfeaaGreatDoorFText
namespace Go.Proofs.YtokooampmhcfeaaGreatDoor.Rg
open Go.RowKit Go.Maps

/-- The cells of one record. -/
def colCells (p : Int × Value) : List Value := [.int .i64 p.1, p.2]

/-- The slice v is records of columns, each with a row of numbers. -/
structure Cols (w : World) (B : Nat) (v : Value) (K : List (Int × Value)) (R : Int → List Int) : Prop where
  own : w.ownsRow B 38 2 v K.length (K.flatMap colCells)
  rows : ∀ p ∈ K, w.ownsRow B 3 1 p.2 (R p.1).length ((R p.1).map (Value.int .i64))
  nodup : (K.map Prod.fst).Nodup

theorem Cols.keep {w w' : World} {B : Nat} {v : Value} {K : List (Int × Value)} {R : Int → List Int} (h : Cols w B v K R) (hb : Below w.heap.size w w') : Cols w' B v K R :=
  ⟨own_below h.own hb, fun p hp => own_below (h.rows p hp) hb, h.nodup⟩

theorem own_lower {w : World} {B B' size n : Nat} {e : TypeId} {v : Value} {xs : List Value} (h : w.ownsRow B e size v n xs) (hB : B' ≤ B) : w.ownsRow B' e size v n xs := by
  refine ⟨h.1, ?_⟩
  rcases h.2 with hn | ⟨g, cap, cur, hv, hbb, hgg, rest⟩
  · exact .inl hn
  · exact .inr ⟨g, cap, cur, hv, Nat.le_trans hB hbb, hgg, rest⟩
end Go.Proofs.YtokooampmhcfeaaGreatDoor.Rg
