/- The specification's areas of four numbers: within, overlap, and the numbers made an area. -/
import Derived.Test.YtokooampmhcfeaaGreatDoorRSorted
import Derived.Deep.Cut
namespace Go.Proofs.YtokooampmhcfeaaGreatDoor.Rg
open Go.RowKit

/-- Four numbers: a column, a row, the last column, the last row. -/
structure Ar where
  p : Int
  q : Int
  x : Int
  y : Int

def Ar.val (a : Ar) : Value := .agg #[.int .i64 a.p, .int .i64 a.q, .int .i64 a.x, .int .i64 a.y]

def within (c r : Int) (a : Ar) : Bool := decide (a.p ≤ c) && decide (c ≤ a.x) && decide (a.q ≤ r) && decide (r ≤ a.y)
def overlap (a b : Ar) : Bool := decide (a.p ≤ b.x) && decide (b.p ≤ a.x) && decide (a.q ≤ b.y) && decide (b.q ≤ a.y)

set_option maxHeartbeats 1600000 in
set_option maxRecDepth 100000 in
theorem within_any (c r : Int) (a : Ar) (w : World) :
    Calls Tryz.prog 20 #[.int .i64 c, .int .i64 r, a.val] w fun e w' => e = .returned (.bool (within c r a)) ∧ Below w.heap.size w w' := by
  obtain ⟨p, q, x, y⟩ := a
  have hal : ∀ o, Below w.heap.size w (w.alloc o) := fun o => (Below.refl _ _).alloc (Nat.le_refl _) _
  show Calls Tryz.prog 20 #[.int .i64 c, .int .i64 r, .agg #[.int .i64 p, .int .i64 q, .int .i64 x, .int .i64 y]] w fun e w' => e = .returned (.bool (decide (p ≤ c) && decide (c ≤ x) && decide (q ≤ r) && decide (r ≤ y))) ∧ Below w.heap.size w w'
  by_cases h1 : p ≤ c
  · by_cases h2 : c ≤ x
    · by_cases h3 : q ≤ r
      · by_cases h4 : r ≤ y
        · go_enter Tryz.func20, Tryz.ntmps20
          go_wp2
          go_ret
          exact ⟨by simp [h1, h2, h3, h4], hal _⟩
        · go_enter Tryz.func20, Tryz.ntmps20
          go_wp2
          go_ret
          exact ⟨by simp <;> omega, hal _⟩
      · go_enter Tryz.func20, Tryz.ntmps20
        go_wp2
        go_ret
        exact ⟨by simp <;> omega, hal _⟩
    · go_enter Tryz.func20, Tryz.ntmps20
      go_wp2
      go_ret
      exact ⟨by simp <;> omega, hal _⟩
  · go_enter Tryz.func20, Tryz.ntmps20
    go_wp2
    go_ret
    exact ⟨by simp <;> omega, hal _⟩

set_option maxHeartbeats 1600000 in
set_option maxRecDepth 100000 in
theorem overlap_any (a b : Ar) (w : World) :
    Calls Tryz.prog 25 #[a.val, b.val] w fun e w' => e = .returned (.bool (overlap a b)) ∧ Below w.heap.size w w' := by
  obtain ⟨a0, a1, a2, a3⟩ := a
  obtain ⟨b0, b1, b2, b3⟩ := b
  have hal : Below w.heap.size w ((w.alloc (.cells #[.int .i64 a0, .int .i64 a1, .int .i64 a2, .int .i64 a3] 41)).alloc (.cells #[.int .i64 b0, .int .i64 b1, .int .i64 b2, .int .i64 b3] 41)) := ((Below.refl _ _).alloc (Nat.le_refl _) _).alloc (by simp) _
  show Calls Tryz.prog 25 #[.agg #[.int .i64 a0, .int .i64 a1, .int .i64 a2, .int .i64 a3], .agg #[.int .i64 b0, .int .i64 b1, .int .i64 b2, .int .i64 b3]] w fun e w' => e = .returned (.bool (decide (a0 ≤ b2) && decide (b0 ≤ a2) && decide (a1 ≤ b3) && decide (b1 ≤ a3))) ∧ Below w.heap.size w w'
  by_cases h1 : a0 ≤ b2
  · by_cases h2 : b0 ≤ a2
    · by_cases h3 : a1 ≤ b3
      · by_cases h4 : b1 ≤ a3
        · go_enter Tryz.func25, Tryz.ntmps25
          go_wp2
          go_ret
          exact ⟨by simp [h1, h2, h3, h4], hal⟩
        · go_enter Tryz.func25, Tryz.ntmps25
          go_wp2
          go_ret
          exact ⟨by simp <;> omega, hal⟩
      · go_enter Tryz.func25, Tryz.ntmps25
        go_wp2
        go_ret
        exact ⟨by simp <;> omega, hal⟩
    · go_enter Tryz.func25, Tryz.ntmps25
      go_wp2
      go_ret
      exact ⟨by simp <;> omega, hal⟩
  · go_enter Tryz.func25, Tryz.ntmps25
    go_wp2
    go_ret
    exact ⟨by simp <;> omega, hal⟩

def corner (a b : Ar) : Bool := within a.p a.q b || within a.p a.y b || within a.x a.q b || within a.x a.y b
def crosses (a b : Ar) : Bool := overlap a b && !corner a b && !corner b a

end Go.Proofs.YtokooampmhcfeaaGreatDoor.Rg
