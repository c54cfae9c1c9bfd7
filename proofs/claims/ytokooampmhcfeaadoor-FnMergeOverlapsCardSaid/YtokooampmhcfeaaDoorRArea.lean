/- The specification's areas of four numbers: within, overlap, and the numbers made an area. -/
import Derived.Test.YtokooampmhcfeaaDoorRSorted
import Derived.Deep.Cut
namespace Go.Proofs.YtokooampmhcfeaaDoor.Rg
open Go.RowKit

/-- Four numbers: a column, a row, the last column, the last row. -/
structure Ar where
  p : Int
  q : Int
  x : Int
  y : Int

def Ar.val (a : Ar) : Value := .agg #[.int .i64 a.p, .int .i64 a.q, .int .i64 a.x, .int .i64 a.y]

def within (c r : Int) (a : Ar) : Bool := decide (a.p ≤ c) && decide (c ≤ a.x) && decide (a.q ≤ r) && decide (r ≤ a.y)
def overlap (a b : Ar) : Bool := decide (a.p ≤ b.x) && decide (b.p ≤ a.x) && decide (a.q ≤ b.y) && decide (b.q ≤ a.y)

set_option maxHeartbeats 1600000 in
set_option maxRecDepth 100000 in
theorem within_any (c r : Int) (a : Ar) (w : World) :
    Calls Tryd.prog 43 #[.int .i64 c, .int .i64 r, a.val] w fun e w' => e = .returned (.bool (within c r a)) ∧ Below w.heap.size w w' := by
  obtain ⟨p, q, x, y⟩ := a
  have hal : ∀ o, Below w.heap.size w (w.alloc o) := fun o => (Below.refl _ _).alloc (Nat.le_refl _) _
  show Calls Tryd.prog 43 #[.int .i64 c, .int .i64 r, .agg #[.int .i64 p, .int .i64 q, .int .i64 x, .int .i64 y]] w fun e w' => e = .returned (.bool (decide (p ≤ c) && decide (c ≤ x) && decide (q ≤ r) && decide (r ≤ y))) ∧ Below w.heap.size w w'
  by_cases h1 : p ≤ c
  · by_cases h2 : c ≤ x
    · by_cases h3 : q ≤ r
      · by_cases h4 : r ≤ y
        · go_enter Tryd.func43, Tryd.ntmps43
          go_wp2
          go_ret
          exact ⟨by simp [h1, h2, h3, h4], hal _⟩
        · go_enter Tryd.func43, Tryd.ntmps43
          go_wp2
          go_ret
          exact ⟨by simp <;> omega, hal _⟩
      · go_enter Tryd.func43, Tryd.ntmps43
        go_wp2
        go_ret
        exact ⟨by simp <;> omega, hal _⟩
    · go_enter Tryd.func43, Tryd.ntmps43
      go_wp2
      go_ret
      exact ⟨by simp <;> omega, hal _⟩
  · go_enter Tryd.func43, Tryd.ntmps43
    go_wp2
    go_ret
    exact ⟨by simp <;> omega, hal _⟩

set_option maxHeartbeats 1600000 in
set_option maxRecDepth 100000 in
theorem overlap_any (a b : Ar) (w : World) :
    Calls Tryd.prog 21 #[a.val, b.val] w fun e w' => e = .returned (.bool (overlap a b)) ∧ Below w.heap.size w w' := by
  obtain ⟨a0, a1, a2, a3⟩ := a
  obtain ⟨b0, b1, b2, b3⟩ := b
  have hal : Below w.heap.size w ((w.alloc (.cells #[.int .i64 a0, .int .i64 a1, .int .i64 a2, .int .i64 a3] 22)).alloc (.cells #[.int .i64 b0, .int .i64 b1, .int .i64 b2, .int .i64 b3] 22)) := ((Below.refl _ _).alloc (Nat.le_refl _) _).alloc (by simp) _
  show Calls Tryd.prog 21 #[.agg #[.int .i64 a0, .int .i64 a1, .int .i64 a2, .int .i64 a3], .agg #[.int .i64 b0, .int .i64 b1, .int .i64 b2, .int .i64 b3]] w fun e w' => e = .returned (.bool (decide (a0 ≤ b2) && decide (b0 ≤ a2) && decide (a1 ≤ b3) && decide (b1 ≤ a3))) ∧ Below w.heap.size w w'
  by_cases h1 : a0 ≤ b2
  · by_cases h2 : b0 ≤ a2
    · by_cases h3 : a1 ≤ b3
      · by_cases h4 : b1 ≤ a3
        · go_enter Tryd.func21, Tryd.ntmps21
          go_wp2
          go_ret
          exact ⟨by simp [h1, h2, h3, h4], hal⟩
        · go_enter Tryd.func21, Tryd.ntmps21
          go_wp2
          go_ret
          exact ⟨by simp <;> omega, hal⟩
      · go_enter Tryd.func21, Tryd.ntmps21
        go_wp2
        go_ret
        exact ⟨by simp <;> omega, hal⟩
    · go_enter Tryd.func21, Tryd.ntmps21
      go_wp2
      go_ret
      exact ⟨by simp <;> omega, hal⟩
  · go_enter Tryd.func21, Tryd.ntmps21
    go_wp2
    go_ret
    exact ⟨by simp <;> omega, hal⟩

def corner (a b : Ar) : Bool := within a.p a.q b || within a.p a.y b || within a.x a.q b || within a.x a.y b
def crosses (a b : Ar) : Bool := overlap a b && !corner a b && !corner b a

set_option maxHeartbeats 1600000 in
set_option maxRecDepth 100000 in
theorem corner_any (a b : Ar) (w : World) :
    Calls Tryd.prog 34 #[a.val, b.val] w fun e w' => e = .returned (.bool (corner a b)) ∧ Below w.heap.size w w' := by
  have H1 := fun w => within_any a.p a.q b w
  have H2 := fun w => within_any a.p a.y b w
  have H3 := fun w => within_any a.x a.q b w
  have H4 := fun w => within_any a.x a.y b w
  unfold corner
  generalize within a.p a.q b = t1 at *
  generalize within a.p a.y b = t2 at *
  generalize within a.x a.q b = t3 at *
  generalize within a.x a.y b = t4 at *
  obtain ⟨a0, a1, a2, a3⟩ := a
  obtain ⟨b0, b1, b2, b3⟩ := b
  simp only [Ar.val] at *
  have FA := Four.made w a0 a1 a2 a3 22
  obtain ⟨wA, hA⟩ : ∃ wA, wA = w.alloc (.cells #[.int .i64 a0, .int .i64 a1, .int .i64 a2, .int .i64 a3] 22) := ⟨_, rfl⟩
  rw [← hA] at FA
  have FB := (Four.made wA b0 b1 b2 b3 22).under FA.below
  replace FA := FA.later ((Below.refl _ _).alloc (Nat.le_refl _) (.cells #[.int .i64 b0, .int .i64 b1, .int .i64 b2, .int .i64 b3] 22))
  have hAz : wA.heap.size = w.heap.size + 1 := by rw [hA]; simp [go_sem]
  go_enter Tryd.func34, Tryd.ntmps34
  go_upto_region 1 with fail
  rw [← hA, ← hAz]
  generalize wA.alloc (.cells #[.int .i64 b0, .int .i64 b1, .int .i64 b2, .int .i64 b3] 22) = wB at *
  generalize wA.heap.size = g2 at *
  generalize w.heap.size = g1 at FA ⊢
  clear hA hAz
  have c0 := FA.c0
  have c1 := FA.c1
  have c2 := FA.c2
  have c3 := FA.c3
  have d0 := FB.c0
  have d1 := FB.c1
  have d2 := FB.c2
  have d3 := FB.c3
  go_wp2_with fail
  refine (H1 _).mono ?_
  rintro e w1 ⟨rfl, hb1⟩
  replace FA := FA.later hb1
  replace FB := FB.later hb1
  clear c0 c1 c2 c3 d0 d1 d2 d3
  clear hb1 H1
  cases t1
  case true =>
    have hB := FA.below
    clear FA FB
    go_wp2
    go_ret
    exact ⟨by simp, hB⟩
  case false =>
    have c0 := FA.c0
    have c1 := FA.c1
    have c2 := FA.c2
    have c3 := FA.c3
    have d0 := FB.c0
    have d1 := FB.c1
    have d2 := FB.c2
    have d3 := FB.c3
    go_wp2_with fail
    refine (H2 _).mono ?_
    rintro e w2 ⟨rfl, hb2⟩
    replace FA := FA.later hb2
    replace FB := FB.later hb2
    clear c0 c1 c2 c3 d0 d1 d2 d3
    clear hb2 H2
    cases t2
    case true =>
      have hB := FA.below
      clear FA FB
      go_wp2
      go_ret
      exact ⟨by simp, hB⟩
    case false =>
      have c0 := FA.c0
      have c1 := FA.c1
      have c2 := FA.c2
      have c3 := FA.c3
      have d0 := FB.c0
      have d1 := FB.c1
      have d2 := FB.c2
      have d3 := FB.c3
      go_wp2_with fail
      refine (H3 _).mono ?_
      rintro e w3 ⟨rfl, hb3⟩
      replace FA := FA.later hb3
      replace FB := FB.later hb3
      clear c0 c1 c2 c3 d0 d1 d2 d3
      clear hb3 H3
      cases t3
      case true =>
        have hB := FA.below
        clear FA FB
        go_wp2
        go_ret
        exact ⟨by simp, hB⟩
      case false =>
        have c0 := FA.c0
        have c1 := FA.c1
        have c2 := FA.c2
        have c3 := FA.c3
        have d0 := FB.c0
        have d1 := FB.c1
        have d2 := FB.c2
        have d3 := FB.c3
        go_wp2_with fail
        refine (H4 _).mono ?_
        rintro e w4 ⟨rfl, hb4⟩
        replace FA := FA.later hb4
        replace FB := FB.later hb4
        clear c0 c1 c2 c3 d0 d1 d2 d3
        clear hb4 H4
        cases t4
        case true =>
          have hB := FA.below
          clear FA FB
          go_wp2
          go_ret
          exact ⟨by simp, hB⟩
        case false =>
          have hB := FA.below
          clear FA FB
          go_wp2
          go_ret
          exact ⟨by simp, hB⟩

set_option maxHeartbeats 1600000 in
set_option maxRecDepth 100000 in
theorem crosses_any (a b : Ar) (w : World) :
    Calls Tryd.prog 22 #[a.val, b.val] w fun e w' => e = .returned (.bool (crosses a b)) ∧ Below w.heap.size w w' := by
  have H1 := fun w => overlap_any a b w
  have H2 := fun w => corner_any a b w
  have H3 := fun w => corner_any b a w
  unfold crosses
  generalize overlap a b = t1 at *
  generalize corner a b = t2 at *
  generalize corner b a = t3 at *
  obtain ⟨a0, a1, a2, a3⟩ := a
  obtain ⟨b0, b1, b2, b3⟩ := b
  simp only [Ar.val] at *
  have FA := Four.made w a0 a1 a2 a3 22
  obtain ⟨wA, hA⟩ : ∃ wA, wA = w.alloc (.cells #[.int .i64 a0, .int .i64 a1, .int .i64 a2, .int .i64 a3] 22) := ⟨_, rfl⟩
  rw [← hA] at FA
  have FB := (Four.made wA b0 b1 b2 b3 22).under FA.below
  replace FA := FA.later ((Below.refl _ _).alloc (Nat.le_refl _) (.cells #[.int .i64 b0, .int .i64 b1, .int .i64 b2, .int .i64 b3] 22))
  have hAz : wA.heap.size = w.heap.size + 1 := by rw [hA]; simp [go_sem]
  go_enter Tryd.func22, Tryd.ntmps22
  go_upto_region 1 with fail
  rw [← hA, ← hAz]
  generalize wA.alloc (.cells #[.int .i64 b0, .int .i64 b1, .int .i64 b2, .int .i64 b3] 22) = wB at *
  generalize wA.heap.size = g2 at *
  generalize w.heap.size = g1 at FA ⊢
  clear hA hAz
  have c0 := FA.c0
  have c1 := FA.c1
  have c2 := FA.c2
  have c3 := FA.c3
  have d0 := FB.c0
  have d1 := FB.c1
  have d2 := FB.c2
  have d3 := FB.c3
  go_wp2_with fail
  refine (H1 _).mono ?_
  rintro e w1 ⟨rfl, hb1⟩
  replace FA := FA.later hb1
  replace FB := FB.later hb1
  clear c0 c1 c2 c3 d0 d1 d2 d3
  clear hb1 H1
  cases t1
  case false =>
    have hB := FA.below
    clear FA FB
    go_wp2
    go_ret
    exact ⟨by simp, hB⟩
  case true =>
    have c0 := FA.c0
    have c1 := FA.c1
    have c2 := FA.c2
    have c3 := FA.c3
    have d0 := FB.c0
    have d1 := FB.c1
    have d2 := FB.c2
    have d3 := FB.c3
    go_wp2_with fail
    refine (H2 _).mono ?_
    rintro e w2 ⟨rfl, hb2⟩
    replace FA := FA.later hb2
    replace FB := FB.later hb2
    clear c0 c1 c2 c3 d0 d1 d2 d3
    clear hb2 H2
    cases t2
    case true =>
      have hB := FA.below
      clear FA FB
      go_wp2
      go_ret
      exact ⟨by simp, hB⟩
    case false =>
      have c0 := FA.c0
      have c1 := FA.c1
      have c2 := FA.c2
      have c3 := FA.c3
      have d0 := FB.c0
      have d1 := FB.c1
      have d2 := FB.c2
      have d3 := FB.c3
      go_wp2_with fail
      refine (H3 _).mono ?_
      rintro e w3 ⟨rfl, hb3⟩
      replace FA := FA.later hb3
      replace FB := FB.later hb3
      clear c0 c1 c2 c3 d0 d1 d2 d3
      clear hb3 H3
      cases t3
      case true =>
        have hB := FA.below
        clear FA FB
        go_wp2
        go_ret
        exact ⟨by simp, hB⟩
      case false =>
        have hB := FA.below
        clear FA FB
        go_wp2
        go_ret
        exact ⟨by simp, hB⟩
end Go.Proofs.YtokooampmhcfeaaDoor.Rg
