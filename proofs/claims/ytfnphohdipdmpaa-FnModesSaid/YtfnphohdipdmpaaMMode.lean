/- The reference's mode of whole numbers. -/
import Derived.Test.YtfnphohdipdmpaaMSmall
import Derived.Test.YtfnphohdipdmpaaMPlan
namespace Go.Proofs.Ytfnphohdipdmpaa.Rg
open Go.RowKit

/-- The five cells of element k. -/
structure At5 (w : World) (g k : Nat) (z : Int) : Prop where
  c0 : w.cell? ⟨g, k * 5, none⟩ = some (.int .i64 1)
  c1 : w.cell? ⟨g, k * 5 + 1, none⟩ = some (.int .i64 z)
  c2 : w.cell? ⟨g, k * 5 + 2, none⟩ = some (.int .i64 1)
  c3 : w.cell? ⟨g, k * 5 + 3, none⟩ = some (.string ⟨#[]⟩)
  c4 : w.cell? ⟨g, k * 5 + 4, none⟩ = some (.slice none 0 0)
theorem At5.same {w w' : World} {g k : Nat} {z : Int} (h : At5 w g k z) (hs : w'.heap[g]? = w.heap[g]?) : At5 w' g k z := by
  have e := fun i => World.cell?_of_block (w := w) (w' := w') (a := ⟨g, i, none⟩) hs
  exact ⟨(e _).trans h.c0, (e _).trans h.c1, (e _).trans h.c2, (e _).trans h.c3, (e _).trans h.c4⟩

/-- The slice reads as numbers of the reference. -/
def RdV (w : World) (A : Option Addr) (X : List Int) : Prop :=
  0 < X.length → ∃ g, A = some ⟨g, 0, none⟩ ∧ g < w.heap.size ∧ ∀ (k : Nat) (x : Int), X[k]? = some x → At5 w g k x
theorem RdV.later {w w' : World} {A : Option Addr} {X : List Int} (h : RdV w A X) (hb : Below w.heap.size w w') : RdV w' A X := by
  intro hn
  obtain ⟨g, hA, hg, hc⟩ := h hn
  exact ⟨g, hA, Nat.lt_of_lt_of_le hg hb.size, fun k y hk => (hc k y hk).same (hb.block g hg)⟩

/-- The cells of the best so far: none, or a number. -/
def bestCells : Option Int → Array Value
  | none => #[.int .i64 4, .int .i64 0, .int .i64 0, .string ⟨#[35, 78, 47, 65]⟩, .slice none 0 0]
  | some m => #[.int .i64 1, .int .i64 m, .int .i64 1, .string ⟨#[]⟩, .slice none 0 0]
def bestV (bo : Option Int) : Value := .agg (bestCells bo)

structure MInv (X : List Int) (i : Nat) (bo : Option Int) (many : Nat) (tw : Bool) : Prop where
  none_ : bo = none → many = 1 ∧ tw = false
  some_ : ∀ m, bo = some m → m ∈ X ∧ 2 ≤ many ∧ X.count m = many ∧ (tw = false → ∀ (j : Nat) x, j < i → X[j]? = some x → X.count x = many → x = m)
  le : ∀ (j : Nat) x, j < i → X[j]? = some x → X.count x ≤ many

theorem MInv.start (X : List Int) : MInv X 0 none 1 false := ⟨fun _ => ⟨rfl, rfl⟩, (fun m h => by cases h), (fun j x hj => by omega)⟩

theorem MInv.pos {X : List Int} {i : Nat} {bo : Option Int} {many : Nat} {tw : Bool} (h : MInv X i bo many tw) : 1 ≤ many := by
  cases bo with
  | none => have := (h.none_ rfl).1; omega
  | some m => have := (h.some_ m rfl).2.1; omega

theorem MInv.better {X : List Int} {i : Nat} {bo : Option Int} {many : Nat} {tw : Bool} {x : Int} (h : MInv X i bo many tw) (hx : X[i]? = some x) (hc : many < X.count x) : MInv X (i + 1) (some x) (X.count x) false := by
  have hp := h.pos
  refine ⟨(fun e => by cases e), fun m e => ?_, fun j y hj hy => ?_⟩
  · obtain rfl : x = m := Option.some.inj e
    refine ⟨List.mem_of_getElem? hx, by omega, rfl, fun _ j y hj hy hcy => ?_⟩
    by_cases e : j = i
    · subst e
      rw [hx] at hy
      exact (Option.some.inj hy).symm
    · have := h.le j y (by omega) hy
      omega
  · by_cases e : j = i
    · subst e
      rw [hx] at hy
      cases hy
      exact Nat.le_refl _
    · have := h.le j y (by omega) hy
      omega

theorem MInv.keep {X : List Int} {i : Nat} {bo : Option Int} {many : Nat} {tw : Bool} {x : Int} (h : MInv X i bo many tw) (hx : X[i]? = some x) (hc : X.count x < many ∨ (X.count x = many ∧ (many ≤ 1 ∨ bo = some x))) : MInv X (i + 1) bo many tw := by
  refine ⟨h.none_, fun m e => ?_, fun j y hj hy => ?_⟩
  · obtain ⟨h1, h2, h3, h4⟩ := h.some_ m e
    refine ⟨h1, h2, h3, fun htw j y hj hy hcy => ?_⟩
    by_cases ej : j = i
    · subst ej
      rw [hx] at hy
      cases hy
      rcases hc with hc | ⟨_, hc | hc⟩
      · omega
      · omega
      · rw [e] at hc
        exact (Option.some.inj hc).symm
    · exact h4 htw j y (by omega) hy hcy
  · by_cases ej : j = i
    · subst ej
      rw [hx] at hy
      cases hy
      omega
    · exact h.le j y (by omega) hy

theorem MInv.twice {X : List Int} {i : Nat} {bo : Option Int} {many : Nat} {tw : Bool} {x : Int} (h : MInv X i bo many tw) (hx : X[i]? = some x) (hc : X.count x = many) (h1 : 1 < many) : MInv X (i + 1) bo many true := by
  refine ⟨fun e => ?_, fun m e => ?_, fun j y hj hy => ?_⟩
  · have := (h.none_ e).1
    omega
  · obtain ⟨h1, h2, h3, _⟩ := h.some_ m e
    exact ⟨h1, h2, h3, (fun htw => by cases htw)⟩
  · by_cases ej : j = i
    · subst ej
      rw [hx] at hy
      cases hy
      omega
    · exact h.le j y (by omega) hy

/-- m is the only number that occurs most often, and it occurs twice at least. -/
def Uniq (X : List Int) (m : Int) : Prop := m ∈ X ∧ 2 ≤ X.count m ∧ ∀ x ∈ X, x ≠ m → X.count x < X.count m

theorem MInv.uniq {X : List Int} {m : Int} {many : Nat} (h : MInv X X.length (some m) many false) : Uniq X m := by
  obtain ⟨h1, h2, h3, h4⟩ := h.some_ m rfl
  refine ⟨h1, by omega, fun x hx hne => ?_⟩
  obtain ⟨j, hj, rfl⟩ := List.mem_iff_getElem.1 hx
  have hle := h.le j X[j] hj (List.getElem?_eq_getElem hj)
  have hn : X.count X[j] ≠ many := fun e => hne (h4 rfl j X[j] hj (List.getElem?_eq_getElem hj) e)
  omega

theorem count_take (X : List Int) (k : Nat) (x y : Int) (h : X[k]? = some y) : (X.take (k + 1)).count x = (X.take k).count x + if decide (x = y) then 1 else 0 := by
  rw [List.take_add_one, h, List.count_append]
  simp only [Option.toList_some, List.count_singleton, beq_iff_eq, decide_eq_true_eq]
  by_cases e : x = y
  · simp [e]
  · have : ¬ y = x := fun e' => e e'.symm
    simp [e, this]

def ModePost (w : World) (X : List Int) (e : Ending) (w' : World) : Prop := (∃ v : Value, e = .returned v ∧ (v = doubtV ∨ v = bestV none ∨ ∃ m, v = sv m ∧ Uniq X m)) ∧ Below w.heap.size w w'

/-- Where the reference's mode stands. -/
structure MSt (w wr : World) (g2 g3 : Nat) (bo : Option Int) : Prop where
  box : wr.heap[g2]? = some (.cells #[.int .i64 0, .int .i64 0, .int .i64 0, .string ⟨#[]⟩, .slice none 0 0] 26 (0, 0))
  best : wr.heap[g3]? = some (.cells (bestCells bo) 26 (0, 0))
  below : Below w.heap.size w wr

theorem MSt.later {w wr w' : World} {g2 g3 : Nat} {bo : Option Int} (h : MSt w wr g2 g3 bo) (hb : Below wr.heap.size wr w') : MSt w w' g2 g3 bo :=
  ⟨(hb.block g2 (Array.getElem?_eq_some_iff.1 h.box).1).trans h.box, (hb.block g3 (Array.getElem?_eq_some_iff.1 h.best).1).trans h.best, h.below.trans (hb.mono h.below.size)⟩

theorem set5 {w : World} {g : Nat} {t : TypeId} {a b c d e : Value} (h : w.heap[g]? = some (.cells #[a, b, c, d, e] t (0, 0))) (v0 v1 v2 v3 v4 : Value) :
    (((((w.setCell ⟨g, 0, none⟩ v0).setCell ⟨g, 1, none⟩ v1).setCell ⟨g, 2, none⟩ v2).setCell ⟨g, 3, none⟩ v3).setCell ⟨g, 4, none⟩ v4).heap[g]? = some (.cells #[v0, v1, v2, v3, v4] t (0, 0)) := by
  have h0 := heap_setCell_same w g 0 _ t v0 h
  have h1 := heap_setCell_same _ g 1 _ t v1 h0
  have h2 := heap_setCell_same _ g 2 _ t v2 h1
  have h3 := heap_setCell_same _ g 3 _ t v3 h2
  have h4 := heap_setCell_same _ g 4 _ t v4 h3
  simpa using h4

theorem set5_other {w : World} {g k : Nat} (v0 v1 v2 v3 v4 : Value) (h : k ≠ g) :
    (((((w.setCell ⟨g, 0, none⟩ v0).setCell ⟨g, 1, none⟩ v1).setCell ⟨g, 2, none⟩ v2).setCell ⟨g, 3, none⟩ v3).setCell ⟨g, 4, none⟩ v4).heap[k]? = w.heap[k]? := by
  rw [heap_setCell_other _ _ _ _ h, heap_setCell_other _ _ _ _ h, heap_setCell_other _ _ _ _ h, heap_setCell_other _ _ _ _ h, heap_setCell_other _ _ _ _ h]

theorem MSt.put {w wr : World} {g2 g3 : Nat} {bo : Option Int} (h : MSt w wr g2 g3 bo) (hne : g2 ≠ g3) (hf : w.heap.size ≤ g3) (x : Int) :
    MSt w (((((wr.setCell ⟨g3, 0, none⟩ (.int .i64 1)).setCell ⟨g3, 1, none⟩ (.int .i64 x)).setCell ⟨g3, 2, none⟩ (.int .i64 1)).setCell ⟨g3, 3, none⟩ (.string ⟨#[]⟩)).setCell ⟨g3, 4, none⟩ (.slice none 0 0)) g2 g3 (some x) := by
  refine ⟨(set5_other _ _ _ _ _ hne).trans h.box, ?_, ((((h.below.setCell hf _).setCell hf _).setCell hf _).setCell hf _).setCell hf _⟩
  cases bo with
  | none => exact set5 h.best _ _ _ _ _
  | some m => exact set5 h.best _ _ _ _ _

/-- The five cells of a block of a value of the reference. -/
theorem five {w : World} {g : Nat} {t : TypeId} {a b c d e : Value} (h : w.heap[g]? = some (.cells #[a, b, c, d, e] t (0, 0))) :
    w.cell? ⟨g, 0, none⟩ = some a ∧ w.cell? ⟨g, 1, none⟩ = some b ∧ w.cell? ⟨g, 2, none⟩ = some c ∧ w.cell? ⟨g, 3, none⟩ = some d ∧ w.cell? ⟨g, 4, none⟩ = some e ∧ ∀ i, w.frozen? ⟨g, i, none⟩ = false := by
  refine ⟨?_, ?_, ?_, ?_, ?_, fun i => ?_⟩ <;> simp [World.cell?, World.frozen?, h]
end Go.Proofs.Ytfnphohdipdmpaa.Rg
