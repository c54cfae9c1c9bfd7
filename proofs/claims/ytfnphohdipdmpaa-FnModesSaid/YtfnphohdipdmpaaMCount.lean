/- The plain law of MODE: which number its counting finds. -/
import Derived.Test.YtfnphohdipdmpaaMToList
namespace Go.Proofs.Ytfnphohdipdmpaa.Rg
open Go.RowKit

theorem perm_map_inv {α β : Type} (f : α → β) {X' W : List β} (h : X'.Perm W) : ∀ X : List α, W = X.map f → ∃ Y : List α, Y.Perm X ∧ X' = Y.map f := by
  induction h with
  | nil =>
    intro X hX
    exact ⟨X, List.Perm.refl _, hX⟩
  | cons b h ih =>
    intro X hX
    cases X with
    | nil => simp at hX
    | cons x X =>
      simp only [List.map_cons, List.cons.injEq] at hX
      obtain ⟨Y, hp, hy⟩ := ih X hX.2
      exact ⟨x :: Y, hp.cons x, by rw [List.map_cons, ← hX.1, hy]⟩
  | swap b c l =>
    intro X hX
    cases X with
    | nil => simp at hX
    | cons x X =>
      cases X with
      | nil => simp at hX
      | cons y X =>
        simp only [List.map_cons, List.cons.injEq] at hX
        exact ⟨y :: x :: X, List.Perm.swap _ _ _, by rw [List.map_cons, List.map_cons, ← hX.1, ← hX.2.1, hX.2.2]⟩
  | trans h1 h2 ih1 ih2 =>
    intro X hX
    obtain ⟨Y, hp, hy⟩ := ih2 X hX
    obtain ⟨Z, hq, hz⟩ := ih1 Y hy
    exact ⟨Z, hq.trans hp, hz⟩

/-- How many places before j, but for i, hold what place i holds. -/
def CntAt (Y : List Int) (i j : Nat) (x : Int) (c : Nat) : Prop := c + (if i < j then 1 else 0) = (Y.take j).count x

theorem CntAt.start (Y : List Int) (i : Nat) (x : Int) : CntAt Y i 0 x 0 := by simp [CntAt]
theorem CntAt.step {Y : List Int} {i j c : Nat} {x y : Int} (h : CntAt Y i j x c) (hy : Y[j]? = some y) (hx : Y[i]? = some x) :
    CntAt Y i (j + 1) x (if j ≠ i ∧ y = x then c + 1 else c) := by
  unfold CntAt at h ⊢
  rw [List.take_add_one, hy]
  simp only [Option.toList_some, List.count_append, List.count_singleton]
  by_cases e : j = i
  · subst e
    rw [hx] at hy
    cases hy
    simp at h ⊢
    omega
  · by_cases e2 : y = x
    · subst e2
      simp only [ne_eq, e, not_false_eq_true, and_self, ite_true, beq_self_eq_true]
      by_cases e3 : i < j
      · simp [e3, show i < j + 1 by omega] at h ⊢
        omega
      · simp [e3, show ¬ i < j + 1 by omega] at h ⊢
        omega
    · simp only [ne_eq, e2, and_false, ite_false, beq_false_of_ne e2]
      by_cases e3 : i < j
      · simp [e3, show i < j + 1 by omega] at h ⊢
        omega
      · simp [e3, show ¬ i < j + 1 by omega] at h ⊢
        omega
theorem CntAt.done {Y : List Int} {i c : Nat} {x : Int} (h : CntAt Y i Y.length x c) (hx : Y[i]? = some x) : c + 1 = Y.count x := by
  have hi := (List.getElem?_eq_some_iff.1 hx).1
  unfold CntAt at h
  rw [List.take_length] at h
  simpa [hi] using h

/-- The best so far. -/
structure Best (Y : List Int) (i mc : Nat) (md : Int) : Prop where
  le : ∀ (j : Nat) y, j < i → Y[j]? = some y → Y.count y ≤ mc + 1
  best : 1 ≤ mc → md ∈ Y ∧ Y.count md = mc + 1
  lo : -9 ≤ md
  hi : md ≤ 9

theorem Best.start (Y : List Int) : Best Y 0 0 0 := ⟨fun j y hj => by omega, fun h => by omega, by omega, by omega⟩
theorem Best.better {Y : List Int} {i mc c : Nat} {md x : Int} (h : Best Y i mc md) (hx : Y[i]? = some x) (hc : c + 1 = Y.count x) (hlt : mc < c) (h1 : -9 ≤ x) (h2 : x ≤ 9) : Best Y (i + 1) c x := by
  refine ⟨fun j y hj hy => ?_, fun _ => ⟨List.mem_of_getElem? hx, hc.symm⟩, h1, h2⟩
  by_cases e : j = i
  · subst e
    rw [hx] at hy
    cases hy
    omega
  · have := h.le j y (by omega) hy
    omega
theorem Best.keep {Y : List Int} {i mc c : Nat} {md x : Int} (h : Best Y i mc md) (hx : Y[i]? = some x) (hc : c + 1 = Y.count x) (hlt : ¬ mc < c) : Best Y (i + 1) mc md := by
  refine ⟨fun j y hj hy => ?_, h.best, h.lo, h.hi⟩
  by_cases e : j = i
  · subst e
    rw [hx] at hy
    cases hy
    omega
  · exact h.le j y (by omega) hy

theorem Best.uniq {X Y : List Int} {mc : Nat} {md m : Int} (h : Best Y Y.length mc md) (hp : Y.Perm X) (hu : Uniq X m) : 1 ≤ mc ∧ md = m := by
  obtain ⟨hm, h2, hall⟩ := hu
  have hmY : m ∈ Y := hp.mem_iff.2 hm
  obtain ⟨j, hj⟩ := List.mem_iff_getElem?.1 hmY
  have hle := h.le j m (List.getElem?_eq_some_iff.1 hj).1 hj
  rw [hp.count_eq] at hle
  have hmc : 1 ≤ mc := by omega
  obtain ⟨hb1, hb2⟩ := h.best hmc
  refine ⟨hmc, ?_⟩
  by_cases e : md = m
  · exact e
  · have := hall md (hp.mem_iff.1 hb1) e
    rw [hp.count_eq] at hb2
    omega
end Go.Proofs.Ytfnphohdipdmpaa.Rg
