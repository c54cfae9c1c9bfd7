/- A row of floats whose elements are put in another order; comparing two of them. -/
import Derived.Test.YtfnphohdipdmpaaRows
import Derived.Test.YtfnphohdipdmpaaProg
import Derived.WalkKit
import Derived.WalkSpells
import Derived.WalkLawsBesides
import Derived.BigGuard
import Derived.BigCall
import Derived.CellFam
import Derived.Deep.Draws
import Derived.Deep.QuietTactic
import Derived.BigQuiet
import Derived.Lib.Hide
import Derived.Below
import Derived.Lib.BufferOwn
namespace Go.Proofs.Ytfnphohdipdmpaa.Rg
open Go.RowKit

/-- The row's cells hold these floats. -/
structure RowF (w : World) (blk : Nat) (X : List Nat) : Prop where
  cells : ∀ j b, X[j]? = some b → w.cell? ⟨blk, j, none⟩ = some (.float .f64 b)
  free : ∀ j, j < X.length → w.frozen? ⟨blk, j, none⟩ = false
  lt : blk < w.heap.size

/-- The same floats, perhaps in another order; all blocks else as they were. -/
def St (w : World) (blk : Nat) (X : List Nat) (w' : World) : Prop := ∃ X', X'.Perm X ∧ RowF w' blk X' ∧ w.grownBy w' (some blk)

theorem RowF.at {w : World} {blk : Nat} {X : List Nat} (h : RowF w blk X) {j : Nat} (hj : j < X.length) : ∃ b, X[j]? = some b ∧ w.cell? ⟨blk, j, none⟩ = some (.float .f64 b) ∧ w.frozen? ⟨blk, j, none⟩ = false :=
  ⟨X[j], List.getElem?_eq_getElem hj, h.cells _ _ (List.getElem?_eq_getElem hj), h.free j hj⟩

theorem RowF.keep {w w' : World} {blk : Nat} {X : List Nat} (h : RowF w blk X) (hz : w.heap.size ≤ w'.heap.size) (hb : w'.heap[blk]? = w.heap[blk]?) : RowF w' blk X :=
  ⟨fun j b hj => (World.cell?_of_block (w := w) (a := ⟨blk, j, none⟩) hb).trans (h.cells j b hj), fun j hj => (World.frozen?_of_block (w := w) (a := ⟨blk, j, none⟩) hb).trans (h.free j hj), Nat.lt_of_lt_of_le h.lt hz⟩

theorem RowF.set {w : World} {blk : Nat} {X : List Nat} (h : RowF w blk X) {i : Nat} (hi : i < X.length) (b : Nat) : RowF (w.setCell ⟨blk, i, none⟩ (.float .f64 b)) blk (X.set i b) := by
  refine ⟨fun j c hj => ?_, fun j hj => ?_, by have := h.lt; simpa [World.setCell] using this⟩
  · by_cases e : i = j
    · subst e
      rw [List.getElem?_set_self hi] at hj
      cases hj
      obtain ⟨_, _, h1, _⟩ := h.at hi
      simp [go_sem, h1]
    · rw [List.getElem?_set_ne e] at hj
      have := h.cells j c hj
      simp [go_sem, this]
  · rw [List.length_set] at hj
    exact (World.frozen?_setCell _ _ _ _).trans (h.free j hj)

theorem St.refl {w : World} {blk : Nat} {X : List Nat} (h : RowF w blk X) : St w blk X w := ⟨X, List.Perm.refl _, h, ⟨rfl, rfl, rfl, Nat.le_refl _, fun _ _ _ => rfl⟩⟩

theorem St.trans {w w1 w2 : World} {blk : Nat} {X : List Nat} (h : St w blk X w1) (h' : ∀ X1, X1.Perm X → RowF w1 blk X1 → St w1 blk X1 w2) : St w blk X w2 := by
  obtain ⟨X1, hp, hr, hg⟩ := h
  obtain ⟨X2, hp2, hr2, hg2⟩ := h' X1 hp hr
  exact ⟨X2, hp2.trans hp, hr2, Go.Lib.grownBy_trans hg hg2⟩

theorem grownBy_drewN {w w' : World} {row : Option Nat} (h : w.grownBy w' row) (n : Nat) : w.grownBy (w'.drewN n) row := ⟨h.os, h.tape, h.output, h.size, h.block⟩

theorem RowF.drewN {w : World} {blk : Nat} {X : List Nat} (h : RowF w blk X) (n : Nat) : RowF (w.drewN n) blk X := h.keep (Nat.le_refl _) rfl

/-- Two elements change places, behind n draws. -/
theorem swapped {w w1 : World} {blk : Nat} {X X1 : List Nat} (hp : X1.Perm X) (h : RowF w1 blk X1) (hg : w.grownBy w1 (some blk)) (n : Nat) {i j x y : Nat} (hx : X1[i]? = some x) (hy : X1[j]? = some y) :
    St w blk X (((w1.drewN n).setCell ⟨blk, i, none⟩ (.float .f64 y)).setCell ⟨blk, j, none⟩ (.float .f64 x)) := by
  obtain ⟨hi, rfl⟩ := List.getElem?_eq_some_iff.1 hx
  obtain ⟨hj, rfl⟩ := List.getElem?_eq_some_iff.1 hy
  refine ⟨(X1.set i X1[j]).set j X1[i], (List.set_set_perm hi hj).trans hp, ((h.drewN n).set hi _).set (by rw [List.length_set]; exact hj) _, ?_⟩
  exact Go.Lib.grownBy_setB (Go.Lib.grownBy_setB (grownBy_drewN hg n) i _) j _

/-- Two elements, and what becomes of the row when they change places. -/
theorem St.pair {w wr : World} {blk n : Nat} {X : List Nat} (h : St w blk X wr) (hn : X.length = n) {i j : Nat} (hi : i < n) (hj : j < n) :
    ∃ x y, (wr.cell? ⟨blk, i, none⟩ = some (.float .f64 x) ∧ wr.frozen? ⟨blk, i, none⟩ = false) ∧ (wr.cell? ⟨blk, j, none⟩ = some (.float .f64 y) ∧ wr.frozen? ⟨blk, j, none⟩ = false) ∧
      Hid (∀ q, St w blk X (wr.drewN q)) ∧ Hid (∀ q, St w blk X (((wr.drewN q).setCell ⟨blk, i, none⟩ (.float .f64 y)).setCell ⟨blk, j, none⟩ (.float .f64 x))) := by
  obtain ⟨X', hp, hr, hg⟩ := h
  have hl : X'.length = n := by rw [hp.length_eq, hn]
  obtain ⟨x, hx, cx, fx⟩ := hr.at (j := i) (by omega)
  obtain ⟨y, hy, cy, fy⟩ := hr.at (j := j) (by omega)
  exact ⟨x, y, ⟨cx, fx⟩, ⟨cy, fy⟩, fun q => ⟨X', hp, hr.drewN q, grownBy_drewN hg q⟩, fun q => swapped hp hr hg q hx hy⟩

/-- What lies at one place when the other has been written, the two perhaps the same. -/
theorem cell_over {w : World} {blk i j y : Nat} (h : w.cell? ⟨blk, j, none⟩ = some (.float .f64 y)) : (w.setCell ⟨blk, i, none⟩ (.float .f64 y)).cell? ⟨blk, j, none⟩ = some (.float .f64 y) := by
  by_cases e : j = i
  · subst e
    simp [go_sem, h]
  · simp [go_sem, h]

theorem St.drewN {w wr : World} {blk : Nat} {X : List Nat} (h : St w blk X wr) (q : Nat) : St w blk X (wr.drewN q) := by
  obtain ⟨X', hp, hr, hg⟩ := h
  exact ⟨X', hp, hr.drewN q, grownBy_drewN hg q⟩

/-- A call's work on the row is part of its caller's. -/
theorem St.call {w w1 : World} {blk n : Nat} {X : List Nat} (h : St w blk X w1) (hn : X.length = n) : ∃ X1, RowF w1 blk X1 ∧ X1.length = n ∧ Hid (∀ w2, St w1 blk X1 w2 → St w blk X w2) := by
  obtain ⟨X1, hp, hr, hg⟩ := h
  refine ⟨X1, hr, by rw [hp.length_eq, hn], fun w2 h2 => ?_⟩
  obtain ⟨X2, hp2, hr2, hg2⟩ := h2
  exact ⟨X2, hp2.trans hp, hr2, Lib.grownBy_trans hg hg2⟩

theorem store_float (P : Program) (w : World) (a : Addr) (m : Mode) (b : Nat) : (store a (.float .f64 b) m).run P w = stored P w a (.float .f64 b) m := run_store P w a _ m rfl

def StPost (w : World) (blk : Nat) (X : List Nat) (e : Ending) (w' : World) : Prop := e = .returned (.tuple #[]) ∧ St w blk X w'

def nanF (a : Nat) : Bool := FloatKind.f64.format.order a a != some .eq
/-- What the library's comparison says of two floats. -/
def lessF (a b : Nat) : Bool := (nanF a && !nanF b) || (FloatKind.f64.format.order a b == some .lt)

set_option maxHeartbeats 1000000 in
theorem isnan_any (a : Nat) (w : World) : Calls Try.prog 66 #[.float .f64 a] w fun e w' => e = .returned (.bool (nanF a)) ∧ w' = w := by
  go_enter Try.func66, Try.ntmps66
  go_wp2
  go_ret
  exact ⟨rfl, rfl⟩

set_option maxHeartbeats 1000000 in
theorem less_any (a b : Nat) (w : World) : Calls Try.prog 56 #[.float .f64 a, .float .f64 b] w fun e w' => e = .returned (.bool (lessF a b)) ∧ w' = w := by
  have NA := fun w => isnan_any a w
  have NB := fun w => isnan_any b w
  have hl : lessF a b = ((nanF a && !nanF b) || (FloatKind.f64.format.order a b == some .lt)) := rfl
  have HL := Lib.hid hl
  clear hl
  generalize nanF a = p at *
  generalize nanF b = q at *
  cases p
  · go_enter Try.func56, Try.ntmps56
    go_wp2_with fail
    refine (NA _).mono ?_
    rintro e w1 ⟨rfl, rfl⟩
    go_wp2
    go_ret
    exact ⟨by rw [HL.out]; simp, rfl⟩
  · go_enter Try.func56, Try.ntmps56
    go_wp2_with fail
    refine (NA _).mono ?_
    rintro e w1 ⟨rfl, rfl⟩
    cases q
    · go_wp2_with fail
      refine (NB _).mono ?_
      rintro e w1 ⟨rfl, rfl⟩
      go_wp2
      go_ret
      exact ⟨by rw [HL.out]; simp, rfl⟩
    · go_wp2_with fail
      refine (NB _).mono ?_
      rintro e w1 ⟨rfl, rfl⟩
      go_wp2
      go_ret
      exact ⟨by rw [HL.out]; simp, rfl⟩
end Go.Proofs.Ytfnphohdipdmpaa.Rg
