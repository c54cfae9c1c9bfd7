/- The four numbers of a range by its two cells, as the package computes them: a fresh row of four. -/
import Derived.Test.YtokooampmhcfeaaGreatDoorRCell
namespace Go.Proofs.YtokooampmhcfeaaGreatDoor.Rg
open Go.RowKit

/-- A fresh row of four numbers: block b of the world. -/
structure Four (w0 w : World) (b : Nat) (p q r s : Int) : Prop where
  fresh : w0.heap.size ≤ b
  old : b < w.heap.size
  c0 : w.cell? ⟨b, 0, none⟩ = some (.int .i64 p)
  c1 : w.cell? ⟨b, 1, none⟩ = some (.int .i64 q)
  c2 : w.cell? ⟨b, 2, none⟩ = some (.int .i64 r)
  c3 : w.cell? ⟨b, 3, none⟩ = some (.int .i64 s)
  free : ∀ i, w.frozen? ⟨b, i, none⟩ = false
  below : Below w0.heap.size w0 w

theorem Four.later {w0 w w' : World} {b : Nat} {p q r s : Int} (h : Four w0 w b p q r s) (hb : Below w.heap.size w w') : Four w0 w' b p q r s :=
  ⟨h.fresh, Nat.lt_of_lt_of_le h.old hb.size, (hb.cell h.old).trans h.c0, (hb.cell h.old).trans h.c1, (hb.cell h.old).trans h.c2, (hb.cell h.old).trans h.c3, fun i => (hb.frozen (p := ⟨b, i, none⟩) h.old).trans (h.free i), h.below.trans (hb.mono h.below.size)⟩

theorem Four.drew {w0 w : World} {b : Nat} {p q r s : Int} (h : Four w0 w b p q r s) : Four w0 w.drew b p q r s := h.later (Below.refl _ _).drew

theorem Four.under {w0 w1 w : World} {b : Nat} {p q r s : Int} (h : Four w1 w b p q r s) (hb : Below w0.heap.size w0 w1) : Four w0 w b p q r s :=
  ⟨Nat.le_trans hb.size h.fresh, h.old, h.c0, h.c1, h.c2, h.c3, h.free, hb.trans (h.below.mono hb.size)⟩

theorem set_same (w : World) (b i : Nat) (v u : Value) (h : w.cell? ⟨b, i, none⟩ = some u) : (w.setCell ⟨b, i, none⟩ v).cell? ⟨b, i, none⟩ = some v := by
  simp [go_sem, h]
theorem set_other (w : World) (b i j : Nat) (v : Value) (h : j ≠ i) : (w.setCell ⟨b, i, none⟩ v).cell? ⟨b, j, none⟩ = w.cell? ⟨b, j, none⟩ := by
  simp [go_sem]
theorem Four.set0 {w0 w : World} {b : Nat} {p q r s : Int} (h : Four w0 w b p q r s) (v : Int) : Four w0 (w.setCell ⟨b, 0, none⟩ (.int .i64 v)) b v q r s :=
  ⟨h.fresh, by have := h.old; simpa [World.setCell] using this, set_same w b 0 _ _ h.c0, (set_other w b 0 1 _ (by decide)).trans h.c1, (set_other w b 0 2 _ (by decide)).trans h.c2, (set_other w b 0 3 _ (by decide)).trans h.c3, fun i => (World.frozen?_setCell _ _ _ _).trans (h.free i), h.below.setCell h.fresh _⟩
theorem Four.set1 {w0 w : World} {b : Nat} {p q r s : Int} (h : Four w0 w b p q r s) (v : Int) : Four w0 (w.setCell ⟨b, 1, none⟩ (.int .i64 v)) b p v r s :=
  ⟨h.fresh, by have := h.old; simpa [World.setCell] using this, (set_other w b 1 0 _ (by decide)).trans h.c0, set_same w b 1 _ _ h.c1, (set_other w b 1 2 _ (by decide)).trans h.c2, (set_other w b 1 3 _ (by decide)).trans h.c3, fun i => (World.frozen?_setCell _ _ _ _).trans (h.free i), h.below.setCell h.fresh _⟩
theorem Four.set2 {w0 w : World} {b : Nat} {p q r s : Int} (h : Four w0 w b p q r s) (v : Int) : Four w0 (w.setCell ⟨b, 2, none⟩ (.int .i64 v)) b p q v s :=
  ⟨h.fresh, by have := h.old; simpa [World.setCell] using this, (set_other w b 2 0 _ (by decide)).trans h.c0, (set_other w b 2 1 _ (by decide)).trans h.c1, set_same w b 2 _ _ h.c2, (set_other w b 2 3 _ (by decide)).trans h.c3, fun i => (World.frozen?_setCell _ _ _ _).trans (h.free i), h.below.setCell h.fresh _⟩
theorem Four.set3 {w0 w : World} {b : Nat} {p q r s : Int} (h : Four w0 w b p q r s) (v : Int) : Four w0 (w.setCell ⟨b, 3, none⟩ (.int .i64 v)) b p q r v :=
  ⟨h.fresh, by have := h.old; simpa [World.setCell] using this, (set_other w b 3 0 _ (by decide)).trans h.c0, (set_other w b 3 1 _ (by decide)).trans h.c1, (set_other w b 3 2 _ (by decide)).trans h.c2, set_same w b 3 _ _ h.c3, fun i => (World.frozen?_setCell _ _ _ _).trans (h.free i), h.below.setCell h.fresh _⟩

theorem Four.made (w : World) (p q r s : Int) (t : TypeId) : Four w (w.alloc (.cells #[.int .i64 p, .int .i64 q, .int .i64 r, .int .i64 s] t)) w.heap.size p q r s := by
  refine ⟨Nat.le_refl _, by simp [go_sem], by simp [go_sem], by simp [go_sem], by simp [go_sem], by simp [go_sem], fun i => ?_, (Below.refl _ _).alloc (Nat.le_refl _) _⟩
  simp [go_sem]

def FourPost (w0 : World) (p q r s : Int) (e : Ending) (w : World) : Prop :=
  ∃ b, e = .returned (.tuple #[.slice (some ⟨b, 0, none⟩) 4 4, .nilIface]) ∧ Four w0 w b p q r s

set_option maxHeartbeats 1000000 in
set_option maxRecDepth 100000 in
theorem cells_any (s t : ByteArray) (n m : Nat) (p q x y : Int) (w : World) (hs : IsCell s n p q) (ht : IsCell t m x y) :
    Calls Tryz.prog 54 #[.string s, .string t] w fun e w' => FourPost w p q x y e w' := by
  have hmk : ∀ w, (Instr.makeSlice 32 (.int .i64 4) (.int .i64 4)).run Tryz.prog w = .ok (.slice (some ⟨w.heap.size, 0, none⟩) 4 4) (w.alloc (.cells #[.int .i64 0, .int .i64 0, .int .i64 0, .int .i64 0] 3)) := fun _ => by kernel_rfl
  have F0 := Four.made w 0 0 0 0 3
  go_enter Tryz.func54, Tryz.ntmps54
  go_wp2_with fail
  clear hmk
  refine (cell_any s n p q _ hs).mono ?_
  rintro e w1 ⟨rfl, hb1⟩
  replace F0 := F0.later hb1
  have f1 := F0.free
  have a0 := F0.c0
  have a1 := F0.c1
  clear hb1
  go_wp2_with fail
  refine (cell_any t m x y _ ht).mono ?_
  rintro e w2 ⟨rfl, hb2⟩
  replace F0 := ((F0.set0 p).set1 q).later hb2
  clear f1 a0 a1 hb2
  have f1 := F0.free
  have a0 := F0.c2
  have a1 := F0.c3
  go_wp2
  go_ret2
  exact ⟨_, rfl, (F0.set2 x).set3 y⟩
end Go.Proofs.YtokooampmhcfeaaGreatDoor.Rg
