/- Showing or hiding columns puts the flattened list in place, for at most 12 runs within 60 columns. -/
import Derived.Test.YtdobgmeibccjnaaSetDefs
namespace Go.Proofs.Ytdobgmeibccjnaa.Ln
open Go.RowKit
attribute [local go_sem] run_store_float

set_option maxHeartbeats 1600000 in
set_option maxRecDepth 100000 in
theorem setVisible_any (a b : Int) (shown : Bool) (g cb : Nat) (v : Value) (L : List Run) (w : World) (n : Nat) (hn : n = L.length) (hn2 : n ≤ 12) (h : Rd w w.heap.size 7 v n (L.flatMap cB))
    (h1 : 1 ≤ a) (h2 : a ≤ b) (h3 : b ≤ 60) (hL : ∀ r ∈ L, 1 ≤ r.mn ∧ r.mn ≤ r.mx ∧ r.mx ≤ 60)
    (hg : w.cell? ⟨g, 2, none⟩ = some (.pointer (some ⟨cb, 0, none⟩))) (hc : w.cell? ⟨cb, 0, none⟩ = some v) (hf : w.frozen? ⟨cb, 0, none⟩ = false) :
    Calls Try.prog 32 #[.pointer (some ⟨g, 0, none⟩), .int .i64 a, .int .i64 b, .bool shown] w fun e w' => e = .returned (.tuple #[]) ∧ SetPost w cb (outerF repV (runV a b shown) L) w' := by
  have hgl := World.block_lt_of_cell? w _ hg
  have hcl := World.block_lt_of_cell? w _ hc
  simp only at hgl hcl
  have hgA : ∀ o, (w.alloc o).cell? ⟨g, 2, none⟩ = some (.pointer (some ⟨cb, 0, none⟩)) := fun o => (World.cell?_alloc_lt w o _ hgl).trans hg
  have hcA : ∀ o, (w.alloc o).cell? ⟨cb, 0, none⟩ = some v := fun o => (World.cell?_alloc_lt w o _ hcl).trans hc
  have hfA : ∀ o, (w.alloc o).frozen? ⟨cb, 0, none⟩ = false := fun o => (World.frozen?_alloc_past o _ _ hcl).trans hf
  have HN := Lib.hid hn; clear hn
  go_enter Try.func32, Try.ntmps32
  go_wp2_with fail
  obtain ⟨W, hW⟩ : ∃ W : World, W = w.alloc (.cells (cB (runV a b shown)).toArray 68) := ⟨_, rfl⟩
  have hS : W.cell? ⟨g, 2, none⟩ = some (.pointer (some ⟨cb, 0, none⟩)) ∧ W.cell? ⟨cb, 0, none⟩ = some v := by rw [hW]; exact ⟨hgA _, hcA _⟩
  have hX : Blk W w.heap.size 68 (cB (runV a b shown)) := by rw [hW]; exact Blk.new _ _ _
  have hF : W.frozen? ⟨cb, 0, none⟩ = false := by rw [hW]; exact hfA _
  have hR : Rd W W.heap.size 7 v n (L.flatMap cB) := by rw [hW]; exact (h.below ((Below.refl _ _).alloc (Nat.le_refl _) _)).more (by simp)
  have hB : Below w.heap.size w W := by rw [hW]; exact (Below.refl _ _).alloc (Nat.le_refl _) _
  have hgW : g < W.heap.size ∧ cb < W.heap.size := ⟨by have := hB.size; omega, by have := hB.size; omega⟩
  have hXc := hX.cellB
  have hXl := hX.lt
  change Code.wp _ _ _ _ (w.alloc (.cells (cB (runV a b shown)).toArray 68))
  rw [← hW]
  clear hW hgA hcA hfA hg hc hf hX
  obtain ⟨x0, x1, x2, x3, x4, x5, x6⟩ := hXc
  obtain ⟨hg, hc⟩ := hS
  obtain ⟨hgW, hcW⟩ := hgW
  go_region_with (go_at_call 36; refine (flatV_lit (runV a b shown) v L _ n HN.out hn2 ?_ h1 h2 h3 hL).mono ?_; (· exact hR); rintro e w1 ⟨A', m', c', rfl, hown, hb⟩; have hg1 := (hb.cell (p := ⟨g, 2, none⟩) hgW).trans hg; have hc1 := (hb.cell (p := ⟨cb, 0, none⟩) hcW).trans hc; have hf1 := (hb.frozen (p := ⟨cb, 0, none⟩) hcW).trans hF; have HO := Lib.hid hown; have HB := Lib.hid hb; clear hown hb)
  all_goals
    have HP := SetPost.mk' (cb := cb) HO.out HB.out hB.drew
    clear hg1 hc1 hf1
    go_wp2
    go_end0
    exact ⟨rfl, HP⟩
end Go.Proofs.Ytdobgmeibccjnaa.Ln
