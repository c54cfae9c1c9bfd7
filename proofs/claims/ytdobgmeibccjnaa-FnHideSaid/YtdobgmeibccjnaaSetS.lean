/- Giving columns a style puts the flattened list in place, for at most 12 runs within 60 columns. -/
import Derived.Test.YtdobgmeibccjnaaSetDefs
namespace Go.Proofs.Ytdobgmeibccjnaa.Ln
open Go.RowKit
attribute [local go_sem] run_store_float

set_option maxHeartbeats 1600000 in
set_option maxRecDepth 100000 in
theorem setStyle_any (a b style : Int) (g cb : Nat) (v : Value) (L : List Run) (w : World) (n : Nat) (hn : n = L.length) (hn2 : n ≤ 12) (h : Rd w w.heap.size 7 v n (L.flatMap cB))
    (h1 : 1 ≤ a) (h2 : a ≤ b) (h3 : b ≤ 60) (hL : ∀ r ∈ L, 1 ≤ r.mn ∧ r.mn ≤ r.mx ∧ r.mx ≤ 60)
    (hg : w.cell? ⟨g, 2, none⟩ = some (.pointer (some ⟨cb, 0, none⟩))) (hc : w.cell? ⟨cb, 0, none⟩ = some v) (hF : w.frozen? ⟨cb, 0, none⟩ = false) :
    Calls Try.prog 34 #[.pointer (some ⟨g, 0, none⟩), .int .i64 a, .int .i64 b, .int .i64 style] w fun e w' => e = .returned (.tuple #[]) ∧ SetPost w cb (outerF repS (runS a b style) L) w' := by
  have hgW := World.block_lt_of_cell? w _ hg
  have hcW := World.block_lt_of_cell? w _ hc
  simp only at hgW hcW
  have HN := Lib.hid hn; clear hn
  go_enter Try.func34, Try.ntmps34
  go_wp2_with fail
  go_region_with (go_at_call 36; refine (flatS_lit (runS a b style) v L _ n HN.out hn2 ?_ h1 h2 h3 hL).mono ?_; (· exact h); rintro e w1 ⟨A', m', c', rfl, hown, hb⟩; have hg1 := (hb.cell (p := ⟨g, 2, none⟩) hgW).trans hg; have hc1 := (hb.cell (p := ⟨cb, 0, none⟩) hcW).trans hc; have hf1 := (hb.frozen (p := ⟨cb, 0, none⟩) hcW).trans hF; have HO := Lib.hid hown; have HB := Lib.hid hb; clear hown hb)
  all_goals
    have HP := SetPost.mk' (cb := cb) HO.out HB.out (Below.refl w.heap.size w).drew
    clear hg1 hc1 hf1
    go_wp2
    go_end0
    exact ⟨rfl, HP⟩

end Go.Proofs.Ytdobgmeibccjnaa.Ln
