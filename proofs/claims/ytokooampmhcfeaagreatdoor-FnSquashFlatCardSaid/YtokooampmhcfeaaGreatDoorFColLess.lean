/- The order of columns: what the closure says; and a plan with two rounds of exchanges. -/
import Derived.Test.YtokooampmhcfeaaGreatDoorFSort
import Derived.Test.YtokooampmhcfeaaGreatDoorFPlan
namespace Go.Proofs.YtokooampmhcfeaaGreatDoor.Rg
open Go.RowKit Go.Maps

set_option maxHeartbeats 1600000 in
set_option maxRecDepth 100000 in
theorem col_less_any (O blk m c i j : Nat) (ci cj : Int) (w : World) (hO : w.cell? ⟨O, 0, none⟩ = some (.slice (some ⟨blk, 0, none⟩) m c))
    (hi : i < m) (hj : j < m) (di : w.cell? ⟨blk, i * 2, none⟩ = some (.int .i64 ci)) (dj : w.cell? ⟨blk, j * 2, none⟩ = some (.int .i64 cj)) :
    Calls Tryz.prog 28 #[.int .i64 i, .int .i64 j, .pointer (some ⟨O, 0, none⟩)] w fun e w' => e = .returned (.bool (decide (ci < cj))) ∧ ∃ q, w' = w.drewN q := by
  have i0 : (0 : Int) ≤ (i : Int) := by omega
  have i1 : (i : Int) < (m : Int) := by omega
  have j0 : (0 : Int) ≤ (j : Int) := by omega
  have j1 : (j : Int) < (m : Int) := by omega
  go_enter Tryz.func28, Tryz.ntmps28
  go_wp2
  go_quiet (fail)
  go_wp2
  go_ret
  exact ⟨rfl, _, rfl⟩

theorem wp_region_late2 {P : Program} {Q : Exit → Act → World → Prop} {S : World → Prop} {id : Nat} {l : List Oper} {a : Act} {w : World} (ms ms' : List Bool) (fs : List Bool) (hm : P.follows .mixedOrders = true)
    (hB : (Region.noSelect l.toArray && planL l.toArray (l.length - 1) (fs.zip (swaps ms' (swaps ms (List.range l.length)))) (Array.replicate l.toArray.size false) && decide (fs.length = (swaps ms' (swaps ms l)).length) && decide ((swaps ms' (swaps ms l)).length = l.toArray.size)) = true)
    (hidx : (swaps ms' (swaps ms (List.range l.length))).map (fun i => l.toArray[i]?) = (swaps ms' (swaps ms l)).map some)
    (hQ : ∀ d v c a w, Q (.panic c) (Act.put a d v) w → Q (.panic c) a w) (hS : S w.drew)
    (h : wpSeqT P l.toArray Q S fs (swaps ms' (swaps ms l)) a w.drew) : (Code.region id l.toArray true).wp P Q a w := by
  simp only [Bool.and_eq_true, decide_eq_true_eq] at hB
  obtain ⟨⟨⟨h1, h2⟩, h3⟩, h4⟩ := hB
  refine wp_region_any hm (any_of_last (S := S) (l.length - 1) _ _ _ _ ?_)
  have hsh : Shutl l.toArray (Array.replicate l.toArray.size false) := by
    intro m om _ hl
    exfalso
    simp only [Array.getD_eq_getD_getElem?, Array.getElem?_replicate] at hl
    split at hl <;> simp at hl
  have hh := late_of_plan (l.length - 1) h1 hQ fs _ _ h3 hidx (Array.replicate l.toArray.size false) a w.drew hsh h2 (fun _ => hS) h
  rw [h4] at hh
  exact hh
end Go.Proofs.YtokooampmhcfeaaGreatDoor.Rg
