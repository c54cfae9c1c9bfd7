/- The package's own test whether two areas overlap answers as the corners say. -/
import Derived.Test.YtokooampmhcfeaaDoorRMerge
import Derived.Test.YtokooampmhcfeaaDoorRPlan
namespace Go.Proofs.YtokooampmhcfeaaDoor.Rg
open Go.RowKit

/-- Loads and moves yield the same in every world; the rows and the calls come up alone. -/
def ovF : List Bool := [true, true, true, true, true, true, true, false, false, true, true, true, true, true, true, true, true, false, false, true, true, true, true, true, true, true, true, true, false, false, true, true, true, true, true, true, true, true, true, false, false, true, true, true, true, true, true, true, true, true, false, false, true, true, true, true, true, true, true, true, true, false, false, true, true, true, true, true, true, true, true, true, false, false, true, true, true, true, true, true, true, true, true, false, false, true, true]
def ovM : List Bool := [false, false, false, false, false, false, true, false, false, false, false, false, false, false, false, false, true, false, false, false, false, false, false, false, false, false, false, true, false, false, false, false, false, false, false, false, false, false, true, false, false, false, false, false, false, false, false, false, false, true, false, false, false, false, false, false, false, false, false, false, true, false, false, false, false, false, false, false, false, false, false, true, false, false, false, false, false, false, false, false, false, false, true, false, false, false, false]

/-- The great region of a text. -/
def greatRegion : Code → Option (List Oper)
  | .region _ ops _ => if 50 ≤ ops.size then some ops.toList else none
  | .seq a b => (greatRegion a).orElse fun _ => greatRegion b
  | .block _ c => greatRegion c
  | .loop c => greatRegion c
  | .scope c => greatRegion c
  | .cond _ a b => (greatRegion a).orElse fun _ => greatRegion b
  | _ => none
noncomputable def ovOps : List Oper := (Tryd.f49.body.bind greatRegion).getD []

set_option maxRecDepth 100000 in
theorem ov_plan (l : List Oper) (h : l = ovOps) : (Region.noSelect l.toArray && planB l.toArray (ovF.zip (swaps ovM (List.range l.length))) (Array.replicate l.toArray.size false) && decide (ovF.length = (swaps ovM l).length) && decide ((swaps ovM l).length = l.toArray.size)) = true := by
  subst h
  kernel_rfl
set_option maxRecDepth 100000 in
theorem ov_idx (l : List Oper) (h : l = ovOps) : (swaps ovM (List.range l.length)).map (fun i => l.toArray[i]?) = (swaps ovM l).map some := by
  subst h
  kernel_rfl

set_option maxHeartbeats 6400000 in
set_option maxRecDepth 100000 in
theorem ov_1 (a0 a1 a2 a3 b0 b1 b2 b3 : Int) (ga gb ka kb : Nat) (w : World) (h : SS w ga gb a0 a1 a2 a3 b0 b1 b2 b3 w)
    (H1 : Hid (∀ (d k : Nat) (w' : World), SS w ga gb a0 a1 a2 a3 b0 b1 b2 b3 w' → w'.cell? ⟨d, 0, none⟩ = some (.int .i64 a0) → w'.cell? ⟨d, 1, none⟩ = some (.int .i64 a1) → Calls Tryd.prog 57 #[.slice (some ⟨d, 0, none⟩) 2 k, .slice (some ⟨gb, 0, none⟩) 4 kb] w' fun e w'' => e = .returned (.bool true) ∧ SS w ga gb a0 a1 a2 a3 b0 b1 b2 b3 w'')) :
    Calls Tryd.prog 49 #[.slice (some ⟨ga, 0, none⟩) 4 ka, .slice (some ⟨gb, 0, none⟩) 4 kb] w fun e w' => e = .returned (.bool true) ∧ Below w.heap.size w w' := by
  have hS : SS w ga gb a0 a1 a2 a3 b0 b1 b2 b3 w.drew := h.later (Below.refl _ _).drew
  clear h
  go_enter Tryd.func49, Tryd.ntmps49
  go_wp2_with fail
  simp only [List.append_eq, List.cons_append, List.nil_append]
  refine wp_region_plan ovM ovF (S := SS w ga gb a0 a1 a2 a3 b0 b1 b2 b3) (by kernel_rfl) (ov_plan _ (by kernel_rfl)) (ov_idx _ (by kernel_rfl)) (fun d _ _ _ _ h => by cases d <;> exact h) hS ?_
  unfold ovM ovF
  simp only [swaps]
  refine seq_take (v := ?_) (by rfl) ?_ ?_
  rotate_left
  · intro w' hSw
    obtain ⟨_, c0, c1, c2, c3, d0, d1, d2, d3⟩ := hSw
    go_simp
    try (with_reducible rfl)
  try simp only [Act.put, List.setIfInBounds_toArray, List.set_cons_zero, List.set_cons_succ]
  refine seq_take (v := ?_) (by rfl) ?_ ?_
  rotate_left
  · intro w' hSw
    obtain ⟨_, c0, c1, c2, c3, d0, d1, d2, d3⟩ := hSw
    go_simp
    try (with_reducible rfl)
  try simp only [Act.put, List.setIfInBounds_toArray, List.set_cons_zero, List.set_cons_succ]
  refine seq_take (v := ?_) (by rfl) ?_ ?_
  rotate_left
  · intro w' hSw
    obtain ⟨_, c0, c1, c2, c3, d0, d1, d2, d3⟩ := hSw
    go_simp
    try (with_reducible rfl)
  try simp only [Act.put, List.setIfInBounds_toArray, List.set_cons_zero, List.set_cons_succ]
  refine seq_take (v := ?_) (by rfl) ?_ ?_
  rotate_left
  · intro w' hSw
    obtain ⟨_, c0, c1, c2, c3, d0, d1, d2, d3⟩ := hSw
    go_simp
    try (with_reducible rfl)
  try simp only [Act.put, List.setIfInBounds_toArray, List.set_cons_zero, List.set_cons_succ]
  refine seq_take (v := ?_) (by rfl) ?_ ?_
  rotate_left
  · intro w' hSw
    obtain ⟨_, c0, c1, c2, c3, d0, d1, d2, d3⟩ := hSw
    go_simp
    try (with_reducible rfl)
  try simp only [Act.put, List.setIfInBounds_toArray, List.set_cons_zero, List.set_cons_succ]
  refine seq_take (v := ?_) (by rfl) ?_ ?_
  rotate_left
  · intro w' hSw
    obtain ⟨_, c0, c1, c2, c3, d0, d1, d2, d3⟩ := hSw
    go_simp
    try (with_reducible rfl)
  try simp only [Act.put, List.setIfInBounds_toArray, List.set_cons_zero, List.set_cons_succ]
  refine seq_take (v := ?_) (by rfl) ?_ ?_
  rotate_left
  · intro w' hSw
    obtain ⟨_, c0, c1, c2, c3, d0, d1, d2, d3⟩ := hSw
    go_simp
    try (with_reducible rfl)
  try simp only [Act.put, List.setIfInBounds_toArray, List.set_cons_zero, List.set_cons_succ]
  refine seq_solo (by rfl) (fun K hK => ?_)
  go_simp
  refine hK.out _ _ (hS.later ((Below.refl _ _).alloc (Nat.le_refl _) _)) (fun hS1 => ?_)
  clear hK K
  try simp only [Act.put, List.setIfInBounds_toArray, List.set_cons_zero, List.set_cons_succ]
  refine seq_solo (by rfl) (fun K hK => ?_)
  go_simp
  refine (H1.out _ _ _ hS1 (by simp [go_sem]) (by simp [go_sem])).mono ?_
  rintro e w1 ⟨rfl, hT1⟩
  clear hS
  have hS := hT1
  clear hS1 hT1
  refine hK.out _ _ hS (fun _ => ?_)
  clear hK K
  try simp only [Act.put, List.setIfInBounds_toArray, List.set_cons_zero, List.set_cons_succ]
  refine seq_take (v := ?_) (by rfl) ?_ ?_
  rotate_left
  · intro w' hSw
    obtain ⟨_, c0, c1, c2, c3, d0, d1, d2, d3⟩ := hSw
    go_simp
    try (with_reducible rfl)
  try simp only [Act.put, List.setIfInBounds_toArray, List.set_cons_zero, List.set_cons_succ]
  refine seq_skips 9 14 false _ rfl rfl 9 (by kernel_rfl) rfl (by simp) ?_
  simp only [skipsA, List.drop_succ_cons, List.drop_zero]
  try simp only [Act.put, List.setIfInBounds_toArray, List.set_cons_zero, List.set_cons_succ]
  refine seq_take (v := ?_) (by rfl) ?_ ?_
  rotate_left
  · intro w' hSw
    obtain ⟨_, c0, c1, c2, c3, d0, d1, d2, d3⟩ := hSw
    go_simp
    try (with_reducible rfl)
  try simp only [Act.put, List.setIfInBounds_toArray, List.set_cons_zero, List.set_cons_succ]
  refine seq_take (v := ?_) (by rfl) ?_ ?_
  rotate_left
  · intro w' hSw
    obtain ⟨_, c0, c1, c2, c3, d0, d1, d2, d3⟩ := hSw
    go_simp
    try (with_reducible rfl)
  try simp only [Act.put, List.setIfInBounds_toArray, List.set_cons_zero, List.set_cons_succ]
  refine seq_skips 20 25 false _ rfl rfl 9 (by kernel_rfl) rfl (by simp) ?_
  simp only [skipsA, List.drop_succ_cons, List.drop_zero]
  try simp only [Act.put, List.setIfInBounds_toArray, List.set_cons_zero, List.set_cons_succ]
  refine seq_take (v := ?_) (by rfl) ?_ ?_
  rotate_left
  · intro w' hSw
    obtain ⟨_, c0, c1, c2, c3, d0, d1, d2, d3⟩ := hSw
    go_simp
    try (with_reducible rfl)
  try simp only [Act.put, List.setIfInBounds_toArray, List.set_cons_zero, List.set_cons_succ]
  refine seq_take (v := ?_) (by rfl) ?_ ?_
  rotate_left
  · intro w' hSw
    obtain ⟨_, c0, c1, c2, c3, d0, d1, d2, d3⟩ := hSw
    go_simp
    try (with_reducible rfl)
  try simp only [Act.put, List.setIfInBounds_toArray, List.set_cons_zero, List.set_cons_succ]
  refine seq_skips 31 36 false _ rfl rfl 9 (by kernel_rfl) rfl (by simp) ?_
  simp only [skipsA, List.drop_succ_cons, List.drop_zero]
  try simp only [Act.put, List.setIfInBounds_toArray, List.set_cons_zero, List.set_cons_succ]
  refine seq_take (v := ?_) (by rfl) ?_ ?_
  rotate_left
  · intro w' hSw
    obtain ⟨_, c0, c1, c2, c3, d0, d1, d2, d3⟩ := hSw
    go_simp
    try (with_reducible rfl)
  try simp only [Act.put, List.setIfInBounds_toArray, List.set_cons_zero, List.set_cons_succ]
  refine seq_take (v := ?_) (by rfl) ?_ ?_
  rotate_left
  · intro w' hSw
    obtain ⟨_, c0, c1, c2, c3, d0, d1, d2, d3⟩ := hSw
    go_simp
    try (with_reducible rfl)
  try simp only [Act.put, List.setIfInBounds_toArray, List.set_cons_zero, List.set_cons_succ]
  refine seq_skips 42 47 false _ rfl rfl 9 (by kernel_rfl) rfl (by simp) ?_
  simp only [skipsA, List.drop_succ_cons, List.drop_zero]
  try simp only [Act.put, List.setIfInBounds_toArray, List.set_cons_zero, List.set_cons_succ]
  refine seq_take (v := ?_) (by rfl) ?_ ?_
  rotate_left
  · intro w' hSw
    obtain ⟨_, c0, c1, c2, c3, d0, d1, d2, d3⟩ := hSw
    go_simp
    try (with_reducible rfl)
  try simp only [Act.put, List.setIfInBounds_toArray, List.set_cons_zero, List.set_cons_succ]
  refine seq_take (v := ?_) (by rfl) ?_ ?_
  rotate_left
  · intro w' hSw
    obtain ⟨_, c0, c1, c2, c3, d0, d1, d2, d3⟩ := hSw
    go_simp
    try (with_reducible rfl)
  try simp only [Act.put, List.setIfInBounds_toArray, List.set_cons_zero, List.set_cons_succ]
  refine seq_skips 53 58 false _ rfl rfl 9 (by kernel_rfl) rfl (by simp) ?_
  simp only [skipsA, List.drop_succ_cons, List.drop_zero]
  try simp only [Act.put, List.setIfInBounds_toArray, List.set_cons_zero, List.set_cons_succ]
  refine seq_take (v := ?_) (by rfl) ?_ ?_
  rotate_left
  · intro w' hSw
    obtain ⟨_, c0, c1, c2, c3, d0, d1, d2, d3⟩ := hSw
    go_simp
    try (with_reducible rfl)
  try simp only [Act.put, List.setIfInBounds_toArray, List.set_cons_zero, List.set_cons_succ]
  refine seq_take (v := ?_) (by rfl) ?_ ?_
  rotate_left
  · intro w' hSw
    obtain ⟨_, c0, c1, c2, c3, d0, d1, d2, d3⟩ := hSw
    go_simp
    try (with_reducible rfl)
  try simp only [Act.put, List.setIfInBounds_toArray, List.set_cons_zero, List.set_cons_succ]
  refine seq_skips 64 69 false _ rfl rfl 9 (by kernel_rfl) rfl (by simp) ?_
  simp only [skipsA, List.drop_succ_cons, List.drop_zero]
  try simp only [Act.put, List.setIfInBounds_toArray, List.set_cons_zero, List.set_cons_succ]
  refine seq_take (v := ?_) (by rfl) ?_ ?_
  rotate_left
  · intro w' hSw
    obtain ⟨_, c0, c1, c2, c3, d0, d1, d2, d3⟩ := hSw
    go_simp
    try (with_reducible rfl)
  try simp only [Act.put, List.setIfInBounds_toArray, List.set_cons_zero, List.set_cons_succ]
  refine seq_take (v := ?_) (by rfl) ?_ ?_
  rotate_left
  · intro w' hSw
    obtain ⟨_, c0, c1, c2, c3, d0, d1, d2, d3⟩ := hSw
    go_simp
    try (with_reducible rfl)
  try simp only [Act.put, List.setIfInBounds_toArray, List.set_cons_zero, List.set_cons_succ]
  refine seq_skips 75 80 false _ rfl rfl 9 (by kernel_rfl) rfl (by simp) ?_
  simp only [skipsA, List.drop_succ_cons, List.drop_zero]
  try simp only [Act.put, List.setIfInBounds_toArray, List.set_cons_zero, List.set_cons_succ]
  refine seq_take (v := ?_) (by rfl) ?_ ?_
  rotate_left
  · intro w' hSw
    obtain ⟨_, c0, c1, c2, c3, d0, d1, d2, d3⟩ := hSw
    go_simp
    try (with_reducible rfl)
  try simp only [Act.put, List.setIfInBounds_toArray, List.set_cons_zero, List.set_cons_succ]
  refine seq_take (v := ?_) (by rfl) ?_ ?_
  rotate_left
  · intro w' hSw
    obtain ⟨_, c0, c1, c2, c3, d0, d1, d2, d3⟩ := hSw
    go_simp
    try (with_reducible rfl)
  try simp only [Act.put, List.setIfInBounds_toArray, List.set_cons_zero, List.set_cons_succ]
  refine seq_done ?_
  go_wp2
  go_ret
  exact ⟨rfl, hS.1⟩

set_option maxHeartbeats 6400000 in
set_option maxRecDepth 100000 in
theorem ov_2 (a0 a1 a2 a3 b0 b1 b2 b3 : Int) (ga gb ka kb : Nat) (w : World) (h : SS w ga gb a0 a1 a2 a3 b0 b1 b2 b3 w)
    (H1 : Hid (∀ (d k : Nat) (w' : World), SS w ga gb a0 a1 a2 a3 b0 b1 b2 b3 w' → w'.cell? ⟨d, 0, none⟩ = some (.int .i64 a0) → w'.cell? ⟨d, 1, none⟩ = some (.int .i64 a1) → Calls Tryd.prog 57 #[.slice (some ⟨d, 0, none⟩) 2 k, .slice (some ⟨gb, 0, none⟩) 4 kb] w' fun e w'' => e = .returned (.bool false) ∧ SS w ga gb a0 a1 a2 a3 b0 b1 b2 b3 w''))
    (H2 : Hid (∀ (d k : Nat) (w' : World), SS w ga gb a0 a1 a2 a3 b0 b1 b2 b3 w' → w'.cell? ⟨d, 0, none⟩ = some (.int .i64 a2) → w'.cell? ⟨d, 1, none⟩ = some (.int .i64 a1) → Calls Tryd.prog 57 #[.slice (some ⟨d, 0, none⟩) 2 k, .slice (some ⟨gb, 0, none⟩) 4 kb] w' fun e w'' => e = .returned (.bool true) ∧ SS w ga gb a0 a1 a2 a3 b0 b1 b2 b3 w'')) :
    Calls Tryd.prog 49 #[.slice (some ⟨ga, 0, none⟩) 4 ka, .slice (some ⟨gb, 0, none⟩) 4 kb] w fun e w' => e = .returned (.bool true) ∧ Below w.heap.size w w' := by
  have hS : SS w ga gb a0 a1 a2 a3 b0 b1 b2 b3 w.drew := h.later (Below.refl _ _).drew
  clear h
  go_enter Tryd.func49, Tryd.ntmps49
  go_wp2_with fail
  simp only [List.append_eq, List.cons_append, List.nil_append]
  refine wp_region_plan ovM ovF (S := SS w ga gb a0 a1 a2 a3 b0 b1 b2 b3) (by kernel_rfl) (ov_plan _ (by kernel_rfl)) (ov_idx _ (by kernel_rfl)) (fun d _ _ _ _ h => by cases d <;> exact h) hS ?_
  unfold ovM ovF
  simp only [swaps]
  refine seq_take (v := ?_) (by rfl) ?_ ?_
  rotate_left
  · intro w' hSw
    obtain ⟨_, c0, c1, c2, c3, d0, d1, d2, d3⟩ := hSw
    go_simp
    try (with_reducible rfl)
  try simp only [Act.put, List.setIfInBounds_toArray, List.set_cons_zero, List.set_cons_succ]
  refine seq_take (v := ?_) (by rfl) ?_ ?_
  rotate_left
  · intro w' hSw
    obtain ⟨_, c0, c1, c2, c3, d0, d1, d2, d3⟩ := hSw
    go_simp
    try (with_reducible rfl)
  try simp only [Act.put, List.setIfInBounds_toArray, List.set_cons_zero, List.set_cons_succ]
  refine seq_take (v := ?_) (by rfl) ?_ ?_
  rotate_left
  · intro w' hSw
    obtain ⟨_, c0, c1, c2, c3, d0, d1, d2, d3⟩ := hSw
    go_simp
    try (with_reducible rfl)
  try simp only [Act.put, List.setIfInBounds_toArray, List.set_cons_zero, List.set_cons_succ]
  refine seq_take (v := ?_) (by rfl) ?_ ?_
  rotate_left
  · intro w' hSw
    obtain ⟨_, c0, c1, c2, c3, d0, d1, d2, d3⟩ := hSw
    go_simp
    try (with_reducible rfl)
  try simp only [Act.put, List.setIfInBounds_toArray, List.set_cons_zero, List.set_cons_succ]
  refine seq_take (v := ?_) (by rfl) ?_ ?_
  rotate_left
  · intro w' hSw
    obtain ⟨_, c0, c1, c2, c3, d0, d1, d2, d3⟩ := hSw
    go_simp
    try (with_reducible rfl)
  try simp only [Act.put, List.setIfInBounds_toArray, List.set_cons_zero, List.set_cons_succ]
  refine seq_take (v := ?_) (by rfl) ?_ ?_
  rotate_left
  · intro w' hSw
    obtain ⟨_, c0, c1, c2, c3, d0, d1, d2, d3⟩ := hSw
    go_simp
    try (with_reducible rfl)
  try simp only [Act.put, List.setIfInBounds_toArray, List.set_cons_zero, List.set_cons_succ]
  refine seq_take (v := ?_) (by rfl) ?_ ?_
  rotate_left
  · intro w' hSw
    obtain ⟨_, c0, c1, c2, c3, d0, d1, d2, d3⟩ := hSw
    go_simp
    try (with_reducible rfl)
  try simp only [Act.put, List.setIfInBounds_toArray, List.set_cons_zero, List.set_cons_succ]
  refine seq_solo (by rfl) (fun K hK => ?_)
  go_simp
  refine hK.out _ _ (hS.later ((Below.refl _ _).alloc (Nat.le_refl _) _)) (fun hS1 => ?_)
  clear hK K
  try simp only [Act.put, List.setIfInBounds_toArray, List.set_cons_zero, List.set_cons_succ]
  refine seq_solo (by rfl) (fun K hK => ?_)
  go_simp
  refine (H1.out _ _ _ hS1 (by simp [go_sem]) (by simp [go_sem])).mono ?_
  rintro e w1 ⟨rfl, hT1⟩
  clear hS
  have hS := hT1
  clear hS1 hT1
  refine hK.out _ _ hS (fun _ => ?_)
  clear hK K
  try simp only [Act.put, List.setIfInBounds_toArray, List.set_cons_zero, List.set_cons_succ]
  refine seq_take (v := ?_) (by rfl) ?_ ?_
  rotate_left
  · intro w' hSw
    obtain ⟨_, c0, c1, c2, c3, d0, d1, d2, d3⟩ := hSw
    go_simp
    try (with_reducible rfl)
  try simp only [Act.put, List.setIfInBounds_toArray, List.set_cons_zero, List.set_cons_succ]
  refine seq_take (v := ?_) (by rfl) ?_ ?_
  rotate_left
  · intro w' hSw
    obtain ⟨_, c0, c1, c2, c3, d0, d1, d2, d3⟩ := hSw
    go_simp
    try (with_reducible rfl)
  try simp only [Act.put, List.setIfInBounds_toArray, List.set_cons_zero, List.set_cons_succ]
  refine seq_take (v := ?_) (by rfl) ?_ ?_
  rotate_left
  · intro w' hSw
    obtain ⟨_, c0, c1, c2, c3, d0, d1, d2, d3⟩ := hSw
    go_simp
    try (with_reducible rfl)
  try simp only [Act.put, List.setIfInBounds_toArray, List.set_cons_zero, List.set_cons_succ]
  refine seq_take (v := ?_) (by rfl) ?_ ?_
  rotate_left
  · intro w' hSw
    obtain ⟨_, c0, c1, c2, c3, d0, d1, d2, d3⟩ := hSw
    go_simp
    try (with_reducible rfl)
  try simp only [Act.put, List.setIfInBounds_toArray, List.set_cons_zero, List.set_cons_succ]
  refine seq_take (v := ?_) (by rfl) ?_ ?_
  rotate_left
  · intro w' hSw
    obtain ⟨_, c0, c1, c2, c3, d0, d1, d2, d3⟩ := hSw
    go_simp
    try (with_reducible rfl)
  try simp only [Act.put, List.setIfInBounds_toArray, List.set_cons_zero, List.set_cons_succ]
  refine seq_take (v := ?_) (by rfl) ?_ ?_
  rotate_left
  · intro w' hSw
    obtain ⟨_, c0, c1, c2, c3, d0, d1, d2, d3⟩ := hSw
    go_simp
    try (with_reducible rfl)
  try simp only [Act.put, List.setIfInBounds_toArray, List.set_cons_zero, List.set_cons_succ]
  refine seq_take (v := ?_) (by rfl) ?_ ?_
  rotate_left
  · intro w' hSw
    obtain ⟨_, c0, c1, c2, c3, d0, d1, d2, d3⟩ := hSw
    go_simp
    try (with_reducible rfl)
  try simp only [Act.put, List.setIfInBounds_toArray, List.set_cons_zero, List.set_cons_succ]
  refine seq_take (v := ?_) (by rfl) ?_ ?_
  rotate_left
  · intro w' hSw
    obtain ⟨_, c0, c1, c2, c3, d0, d1, d2, d3⟩ := hSw
    go_simp
    try (with_reducible rfl)
  try simp only [Act.put, List.setIfInBounds_toArray, List.set_cons_zero, List.set_cons_succ]
  refine seq_solo (by rfl) (fun K hK => ?_)
  go_simp
  refine hK.out _ _ (hS.later ((Below.refl _ _).alloc (Nat.le_refl _) _)) (fun hS2 => ?_)
  clear hK K
  try simp only [Act.put, List.setIfInBounds_toArray, List.set_cons_zero, List.set_cons_succ]
  refine seq_solo (by rfl) (fun K hK => ?_)
  go_simp
  refine (H2.out _ _ _ hS2 (by simp [go_sem]) (by simp [go_sem])).mono ?_
  rintro e w2 ⟨rfl, hT2⟩
  clear hS
  have hS := hT2
  clear hS2 hT2
  refine hK.out _ _ hS (fun _ => ?_)
  clear hK K
  try simp only [Act.put, List.setIfInBounds_toArray, List.set_cons_zero, List.set_cons_succ]
  refine seq_take (v := ?_) (by rfl) ?_ ?_
  rotate_left
  · intro w' hSw
    obtain ⟨_, c0, c1, c2, c3, d0, d1, d2, d3⟩ := hSw
    go_simp
    try (with_reducible rfl)
  try simp only [Act.put, List.setIfInBounds_toArray, List.set_cons_zero, List.set_cons_succ]
  refine seq_take (v := ?_) (by rfl) ?_ ?_
  rotate_left
  · intro w' hSw
    obtain ⟨_, c0, c1, c2, c3, d0, d1, d2, d3⟩ := hSw
    go_simp
    try (with_reducible rfl)
  try simp only [Act.put, List.setIfInBounds_toArray, List.set_cons_zero, List.set_cons_succ]
  refine seq_skips 20 25 false _ rfl rfl 9 (by kernel_rfl) rfl (by simp) ?_
  simp only [skipsA, List.drop_succ_cons, List.drop_zero]
  try simp only [Act.put, List.setIfInBounds_toArray, List.set_cons_zero, List.set_cons_succ]
  refine seq_take (v := ?_) (by rfl) ?_ ?_
  rotate_left
  · intro w' hSw
    obtain ⟨_, c0, c1, c2, c3, d0, d1, d2, d3⟩ := hSw
    go_simp
    try (with_reducible rfl)
  try simp only [Act.put, List.setIfInBounds_toArray, List.set_cons_zero, List.set_cons_succ]
  refine seq_take (v := ?_) (by rfl) ?_ ?_
  rotate_left
  · intro w' hSw
    obtain ⟨_, c0, c1, c2, c3, d0, d1, d2, d3⟩ := hSw
    go_simp
    try (with_reducible rfl)
  try simp only [Act.put, List.setIfInBounds_toArray, List.set_cons_zero, List.set_cons_succ]
  refine seq_skips 31 36 false _ rfl rfl 9 (by kernel_rfl) rfl (by simp) ?_
  simp only [skipsA, List.drop_succ_cons, List.drop_zero]
  try simp only [Act.put, List.setIfInBounds_toArray, List.set_cons_zero, List.set_cons_succ]
  refine seq_take (v := ?_) (by rfl) ?_ ?_
  rotate_left
  · intro w' hSw
    obtain ⟨_, c0, c1, c2, c3, d0, d1, d2, d3⟩ := hSw
    go_simp
    try (with_reducible rfl)
  try simp only [Act.put, List.setIfInBounds_toArray, List.set_cons_zero, List.set_cons_succ]
  refine seq_take (v := ?_) (by rfl) ?_ ?_
  rotate_left
  · intro w' hSw
    obtain ⟨_, c0, c1, c2, c3, d0, d1, d2, d3⟩ := hSw
    go_simp
    try (with_reducible rfl)
  try simp only [Act.put, List.setIfInBounds_toArray, List.set_cons_zero, List.set_cons_succ]
  refine seq_skips 42 47 false _ rfl rfl 9 (by kernel_rfl) rfl (by simp) ?_
  simp only [skipsA, List.drop_succ_cons, List.drop_zero]
  try simp only [Act.put, List.setIfInBounds_toArray, List.set_cons_zero, List.set_cons_succ]
  refine seq_take (v := ?_) (by rfl) ?_ ?_
  rotate_left
  · intro w' hSw
    obtain ⟨_, c0, c1, c2, c3, d0, d1, d2, d3⟩ := hSw
    go_simp
    try (with_reducible rfl)
  try simp only [Act.put, List.setIfInBounds_toArray, List.set_cons_zero, List.set_cons_succ]
  refine seq_take (v := ?_) (by rfl) ?_ ?_
  rotate_left
  · intro w' hSw
    obtain ⟨_, c0, c1, c2, c3, d0, d1, d2, d3⟩ := hSw
    go_simp
    try (with_reducible rfl)
  try simp only [Act.put, List.setIfInBounds_toArray, List.set_cons_zero, List.set_cons_succ]
  refine seq_skips 53 58 false _ rfl rfl 9 (by kernel_rfl) rfl (by simp) ?_
  simp only [skipsA, List.drop_succ_cons, List.drop_zero]
  try simp only [Act.put, List.setIfInBounds_toArray, List.set_cons_zero, List.set_cons_succ]
  refine seq_take (v := ?_) (by rfl) ?_ ?_
  rotate_left
  · intro w' hSw
    obtain ⟨_, c0, c1, c2, c3, d0, d1, d2, d3⟩ := hSw
    go_simp
    try (with_reducible rfl)
  try simp only [Act.put, List.setIfInBounds_toArray, List.set_cons_zero, List.set_cons_succ]
  refine seq_take (v := ?_) (by rfl) ?_ ?_
  rotate_left
  · intro w' hSw
    obtain ⟨_, c0, c1, c2, c3, d0, d1, d2, d3⟩ := hSw
    go_simp
    try (with_reducible rfl)
  try simp only [Act.put, List.setIfInBounds_toArray, List.set_cons_zero, List.set_cons_succ]
  refine seq_skips 64 69 false _ rfl rfl 9 (by kernel_rfl) rfl (by simp) ?_
  simp only [skipsA, List.drop_succ_cons, List.drop_zero]
  try simp only [Act.put, List.setIfInBounds_toArray, List.set_cons_zero, List.set_cons_succ]
  refine seq_take (v := ?_) (by rfl) ?_ ?_
  rotate_left
  · intro w' hSw
    obtain ⟨_, c0, c1, c2, c3, d0, d1, d2, d3⟩ := hSw
    go_simp
    try (with_reducible rfl)
  try simp only [Act.put, List.setIfInBounds_toArray, List.set_cons_zero, List.set_cons_succ]
  refine seq_take (v := ?_) (by rfl) ?_ ?_
  rotate_left
  · intro w' hSw
    obtain ⟨_, c0, c1, c2, c3, d0, d1, d2, d3⟩ := hSw
    go_simp
    try (with_reducible rfl)
  try simp only [Act.put, List.setIfInBounds_toArray, List.set_cons_zero, List.set_cons_succ]
  refine seq_skips 75 80 false _ rfl rfl 9 (by kernel_rfl) rfl (by simp) ?_
  simp only [skipsA, List.drop_succ_cons, List.drop_zero]
  try simp only [Act.put, List.setIfInBounds_toArray, List.set_cons_zero, List.set_cons_succ]
  refine seq_take (v := ?_) (by rfl) ?_ ?_
  rotate_left
  · intro w' hSw
    obtain ⟨_, c0, c1, c2, c3, d0, d1, d2, d3⟩ := hSw
    go_simp
    try (with_reducible rfl)
  try simp only [Act.put, List.setIfInBounds_toArray, List.set_cons_zero, List.set_cons_succ]
  refine seq_take (v := ?_) (by rfl) ?_ ?_
  rotate_left
  · intro w' hSw
    obtain ⟨_, c0, c1, c2, c3, d0, d1, d2, d3⟩ := hSw
    go_simp
    try (with_reducible rfl)
  try simp only [Act.put, List.setIfInBounds_toArray, List.set_cons_zero, List.set_cons_succ]
  refine seq_done ?_
  go_wp2
  go_ret
  exact ⟨rfl, hS.1⟩

set_option maxHeartbeats 6400000 in
set_option maxRecDepth 100000 in
theorem ov_3 (a0 a1 a2 a3 b0 b1 b2 b3 : Int) (ga gb ka kb : Nat) (w : World) (h : SS w ga gb a0 a1 a2 a3 b0 b1 b2 b3 w)
    (H1 : Hid (∀ (d k : Nat) (w' : World), SS w ga gb a0 a1 a2 a3 b0 b1 b2 b3 w' → w'.cell? ⟨d, 0, none⟩ = some (.int .i64 a0) → w'.cell? ⟨d, 1, none⟩ = some (.int .i64 a1) → Calls Tryd.prog 57 #[.slice (some ⟨d, 0, none⟩) 2 k, .slice (some ⟨gb, 0, none⟩) 4 kb] w' fun e w'' => e = .returned (.bool false) ∧ SS w ga gb a0 a1 a2 a3 b0 b1 b2 b3 w''))
    (H2 : Hid (∀ (d k : Nat) (w' : World), SS w ga gb a0 a1 a2 a3 b0 b1 b2 b3 w' → w'.cell? ⟨d, 0, none⟩ = some (.int .i64 a2) → w'.cell? ⟨d, 1, none⟩ = some (.int .i64 a1) → Calls Tryd.prog 57 #[.slice (some ⟨d, 0, none⟩) 2 k, .slice (some ⟨gb, 0, none⟩) 4 kb] w' fun e w'' => e = .returned (.bool false) ∧ SS w ga gb a0 a1 a2 a3 b0 b1 b2 b3 w''))
    (H3 : Hid (∀ (d k : Nat) (w' : World), SS w ga gb a0 a1 a2 a3 b0 b1 b2 b3 w' → w'.cell? ⟨d, 0, none⟩ = some (.int .i64 a0) → w'.cell? ⟨d, 1, none⟩ = some (.int .i64 a3) → Calls Tryd.prog 57 #[.slice (some ⟨d, 0, none⟩) 2 k, .slice (some ⟨gb, 0, none⟩) 4 kb] w' fun e w'' => e = .returned (.bool true) ∧ SS w ga gb a0 a1 a2 a3 b0 b1 b2 b3 w'')) :
    Calls Tryd.prog 49 #[.slice (some ⟨ga, 0, none⟩) 4 ka, .slice (some ⟨gb, 0, none⟩) 4 kb] w fun e w' => e = .returned (.bool true) ∧ Below w.heap.size w w' := by
  have hS : SS w ga gb a0 a1 a2 a3 b0 b1 b2 b3 w.drew := h.later (Below.refl _ _).drew
  clear h
  go_enter Tryd.func49, Tryd.ntmps49
  go_wp2_with fail
  simp only [List.append_eq, List.cons_append, List.nil_append]
  refine wp_region_plan ovM ovF (S := SS w ga gb a0 a1 a2 a3 b0 b1 b2 b3) (by kernel_rfl) (ov_plan _ (by kernel_rfl)) (ov_idx _ (by kernel_rfl)) (fun d _ _ _ _ h => by cases d <;> exact h) hS ?_
  unfold ovM ovF
  simp only [swaps]
  refine seq_take (v := ?_) (by rfl) ?_ ?_
  rotate_left
  · intro w' hSw
    obtain ⟨_, c0, c1, c2, c3, d0, d1, d2, d3⟩ := hSw
    go_simp
    try (with_reducible rfl)
  try simp only [Act.put, List.setIfInBounds_toArray, List.set_cons_zero, List.set_cons_succ]
  refine seq_take (v := ?_) (by rfl) ?_ ?_
  rotate_left
  · intro w' hSw
    obtain ⟨_, c0, c1, c2, c3, d0, d1, d2, d3⟩ := hSw
    go_simp
    try (with_reducible rfl)
  try simp only [Act.put, List.setIfInBounds_toArray, List.set_cons_zero, List.set_cons_succ]
  refine seq_take (v := ?_) (by rfl) ?_ ?_
  rotate_left
  · intro w' hSw
    obtain ⟨_, c0, c1, c2, c3, d0, d1, d2, d3⟩ := hSw
    go_simp
    try (with_reducible rfl)
  try simp only [Act.put, List.setIfInBounds_toArray, List.set_cons_zero, List.set_cons_succ]
  refine seq_take (v := ?_) (by rfl) ?_ ?_
  rotate_left
  · intro w' hSw
    obtain ⟨_, c0, c1, c2, c3, d0, d1, d2, d3⟩ := hSw
    go_simp
    try (with_reducible rfl)
  try simp only [Act.put, List.setIfInBounds_toArray, List.set_cons_zero, List.set_cons_succ]
  refine seq_take (v := ?_) (by rfl) ?_ ?_
  rotate_left
  · intro w' hSw
    obtain ⟨_, c0, c1, c2, c3, d0, d1, d2, d3⟩ := hSw
    go_simp
    try (with_reducible rfl)
  try simp only [Act.put, List.setIfInBounds_toArray, List.set_cons_zero, List.set_cons_succ]
  refine seq_take (v := ?_) (by rfl) ?_ ?_
  rotate_left
  · intro w' hSw
    obtain ⟨_, c0, c1, c2, c3, d0, d1, d2, d3⟩ := hSw
    go_simp
    try (with_reducible rfl)
  try simp only [Act.put, List.setIfInBounds_toArray, List.set_cons_zero, List.set_cons_succ]
  refine seq_take (v := ?_) (by rfl) ?_ ?_
  rotate_left
  · intro w' hSw
    obtain ⟨_, c0, c1, c2, c3, d0, d1, d2, d3⟩ := hSw
    go_simp
    try (with_reducible rfl)
  try simp only [Act.put, List.setIfInBounds_toArray, List.set_cons_zero, List.set_cons_succ]
  refine seq_solo (by rfl) (fun K hK => ?_)
  go_simp
  refine hK.out _ _ (hS.later ((Below.refl _ _).alloc (Nat.le_refl _) _)) (fun hS1 => ?_)
  clear hK K
  try simp only [Act.put, List.setIfInBounds_toArray, List.set_cons_zero, List.set_cons_succ]
  refine seq_solo (by rfl) (fun K hK => ?_)
  go_simp
  refine (H1.out _ _ _ hS1 (by simp [go_sem]) (by simp [go_sem])).mono ?_
  rintro e w1 ⟨rfl, hT1⟩
  clear hS
  have hS := hT1
  clear hS1 hT1
  refine hK.out _ _ hS (fun _ => ?_)
  clear hK K
  try simp only [Act.put, List.setIfInBounds_toArray, List.set_cons_zero, List.set_cons_succ]
  refine seq_take (v := ?_) (by rfl) ?_ ?_
  rotate_left
  · intro w' hSw
    obtain ⟨_, c0, c1, c2, c3, d0, d1, d2, d3⟩ := hSw
    go_simp
    try (with_reducible rfl)
  try simp only [Act.put, List.setIfInBounds_toArray, List.set_cons_zero, List.set_cons_succ]
  refine seq_take (v := ?_) (by rfl) ?_ ?_
  rotate_left
  · intro w' hSw
    obtain ⟨_, c0, c1, c2, c3, d0, d1, d2, d3⟩ := hSw
    go_simp
    try (with_reducible rfl)
  try simp only [Act.put, List.setIfInBounds_toArray, List.set_cons_zero, List.set_cons_succ]
  refine seq_take (v := ?_) (by rfl) ?_ ?_
  rotate_left
  · intro w' hSw
    obtain ⟨_, c0, c1, c2, c3, d0, d1, d2, d3⟩ := hSw
    go_simp
    try (with_reducible rfl)
  try simp only [Act.put, List.setIfInBounds_toArray, List.set_cons_zero, List.set_cons_succ]
  refine seq_take (v := ?_) (by rfl) ?_ ?_
  rotate_left
  · intro w' hSw
    obtain ⟨_, c0, c1, c2, c3, d0, d1, d2, d3⟩ := hSw
    go_simp
    try (with_reducible rfl)
  try simp only [Act.put, List.setIfInBounds_toArray, List.set_cons_zero, List.set_cons_succ]
  refine seq_take (v := ?_) (by rfl) ?_ ?_
  rotate_left
  · intro w' hSw
    obtain ⟨_, c0, c1, c2, c3, d0, d1, d2, d3⟩ := hSw
    go_simp
    try (with_reducible rfl)
  try simp only [Act.put, List.setIfInBounds_toArray, List.set_cons_zero, List.set_cons_succ]
  refine seq_take (v := ?_) (by rfl) ?_ ?_
  rotate_left
  · intro w' hSw
    obtain ⟨_, c0, c1, c2, c3, d0, d1, d2, d3⟩ := hSw
    go_simp
    try (with_reducible rfl)
  try simp only [Act.put, List.setIfInBounds_toArray, List.set_cons_zero, List.set_cons_succ]
  refine seq_take (v := ?_) (by rfl) ?_ ?_
  rotate_left
  · intro w' hSw
    obtain ⟨_, c0, c1, c2, c3, d0, d1, d2, d3⟩ := hSw
    go_simp
    try (with_reducible rfl)
  try simp only [Act.put, List.setIfInBounds_toArray, List.set_cons_zero, List.set_cons_succ]
  refine seq_take (v := ?_) (by rfl) ?_ ?_
  rotate_left
  · intro w' hSw
    obtain ⟨_, c0, c1, c2, c3, d0, d1, d2, d3⟩ := hSw
    go_simp
    try (with_reducible rfl)
  try simp only [Act.put, List.setIfInBounds_toArray, List.set_cons_zero, List.set_cons_succ]
  refine seq_solo (by rfl) (fun K hK => ?_)
  go_simp
  refine hK.out _ _ (hS.later ((Below.refl _ _).alloc (Nat.le_refl _) _)) (fun hS2 => ?_)
  clear hK K
  try simp only [Act.put, List.setIfInBounds_toArray, List.set_cons_zero, List.set_cons_succ]
  refine seq_solo (by rfl) (fun K hK => ?_)
  go_simp
  refine (H2.out _ _ _ hS2 (by simp [go_sem]) (by simp [go_sem])).mono ?_
  rintro e w2 ⟨rfl, hT2⟩
  clear hS
  have hS := hT2
  clear hS2 hT2
  refine hK.out _ _ hS (fun _ => ?_)
  clear hK K
  try simp only [Act.put, List.setIfInBounds_toArray, List.set_cons_zero, List.set_cons_succ]
  refine seq_take (v := ?_) (by rfl) ?_ ?_
  rotate_left
  · intro w' hSw
    obtain ⟨_, c0, c1, c2, c3, d0, d1, d2, d3⟩ := hSw
    go_simp
    try (with_reducible rfl)
  try simp only [Act.put, List.setIfInBounds_toArray, List.set_cons_zero, List.set_cons_succ]
  refine seq_take (v := ?_) (by rfl) ?_ ?_
  rotate_left
  · intro w' hSw
    obtain ⟨_, c0, c1, c2, c3, d0, d1, d2, d3⟩ := hSw
    go_simp
    try (with_reducible rfl)
  try simp only [Act.put, List.setIfInBounds_toArray, List.set_cons_zero, List.set_cons_succ]
  refine seq_take (v := ?_) (by rfl) ?_ ?_
  rotate_left
  · intro w' hSw
    obtain ⟨_, c0, c1, c2, c3, d0, d1, d2, d3⟩ := hSw
    go_simp
    try (with_reducible rfl)
  try simp only [Act.put, List.setIfInBounds_toArray, List.set_cons_zero, List.set_cons_succ]
  refine seq_take (v := ?_) (by rfl) ?_ ?_
  rotate_left
  · intro w' hSw
    obtain ⟨_, c0, c1, c2, c3, d0, d1, d2, d3⟩ := hSw
    go_simp
    try (with_reducible rfl)
  try simp only [Act.put, List.setIfInBounds_toArray, List.set_cons_zero, List.set_cons_succ]
  refine seq_take (v := ?_) (by rfl) ?_ ?_
  rotate_left
  · intro w' hSw
    obtain ⟨_, c0, c1, c2, c3, d0, d1, d2, d3⟩ := hSw
    go_simp
    try (with_reducible rfl)
  try simp only [Act.put, List.setIfInBounds_toArray, List.set_cons_zero, List.set_cons_succ]
  refine seq_take (v := ?_) (by rfl) ?_ ?_
  rotate_left
  · intro w' hSw
    obtain ⟨_, c0, c1, c2, c3, d0, d1, d2, d3⟩ := hSw
    go_simp
    try (with_reducible rfl)
  try simp only [Act.put, List.setIfInBounds_toArray, List.set_cons_zero, List.set_cons_succ]
  refine seq_take (v := ?_) (by rfl) ?_ ?_
  rotate_left
  · intro w' hSw
    obtain ⟨_, c0, c1, c2, c3, d0, d1, d2, d3⟩ := hSw
    go_simp
    try (with_reducible rfl)
  try simp only [Act.put, List.setIfInBounds_toArray, List.set_cons_zero, List.set_cons_succ]
  refine seq_take (v := ?_) (by rfl) ?_ ?_
  rotate_left
  · intro w' hSw
    obtain ⟨_, c0, c1, c2, c3, d0, d1, d2, d3⟩ := hSw
    go_simp
    try (with_reducible rfl)
  try simp only [Act.put, List.setIfInBounds_toArray, List.set_cons_zero, List.set_cons_succ]
  refine seq_take (v := ?_) (by rfl) ?_ ?_
  rotate_left
  · intro w' hSw
    obtain ⟨_, c0, c1, c2, c3, d0, d1, d2, d3⟩ := hSw
    go_simp
    try (with_reducible rfl)
  try simp only [Act.put, List.setIfInBounds_toArray, List.set_cons_zero, List.set_cons_succ]
  refine seq_solo (by rfl) (fun K hK => ?_)
  go_simp
  refine hK.out _ _ (hS.later ((Below.refl _ _).alloc (Nat.le_refl _) _)) (fun hS3 => ?_)
  clear hK K
  try simp only [Act.put, List.setIfInBounds_toArray, List.set_cons_zero, List.set_cons_succ]
  refine seq_solo (by rfl) (fun K hK => ?_)
  go_simp
  refine (H3.out _ _ _ hS3 (by simp [go_sem]) (by simp [go_sem])).mono ?_
  rintro e w3 ⟨rfl, hT3⟩
  clear hS
  have hS := hT3
  clear hS3 hT3
  refine hK.out _ _ hS (fun _ => ?_)
  clear hK K
  try simp only [Act.put, List.setIfInBounds_toArray, List.set_cons_zero, List.set_cons_succ]
  refine seq_take (v := ?_) (by rfl) ?_ ?_
  rotate_left
  · intro w' hSw
    obtain ⟨_, c0, c1, c2, c3, d0, d1, d2, d3⟩ := hSw
    go_simp
    try (with_reducible rfl)
  try simp only [Act.put, List.setIfInBounds_toArray, List.set_cons_zero, List.set_cons_succ]
  refine seq_take (v := ?_) (by rfl) ?_ ?_
  rotate_left
  · intro w' hSw
    obtain ⟨_, c0, c1, c2, c3, d0, d1, d2, d3⟩ := hSw
    go_simp
    try (with_reducible rfl)
  try simp only [Act.put, List.setIfInBounds_toArray, List.set_cons_zero, List.set_cons_succ]
  refine seq_skips 31 36 false _ rfl rfl 9 (by kernel_rfl) rfl (by simp) ?_
  simp only [skipsA, List.drop_succ_cons, List.drop_zero]
  try simp only [Act.put, List.setIfInBounds_toArray, List.set_cons_zero, List.set_cons_succ]
  refine seq_take (v := ?_) (by rfl) ?_ ?_
  rotate_left
  · intro w' hSw
    obtain ⟨_, c0, c1, c2, c3, d0, d1, d2, d3⟩ := hSw
    go_simp
    try (with_reducible rfl)
  try simp only [Act.put, List.setIfInBounds_toArray, List.set_cons_zero, List.set_cons_succ]
  refine seq_take (v := ?_) (by rfl) ?_ ?_
  rotate_left
  · intro w' hSw
    obtain ⟨_, c0, c1, c2, c3, d0, d1, d2, d3⟩ := hSw
    go_simp
    try (with_reducible rfl)
  try simp only [Act.put, List.setIfInBounds_toArray, List.set_cons_zero, List.set_cons_succ]
  refine seq_skips 42 47 false _ rfl rfl 9 (by kernel_rfl) rfl (by simp) ?_
  simp only [skipsA, List.drop_succ_cons, List.drop_zero]
  try simp only [Act.put, List.setIfInBounds_toArray, List.set_cons_zero, List.set_cons_succ]
  refine seq_take (v := ?_) (by rfl) ?_ ?_
  rotate_left
  · intro w' hSw
    obtain ⟨_, c0, c1, c2, c3, d0, d1, d2, d3⟩ := hSw
    go_simp
    try (with_reducible rfl)
  try simp only [Act.put, List.setIfInBounds_toArray, List.set_cons_zero, List.set_cons_succ]
  refine seq_take (v := ?_) (by rfl) ?_ ?_
  rotate_left
  · intro w' hSw
    obtain ⟨_, c0, c1, c2, c3, d0, d1, d2, d3⟩ := hSw
    go_simp
    try (with_reducible rfl)
  try simp only [Act.put, List.setIfInBounds_toArray, List.set_cons_zero, List.set_cons_succ]
  refine seq_skips 53 58 false _ rfl rfl 9 (by kernel_rfl) rfl (by simp) ?_
  simp only [skipsA, List.drop_succ_cons, List.drop_zero]
  try simp only [Act.put, List.setIfInBounds_toArray, List.set_cons_zero, List.set_cons_succ]
  refine seq_take (v := ?_) (by rfl) ?_ ?_
  rotate_left
  · intro w' hSw
    obtain ⟨_, c0, c1, c2, c3, d0, d1, d2, d3⟩ := hSw
    go_simp
    try (with_reducible rfl)
  try simp only [Act.put, List.setIfInBounds_toArray, List.set_cons_zero, List.set_cons_succ]
  refine seq_take (v := ?_) (by rfl) ?_ ?_
  rotate_left
  · intro w' hSw
    obtain ⟨_, c0, c1, c2, c3, d0, d1, d2, d3⟩ := hSw
    go_simp
    try (with_reducible rfl)
  try simp only [Act.put, List.setIfInBounds_toArray, List.set_cons_zero, List.set_cons_succ]
  refine seq_skips 64 69 false _ rfl rfl 9 (by kernel_rfl) rfl (by simp) ?_
  simp only [skipsA, List.drop_succ_cons, List.drop_zero]
  try simp only [Act.put, List.setIfInBounds_toArray, List.set_cons_zero, List.set_cons_succ]
  refine seq_take (v := ?_) (by rfl) ?_ ?_
  rotate_left
  · intro w' hSw
    obtain ⟨_, c0, c1, c2, c3, d0, d1, d2, d3⟩ := hSw
    go_simp
    try (with_reducible rfl)
  try simp only [Act.put, List.setIfInBounds_toArray, List.set_cons_zero, List.set_cons_succ]
  refine seq_take (v := ?_) (by rfl) ?_ ?_
  rotate_left
  · intro w' hSw
    obtain ⟨_, c0, c1, c2, c3, d0, d1, d2, d3⟩ := hSw
    go_simp
    try (with_reducible rfl)
  try simp only [Act.put, List.setIfInBounds_toArray, List.set_cons_zero, List.set_cons_succ]
  refine seq_skips 75 80 false _ rfl rfl 9 (by kernel_rfl) rfl (by simp) ?_
  simp only [skipsA, List.drop_succ_cons, List.drop_zero]
  try simp only [Act.put, List.setIfInBounds_toArray, List.set_cons_zero, List.set_cons_succ]
  refine seq_take (v := ?_) (by rfl) ?_ ?_
  rotate_left
  · intro w' hSw
    obtain ⟨_, c0, c1, c2, c3, d0, d1, d2, d3⟩ := hSw
    go_simp
    try (with_reducible rfl)
  try simp only [Act.put, List.setIfInBounds_toArray, List.set_cons_zero, List.set_cons_succ]
  refine seq_take (v := ?_) (by rfl) ?_ ?_
  rotate_left
  · intro w' hSw
    obtain ⟨_, c0, c1, c2, c3, d0, d1, d2, d3⟩ := hSw
    go_simp
    try (with_reducible rfl)
  try simp only [Act.put, List.setIfInBounds_toArray, List.set_cons_zero, List.set_cons_succ]
  refine seq_done ?_
  go_wp2
  go_ret
  exact ⟨rfl, hS.1⟩

set_option maxHeartbeats 6400000 in
set_option maxRecDepth 100000 in
theorem ov_4 (a0 a1 a2 a3 b0 b1 b2 b3 : Int) (ga gb ka kb : Nat) (w : World) (h : SS w ga gb a0 a1 a2 a3 b0 b1 b2 b3 w)
    (H1 : Hid (∀ (d k : Nat) (w' : World), SS w ga gb a0 a1 a2 a3 b0 b1 b2 b3 w' → w'.cell? ⟨d, 0, none⟩ = some (.int .i64 a0) → w'.cell? ⟨d, 1, none⟩ = some (.int .i64 a1) → Calls Tryd.prog 57 #[.slice (some ⟨d, 0, none⟩) 2 k, .slice (some ⟨gb, 0, none⟩) 4 kb] w' fun e w'' => e = .returned (.bool false) ∧ SS w ga gb a0 a1 a2 a3 b0 b1 b2 b3 w''))
    (H2 : Hid (∀ (d k : Nat) (w' : World), SS w ga gb a0 a1 a2 a3 b0 b1 b2 b3 w' → w'.cell? ⟨d, 0, none⟩ = some (.int .i64 a2) → w'.cell? ⟨d, 1, none⟩ = some (.int .i64 a1) → Calls Tryd.prog 57 #[.slice (some ⟨d, 0, none⟩) 2 k, .slice (some ⟨gb, 0, none⟩) 4 kb] w' fun e w'' => e = .returned (.bool false) ∧ SS w ga gb a0 a1 a2 a3 b0 b1 b2 b3 w''))
    (H3 : Hid (∀ (d k : Nat) (w' : World), SS w ga gb a0 a1 a2 a3 b0 b1 b2 b3 w' → w'.cell? ⟨d, 0, none⟩ = some (.int .i64 a0) → w'.cell? ⟨d, 1, none⟩ = some (.int .i64 a3) → Calls Tryd.prog 57 #[.slice (some ⟨d, 0, none⟩) 2 k, .slice (some ⟨gb, 0, none⟩) 4 kb] w' fun e w'' => e = .returned (.bool false) ∧ SS w ga gb a0 a1 a2 a3 b0 b1 b2 b3 w''))
    (H4 : Hid (∀ (d k : Nat) (w' : World), SS w ga gb a0 a1 a2 a3 b0 b1 b2 b3 w' → w'.cell? ⟨d, 0, none⟩ = some (.int .i64 a2) → w'.cell? ⟨d, 1, none⟩ = some (.int .i64 a3) → Calls Tryd.prog 57 #[.slice (some ⟨d, 0, none⟩) 2 k, .slice (some ⟨gb, 0, none⟩) 4 kb] w' fun e w'' => e = .returned (.bool true) ∧ SS w ga gb a0 a1 a2 a3 b0 b1 b2 b3 w'')) :
    Calls Tryd.prog 49 #[.slice (some ⟨ga, 0, none⟩) 4 ka, .slice (some ⟨gb, 0, none⟩) 4 kb] w fun e w' => e = .returned (.bool true) ∧ Below w.heap.size w w' := by
  have hS : SS w ga gb a0 a1 a2 a3 b0 b1 b2 b3 w.drew := h.later (Below.refl _ _).drew
  clear h
  go_enter Tryd.func49, Tryd.ntmps49
  go_wp2_with fail
  simp only [List.append_eq, List.cons_append, List.nil_append]
  refine wp_region_plan ovM ovF (S := SS w ga gb a0 a1 a2 a3 b0 b1 b2 b3) (by kernel_rfl) (ov_plan _ (by kernel_rfl)) (ov_idx _ (by kernel_rfl)) (fun d _ _ _ _ h => by cases d <;> exact h) hS ?_
  unfold ovM ovF
  simp only [swaps]
  refine seq_take (v := ?_) (by rfl) ?_ ?_
  rotate_left
  · intro w' hSw
    obtain ⟨_, c0, c1, c2, c3, d0, d1, d2, d3⟩ := hSw
    go_simp
    try (with_reducible rfl)
  try simp only [Act.put, List.setIfInBounds_toArray, List.set_cons_zero, List.set_cons_succ]
  refine seq_take (v := ?_) (by rfl) ?_ ?_
  rotate_left
  · intro w' hSw
    obtain ⟨_, c0, c1, c2, c3, d0, d1, d2, d3⟩ := hSw
    go_simp
    try (with_reducible rfl)
  try simp only [Act.put, List.setIfInBounds_toArray, List.set_cons_zero, List.set_cons_succ]
  refine seq_take (v := ?_) (by rfl) ?_ ?_
  rotate_left
  · intro w' hSw
    obtain ⟨_, c0, c1, c2, c3, d0, d1, d2, d3⟩ := hSw
    go_simp
    try (with_reducible rfl)
  try simp only [Act.put, List.setIfInBounds_toArray, List.set_cons_zero, List.set_cons_succ]
  refine seq_take (v := ?_) (by rfl) ?_ ?_
  rotate_left
  · intro w' hSw
    obtain ⟨_, c0, c1, c2, c3, d0, d1, d2, d3⟩ := hSw
    go_simp
    try (with_reducible rfl)
  try simp only [Act.put, List.setIfInBounds_toArray, List.set_cons_zero, List.set_cons_succ]
  refine seq_take (v := ?_) (by rfl) ?_ ?_
  rotate_left
  · intro w' hSw
    obtain ⟨_, c0, c1, c2, c3, d0, d1, d2, d3⟩ := hSw
    go_simp
    try (with_reducible rfl)
  try simp only [Act.put, List.setIfInBounds_toArray, List.set_cons_zero, List.set_cons_succ]
  refine seq_take (v := ?_) (by rfl) ?_ ?_
  rotate_left
  · intro w' hSw
    obtain ⟨_, c0, c1, c2, c3, d0, d1, d2, d3⟩ := hSw
    go_simp
    try (with_reducible rfl)
  try simp only [Act.put, List.setIfInBounds_toArray, List.set_cons_zero, List.set_cons_succ]
  refine seq_take (v := ?_) (by rfl) ?_ ?_
  rotate_left
  · intro w' hSw
    obtain ⟨_, c0, c1, c2, c3, d0, d1, d2, d3⟩ := hSw
    go_simp
    try (with_reducible rfl)
  try simp only [Act.put, List.setIfInBounds_toArray, List.set_cons_zero, List.set_cons_succ]
  refine seq_solo (by rfl) (fun K hK => ?_)
  go_simp
  refine hK.out _ _ (hS.later ((Below.refl _ _).alloc (Nat.le_refl _) _)) (fun hS1 => ?_)
  clear hK K
  try simp only [Act.put, List.setIfInBounds_toArray, List.set_cons_zero, List.set_cons_succ]
  refine seq_solo (by rfl) (fun K hK => ?_)
  go_simp
  refine (H1.out _ _ _ hS1 (by simp [go_sem]) (by simp [go_sem])).mono ?_
  rintro e w1 ⟨rfl, hT1⟩
  clear hS
  have hS := hT1
  clear hS1 hT1
  refine hK.out _ _ hS (fun _ => ?_)
  clear hK K
  try simp only [Act.put, List.setIfInBounds_toArray, List.set_cons_zero, List.set_cons_succ]
  refine seq_take (v := ?_) (by rfl) ?_ ?_
  rotate_left
  · intro w' hSw
    obtain ⟨_, c0, c1, c2, c3, d0, d1, d2, d3⟩ := hSw
    go_simp
    try (with_reducible rfl)
  try simp only [Act.put, List.setIfInBounds_toArray, List.set_cons_zero, List.set_cons_succ]
  refine seq_take (v := ?_) (by rfl) ?_ ?_
  rotate_left
  · intro w' hSw
    obtain ⟨_, c0, c1, c2, c3, d0, d1, d2, d3⟩ := hSw
    go_simp
    try (with_reducible rfl)
  try simp only [Act.put, List.setIfInBounds_toArray, List.set_cons_zero, List.set_cons_succ]
  refine seq_take (v := ?_) (by rfl) ?_ ?_
  rotate_left
  · intro w' hSw
    obtain ⟨_, c0, c1, c2, c3, d0, d1, d2, d3⟩ := hSw
    go_simp
    try (with_reducible rfl)
  try simp only [Act.put, List.setIfInBounds_toArray, List.set_cons_zero, List.set_cons_succ]
  refine seq_take (v := ?_) (by rfl) ?_ ?_
  rotate_left
  · intro w' hSw
    obtain ⟨_, c0, c1, c2, c3, d0, d1, d2, d3⟩ := hSw
    go_simp
    try (with_reducible rfl)
  try simp only [Act.put, List.setIfInBounds_toArray, List.set_cons_zero, List.set_cons_succ]
  refine seq_take (v := ?_) (by rfl) ?_ ?_
  rotate_left
  · intro w' hSw
    obtain ⟨_, c0, c1, c2, c3, d0, d1, d2, d3⟩ := hSw
    go_simp
    try (with_reducible rfl)
  try simp only [Act.put, List.setIfInBounds_toArray, List.set_cons_zero, List.set_cons_succ]
  refine seq_take (v := ?_) (by rfl) ?_ ?_
  rotate_left
  · intro w' hSw
    obtain ⟨_, c0, c1, c2, c3, d0, d1, d2, d3⟩ := hSw
    go_simp
    try (with_reducible rfl)
  try simp only [Act.put, List.setIfInBounds_toArray, List.set_cons_zero, List.set_cons_succ]
  refine seq_take (v := ?_) (by rfl) ?_ ?_
  rotate_left
  · intro w' hSw
    obtain ⟨_, c0, c1, c2, c3, d0, d1, d2, d3⟩ := hSw
    go_simp
    try (with_reducible rfl)
  try simp only [Act.put, List.setIfInBounds_toArray, List.set_cons_zero, List.set_cons_succ]
  refine seq_take (v := ?_) (by rfl) ?_ ?_
  rotate_left
  · intro w' hSw
    obtain ⟨_, c0, c1, c2, c3, d0, d1, d2, d3⟩ := hSw
    go_simp
    try (with_reducible rfl)
  try simp only [Act.put, List.setIfInBounds_toArray, List.set_cons_zero, List.set_cons_succ]
  refine seq_solo (by rfl) (fun K hK => ?_)
  go_simp
  refine hK.out _ _ (hS.later ((Below.refl _ _).alloc (Nat.le_refl _) _)) (fun hS2 => ?_)
  clear hK K
  try simp only [Act.put, List.setIfInBounds_toArray, List.set_cons_zero, List.set_cons_succ]
  refine seq_solo (by rfl) (fun K hK => ?_)
  go_simp
  refine (H2.out _ _ _ hS2 (by simp [go_sem]) (by simp [go_sem])).mono ?_
  rintro e w2 ⟨rfl, hT2⟩
  clear hS
  have hS := hT2
  clear hS2 hT2
  refine hK.out _ _ hS (fun _ => ?_)
  clear hK K
  try simp only [Act.put, List.setIfInBounds_toArray, List.set_cons_zero, List.set_cons_succ]
  refine seq_take (v := ?_) (by rfl) ?_ ?_
  rotate_left
  · intro w' hSw
    obtain ⟨_, c0, c1, c2, c3, d0, d1, d2, d3⟩ := hSw
    go_simp
    try (with_reducible rfl)
  try simp only [Act.put, List.setIfInBounds_toArray, List.set_cons_zero, List.set_cons_succ]
  refine seq_take (v := ?_) (by rfl) ?_ ?_
  rotate_left
  · intro w' hSw
    obtain ⟨_, c0, c1, c2, c3, d0, d1, d2, d3⟩ := hSw
    go_simp
    try (with_reducible rfl)
  try simp only [Act.put, List.setIfInBounds_toArray, List.set_cons_zero, List.set_cons_succ]
  refine seq_take (v := ?_) (by rfl) ?_ ?_
  rotate_left
  · intro w' hSw
    obtain ⟨_, c0, c1, c2, c3, d0, d1, d2, d3⟩ := hSw
    go_simp
    try (with_reducible rfl)
  try simp only [Act.put, List.setIfInBounds_toArray, List.set_cons_zero, List.set_cons_succ]
  refine seq_take (v := ?_) (by rfl) ?_ ?_
  rotate_left
  · intro w' hSw
    obtain ⟨_, c0, c1, c2, c3, d0, d1, d2, d3⟩ := hSw
    go_simp
    try (with_reducible rfl)
  try simp only [Act.put, List.setIfInBounds_toArray, List.set_cons_zero, List.set_cons_succ]
  refine seq_take (v := ?_) (by rfl) ?_ ?_
  rotate_left
  · intro w' hSw
    obtain ⟨_, c0, c1, c2, c3, d0, d1, d2, d3⟩ := hSw
    go_simp
    try (with_reducible rfl)
  try simp only [Act.put, List.setIfInBounds_toArray, List.set_cons_zero, List.set_cons_succ]
  refine seq_take (v := ?_) (by rfl) ?_ ?_
  rotate_left
  · intro w' hSw
    obtain ⟨_, c0, c1, c2, c3, d0, d1, d2, d3⟩ := hSw
    go_simp
    try (with_reducible rfl)
  try simp only [Act.put, List.setIfInBounds_toArray, List.set_cons_zero, List.set_cons_succ]
  refine seq_take (v := ?_) (by rfl) ?_ ?_
  rotate_left
  · intro w' hSw
    obtain ⟨_, c0, c1, c2, c3, d0, d1, d2, d3⟩ := hSw
    go_simp
    try (with_reducible rfl)
  try simp only [Act.put, List.setIfInBounds_toArray, List.set_cons_zero, List.set_cons_succ]
  refine seq_take (v := ?_) (by rfl) ?_ ?_
  rotate_left
  · intro w' hSw
    obtain ⟨_, c0, c1, c2, c3, d0, d1, d2, d3⟩ := hSw
    go_simp
    try (with_reducible rfl)
  try simp only [Act.put, List.setIfInBounds_toArray, List.set_cons_zero, List.set_cons_succ]
  refine seq_take (v := ?_) (by rfl) ?_ ?_
  rotate_left
  · intro w' hSw
    obtain ⟨_, c0, c1, c2, c3, d0, d1, d2, d3⟩ := hSw
    go_simp
    try (with_reducible rfl)
  try simp only [Act.put, List.setIfInBounds_toArray, List.set_cons_zero, List.set_cons_succ]
  refine seq_solo (by rfl) (fun K hK => ?_)
  go_simp
  refine hK.out _ _ (hS.later ((Below.refl _ _).alloc (Nat.le_refl _) _)) (fun hS3 => ?_)
  clear hK K
  try simp only [Act.put, List.setIfInBounds_toArray, List.set_cons_zero, List.set_cons_succ]
  refine seq_solo (by rfl) (fun K hK => ?_)
  go_simp
  refine (H3.out _ _ _ hS3 (by simp [go_sem]) (by simp [go_sem])).mono ?_
  rintro e w3 ⟨rfl, hT3⟩
  clear hS
  have hS := hT3
  clear hS3 hT3
  refine hK.out _ _ hS (fun _ => ?_)
  clear hK K
  try simp only [Act.put, List.setIfInBounds_toArray, List.set_cons_zero, List.set_cons_succ]
  refine seq_take (v := ?_) (by rfl) ?_ ?_
  rotate_left
  · intro w' hSw
    obtain ⟨_, c0, c1, c2, c3, d0, d1, d2, d3⟩ := hSw
    go_simp
    try (with_reducible rfl)
  try simp only [Act.put, List.setIfInBounds_toArray, List.set_cons_zero, List.set_cons_succ]
  refine seq_take (v := ?_) (by rfl) ?_ ?_
  rotate_left
  · intro w' hSw
    obtain ⟨_, c0, c1, c2, c3, d0, d1, d2, d3⟩ := hSw
    go_simp
    try (with_reducible rfl)
  try simp only [Act.put, List.setIfInBounds_toArray, List.set_cons_zero, List.set_cons_succ]
  refine seq_take (v := ?_) (by rfl) ?_ ?_
  rotate_left
  · intro w' hSw
    obtain ⟨_, c0, c1, c2, c3, d0, d1, d2, d3⟩ := hSw
    go_simp
    try (with_reducible rfl)
  try simp only [Act.put, List.setIfInBounds_toArray, List.set_cons_zero, List.set_cons_succ]
  refine seq_take (v := ?_) (by rfl) ?_ ?_
  rotate_left
  · intro w' hSw
    obtain ⟨_, c0, c1, c2, c3, d0, d1, d2, d3⟩ := hSw
    go_simp
    try (with_reducible rfl)
  try simp only [Act.put, List.setIfInBounds_toArray, List.set_cons_zero, List.set_cons_succ]
  refine seq_take (v := ?_) (by rfl) ?_ ?_
  rotate_left
  · intro w' hSw
    obtain ⟨_, c0, c1, c2, c3, d0, d1, d2, d3⟩ := hSw
    go_simp
    try (with_reducible rfl)
  try simp only [Act.put, List.setIfInBounds_toArray, List.set_cons_zero, List.set_cons_succ]
  refine seq_take (v := ?_) (by rfl) ?_ ?_
  rotate_left
  · intro w' hSw
    obtain ⟨_, c0, c1, c2, c3, d0, d1, d2, d3⟩ := hSw
    go_simp
    try (with_reducible rfl)
  try simp only [Act.put, List.setIfInBounds_toArray, List.set_cons_zero, List.set_cons_succ]
  refine seq_take (v := ?_) (by rfl) ?_ ?_
  rotate_left
  · intro w' hSw
    obtain ⟨_, c0, c1, c2, c3, d0, d1, d2, d3⟩ := hSw
    go_simp
    try (with_reducible rfl)
  try simp only [Act.put, List.setIfInBounds_toArray, List.set_cons_zero, List.set_cons_succ]
  refine seq_take (v := ?_) (by rfl) ?_ ?_
  rotate_left
  · intro w' hSw
    obtain ⟨_, c0, c1, c2, c3, d0, d1, d2, d3⟩ := hSw
    go_simp
    try (with_reducible rfl)
  try simp only [Act.put, List.setIfInBounds_toArray, List.set_cons_zero, List.set_cons_succ]
  refine seq_take (v := ?_) (by rfl) ?_ ?_
  rotate_left
  · intro w' hSw
    obtain ⟨_, c0, c1, c2, c3, d0, d1, d2, d3⟩ := hSw
    go_simp
    try (with_reducible rfl)
  try simp only [Act.put, List.setIfInBounds_toArray, List.set_cons_zero, List.set_cons_succ]
  refine seq_solo (by rfl) (fun K hK => ?_)
  go_simp
  refine hK.out _ _ (hS.later ((Below.refl _ _).alloc (Nat.le_refl _) _)) (fun hS4 => ?_)
  clear hK K
  try simp only [Act.put, List.setIfInBounds_toArray, List.set_cons_zero, List.set_cons_succ]
  refine seq_solo (by rfl) (fun K hK => ?_)
  go_simp
  refine (H4.out _ _ _ hS4 (by simp [go_sem]) (by simp [go_sem])).mono ?_
  rintro e w4 ⟨rfl, hT4⟩
  clear hS
  have hS := hT4
  clear hS4 hT4
  refine hK.out _ _ hS (fun _ => ?_)
  clear hK K
  try simp only [Act.put, List.setIfInBounds_toArray, List.set_cons_zero, List.set_cons_succ]
  refine seq_take (v := ?_) (by rfl) ?_ ?_
  rotate_left
  · intro w' hSw
    obtain ⟨_, c0, c1, c2, c3, d0, d1, d2, d3⟩ := hSw
    go_simp
    try (with_reducible rfl)
  try simp only [Act.put, List.setIfInBounds_toArray, List.set_cons_zero, List.set_cons_succ]
  refine seq_take (v := ?_) (by rfl) ?_ ?_
  rotate_left
  · intro w' hSw
    obtain ⟨_, c0, c1, c2, c3, d0, d1, d2, d3⟩ := hSw
    go_simp
    try (with_reducible rfl)
  try simp only [Act.put, List.setIfInBounds_toArray, List.set_cons_zero, List.set_cons_succ]
  refine seq_skips 42 47 false _ rfl rfl 9 (by kernel_rfl) rfl (by simp) ?_
  simp only [skipsA, List.drop_succ_cons, List.drop_zero]
  try simp only [Act.put, List.setIfInBounds_toArray, List.set_cons_zero, List.set_cons_succ]
  refine seq_take (v := ?_) (by rfl) ?_ ?_
  rotate_left
  · intro w' hSw
    obtain ⟨_, c0, c1, c2, c3, d0, d1, d2, d3⟩ := hSw
    go_simp
    try (with_reducible rfl)
  try simp only [Act.put, List.setIfInBounds_toArray, List.set_cons_zero, List.set_cons_succ]
  refine seq_take (v := ?_) (by rfl) ?_ ?_
  rotate_left
  · intro w' hSw
    obtain ⟨_, c0, c1, c2, c3, d0, d1, d2, d3⟩ := hSw
    go_simp
    try (with_reducible rfl)
  try simp only [Act.put, List.setIfInBounds_toArray, List.set_cons_zero, List.set_cons_succ]
  refine seq_skips 53 58 false _ rfl rfl 9 (by kernel_rfl) rfl (by simp) ?_
  simp only [skipsA, List.drop_succ_cons, List.drop_zero]
  try simp only [Act.put, List.setIfInBounds_toArray, List.set_cons_zero, List.set_cons_succ]
  refine seq_take (v := ?_) (by rfl) ?_ ?_
  rotate_left
  · intro w' hSw
    obtain ⟨_, c0, c1, c2, c3, d0, d1, d2, d3⟩ := hSw
    go_simp
    try (with_reducible rfl)
  try simp only [Act.put, List.setIfInBounds_toArray, List.set_cons_zero, List.set_cons_succ]
  refine seq_take (v := ?_) (by rfl) ?_ ?_
  rotate_left
  · intro w' hSw
    obtain ⟨_, c0, c1, c2, c3, d0, d1, d2, d3⟩ := hSw
    go_simp
    try (with_reducible rfl)
  try simp only [Act.put, List.setIfInBounds_toArray, List.set_cons_zero, List.set_cons_succ]
  refine seq_skips 64 69 false _ rfl rfl 9 (by kernel_rfl) rfl (by simp) ?_
  simp only [skipsA, List.drop_succ_cons, List.drop_zero]
  try simp only [Act.put, List.setIfInBounds_toArray, List.set_cons_zero, List.set_cons_succ]
  refine seq_take (v := ?_) (by rfl) ?_ ?_
  rotate_left
  · intro w' hSw
    obtain ⟨_, c0, c1, c2, c3, d0, d1, d2, d3⟩ := hSw
    go_simp
    try (with_reducible rfl)
  try simp only [Act.put, List.setIfInBounds_toArray, List.set_cons_zero, List.set_cons_succ]
  refine seq_take (v := ?_) (by rfl) ?_ ?_
  rotate_left
  · intro w' hSw
    obtain ⟨_, c0, c1, c2, c3, d0, d1, d2, d3⟩ := hSw
    go_simp
    try (with_reducible rfl)
  try simp only [Act.put, List.setIfInBounds_toArray, List.set_cons_zero, List.set_cons_succ]
  refine seq_skips 75 80 false _ rfl rfl 9 (by kernel_rfl) rfl (by simp) ?_
  simp only [skipsA, List.drop_succ_cons, List.drop_zero]
  try simp only [Act.put, List.setIfInBounds_toArray, List.set_cons_zero, List.set_cons_succ]
  refine seq_take (v := ?_) (by rfl) ?_ ?_
  rotate_left
  · intro w' hSw
    obtain ⟨_, c0, c1, c2, c3, d0, d1, d2, d3⟩ := hSw
    go_simp
    try (with_reducible rfl)
  try simp only [Act.put, List.setIfInBounds_toArray, List.set_cons_zero, List.set_cons_succ]
  refine seq_take (v := ?_) (by rfl) ?_ ?_
  rotate_left
  · intro w' hSw
    obtain ⟨_, c0, c1, c2, c3, d0, d1, d2, d3⟩ := hSw
    go_simp
    try (with_reducible rfl)
  try simp only [Act.put, List.setIfInBounds_toArray, List.set_cons_zero, List.set_cons_succ]
  refine seq_done ?_
  go_wp2
  go_ret
  exact ⟨rfl, hS.1⟩

set_option maxHeartbeats 6400000 in
set_option maxRecDepth 100000 in
theorem ov_5 (a0 a1 a2 a3 b0 b1 b2 b3 : Int) (ga gb ka kb : Nat) (w : World) (h : SS w ga gb a0 a1 a2 a3 b0 b1 b2 b3 w)
    (H1 : Hid (∀ (d k : Nat) (w' : World), SS w ga gb a0 a1 a2 a3 b0 b1 b2 b3 w' → w'.cell? ⟨d, 0, none⟩ = some (.int .i64 a0) → w'.cell? ⟨d, 1, none⟩ = some (.int .i64 a1) → Calls Tryd.prog 57 #[.slice (some ⟨d, 0, none⟩) 2 k, .slice (some ⟨gb, 0, none⟩) 4 kb] w' fun e w'' => e = .returned (.bool false) ∧ SS w ga gb a0 a1 a2 a3 b0 b1 b2 b3 w''))
    (H2 : Hid (∀ (d k : Nat) (w' : World), SS w ga gb a0 a1 a2 a3 b0 b1 b2 b3 w' → w'.cell? ⟨d, 0, none⟩ = some (.int .i64 a2) → w'.cell? ⟨d, 1, none⟩ = some (.int .i64 a1) → Calls Tryd.prog 57 #[.slice (some ⟨d, 0, none⟩) 2 k, .slice (some ⟨gb, 0, none⟩) 4 kb] w' fun e w'' => e = .returned (.bool false) ∧ SS w ga gb a0 a1 a2 a3 b0 b1 b2 b3 w''))
    (H3 : Hid (∀ (d k : Nat) (w' : World), SS w ga gb a0 a1 a2 a3 b0 b1 b2 b3 w' → w'.cell? ⟨d, 0, none⟩ = some (.int .i64 a0) → w'.cell? ⟨d, 1, none⟩ = some (.int .i64 a3) → Calls Tryd.prog 57 #[.slice (some ⟨d, 0, none⟩) 2 k, .slice (some ⟨gb, 0, none⟩) 4 kb] w' fun e w'' => e = .returned (.bool false) ∧ SS w ga gb a0 a1 a2 a3 b0 b1 b2 b3 w''))
    (H4 : Hid (∀ (d k : Nat) (w' : World), SS w ga gb a0 a1 a2 a3 b0 b1 b2 b3 w' → w'.cell? ⟨d, 0, none⟩ = some (.int .i64 a2) → w'.cell? ⟨d, 1, none⟩ = some (.int .i64 a3) → Calls Tryd.prog 57 #[.slice (some ⟨d, 0, none⟩) 2 k, .slice (some ⟨gb, 0, none⟩) 4 kb] w' fun e w'' => e = .returned (.bool false) ∧ SS w ga gb a0 a1 a2 a3 b0 b1 b2 b3 w''))
    (H5 : Hid (∀ (d k : Nat) (w' : World), SS w ga gb a0 a1 a2 a3 b0 b1 b2 b3 w' → w'.cell? ⟨d, 0, none⟩ = some (.int .i64 b0) → w'.cell? ⟨d, 1, none⟩ = some (.int .i64 b1) → Calls Tryd.prog 57 #[.slice (some ⟨d, 0, none⟩) 2 k, .slice (some ⟨ga, 0, none⟩) 4 ka] w' fun e w'' => e = .returned (.bool true) ∧ SS w ga gb a0 a1 a2 a3 b0 b1 b2 b3 w'')) :
    Calls Tryd.prog 49 #[.slice (some ⟨ga, 0, none⟩) 4 ka, .slice (some ⟨gb, 0, none⟩) 4 kb] w fun e w' => e = .returned (.bool true) ∧ Below w.heap.size w w' := by
  have hS : SS w ga gb a0 a1 a2 a3 b0 b1 b2 b3 w.drew := h.later (Below.refl _ _).drew
  clear h
  go_enter Tryd.func49, Tryd.ntmps49
  go_wp2_with fail
  simp only [List.append_eq, List.cons_append, List.nil_append]
  refine wp_region_plan ovM ovF (S := SS w ga gb a0 a1 a2 a3 b0 b1 b2 b3) (by kernel_rfl) (ov_plan _ (by kernel_rfl)) (ov_idx _ (by kernel_rfl)) (fun d _ _ _ _ h => by cases d <;> exact h) hS ?_
  unfold ovM ovF
  simp only [swaps]
  refine seq_take (v := ?_) (by rfl) ?_ ?_
  rotate_left
  · intro w' hSw
    obtain ⟨_, c0, c1, c2, c3, d0, d1, d2, d3⟩ := hSw
    go_simp
    try (with_reducible rfl)
  try simp only [Act.put, List.setIfInBounds_toArray, List.set_cons_zero, List.set_cons_succ]
  refine seq_take (v := ?_) (by rfl) ?_ ?_
  rotate_left
  · intro w' hSw
    obtain ⟨_, c0, c1, c2, c3, d0, d1, d2, d3⟩ := hSw
    go_simp
    try (with_reducible rfl)
  try simp only [Act.put, List.setIfInBounds_toArray, List.set_cons_zero, List.set_cons_succ]
  refine seq_take (v := ?_) (by rfl) ?_ ?_
  rotate_left
  · intro w' hSw
    obtain ⟨_, c0, c1, c2, c3, d0, d1, d2, d3⟩ := hSw
    go_simp
    try (with_reducible rfl)
  try simp only [Act.put, List.setIfInBounds_toArray, List.set_cons_zero, List.set_cons_succ]
  refine seq_take (v := ?_) (by rfl) ?_ ?_
  rotate_left
  · intro w' hSw
    obtain ⟨_, c0, c1, c2, c3, d0, d1, d2, d3⟩ := hSw
    go_simp
    try (with_reducible rfl)
  try simp only [Act.put, List.setIfInBounds_toArray, List.set_cons_zero, List.set_cons_succ]
  refine seq_take (v := ?_) (by rfl) ?_ ?_
  rotate_left
  · intro w' hSw
    obtain ⟨_, c0, c1, c2, c3, d0, d1, d2, d3⟩ := hSw
    go_simp
    try (with_reducible rfl)
  try simp only [Act.put, List.setIfInBounds_toArray, List.set_cons_zero, List.set_cons_succ]
  refine seq_take (v := ?_) (by rfl) ?_ ?_
  rotate_left
  · intro w' hSw
    obtain ⟨_, c0, c1, c2, c3, d0, d1, d2, d3⟩ := hSw
    go_simp
    try (with_reducible rfl)
  try simp only [Act.put, List.setIfInBounds_toArray, List.set_cons_zero, List.set_cons_succ]
  refine seq_take (v := ?_) (by rfl) ?_ ?_
  rotate_left
  · intro w' hSw
    obtain ⟨_, c0, c1, c2, c3, d0, d1, d2, d3⟩ := hSw
    go_simp
    try (with_reducible rfl)
  try simp only [Act.put, List.setIfInBounds_toArray, List.set_cons_zero, List.set_cons_succ]
  refine seq_solo (by rfl) (fun K hK => ?_)
  go_simp
  refine hK.out _ _ (hS.later ((Below.refl _ _).alloc (Nat.le_refl _) _)) (fun hS1 => ?_)
  clear hK K
  try simp only [Act.put, List.setIfInBounds_toArray, List.set_cons_zero, List.set_cons_succ]
  refine seq_solo (by rfl) (fun K hK => ?_)
  go_simp
  refine (H1.out _ _ _ hS1 (by simp [go_sem]) (by simp [go_sem])).mono ?_
  rintro e w1 ⟨rfl, hT1⟩
  clear hS
  have hS := hT1
  clear hS1 hT1
  refine hK.out _ _ hS (fun _ => ?_)
  clear hK K
  try simp only [Act.put, List.setIfInBounds_toArray, List.set_cons_zero, List.set_cons_succ]
  refine seq_take (v := ?_) (by rfl) ?_ ?_
  rotate_left
  · intro w' hSw
    obtain ⟨_, c0, c1, c2, c3, d0, d1, d2, d3⟩ := hSw
    go_simp
    try (with_reducible rfl)
  try simp only [Act.put, List.setIfInBounds_toArray, List.set_cons_zero, List.set_cons_succ]
  refine seq_take (v := ?_) (by rfl) ?_ ?_
  rotate_left
  · intro w' hSw
    obtain ⟨_, c0, c1, c2, c3, d0, d1, d2, d3⟩ := hSw
    go_simp
    try (with_reducible rfl)
  try simp only [Act.put, List.setIfInBounds_toArray, List.set_cons_zero, List.set_cons_succ]
  refine seq_take (v := ?_) (by rfl) ?_ ?_
  rotate_left
  · intro w' hSw
    obtain ⟨_, c0, c1, c2, c3, d0, d1, d2, d3⟩ := hSw
    go_simp
    try (with_reducible rfl)
  try simp only [Act.put, List.setIfInBounds_toArray, List.set_cons_zero, List.set_cons_succ]
  refine seq_take (v := ?_) (by rfl) ?_ ?_
  rotate_left
  · intro w' hSw
    obtain ⟨_, c0, c1, c2, c3, d0, d1, d2, d3⟩ := hSw
    go_simp
    try (with_reducible rfl)
  try simp only [Act.put, List.setIfInBounds_toArray, List.set_cons_zero, List.set_cons_succ]
  refine seq_take (v := ?_) (by rfl) ?_ ?_
  rotate_left
  · intro w' hSw
    obtain ⟨_, c0, c1, c2, c3, d0, d1, d2, d3⟩ := hSw
    go_simp
    try (with_reducible rfl)
  try simp only [Act.put, List.setIfInBounds_toArray, List.set_cons_zero, List.set_cons_succ]
  refine seq_take (v := ?_) (by rfl) ?_ ?_
  rotate_left
  · intro w' hSw
    obtain ⟨_, c0, c1, c2, c3, d0, d1, d2, d3⟩ := hSw
    go_simp
    try (with_reducible rfl)
  try simp only [Act.put, List.setIfInBounds_toArray, List.set_cons_zero, List.set_cons_succ]
  refine seq_take (v := ?_) (by rfl) ?_ ?_
  rotate_left
  · intro w' hSw
    obtain ⟨_, c0, c1, c2, c3, d0, d1, d2, d3⟩ := hSw
    go_simp
    try (with_reducible rfl)
  try simp only [Act.put, List.setIfInBounds_toArray, List.set_cons_zero, List.set_cons_succ]
  refine seq_take (v := ?_) (by rfl) ?_ ?_
  rotate_left
  · intro w' hSw
    obtain ⟨_, c0, c1, c2, c3, d0, d1, d2, d3⟩ := hSw
    go_simp
    try (with_reducible rfl)
  try simp only [Act.put, List.setIfInBounds_toArray, List.set_cons_zero, List.set_cons_succ]
  refine seq_solo (by rfl) (fun K hK => ?_)
  go_simp
  refine hK.out _ _ (hS.later ((Below.refl _ _).alloc (Nat.le_refl _) _)) (fun hS2 => ?_)
  clear hK K
  try simp only [Act.put, List.setIfInBounds_toArray, List.set_cons_zero, List.set_cons_succ]
  refine seq_solo (by rfl) (fun K hK => ?_)
  go_simp
  refine (H2.out _ _ _ hS2 (by simp [go_sem]) (by simp [go_sem])).mono ?_
  rintro e w2 ⟨rfl, hT2⟩
  clear hS
  have hS := hT2
  clear hS2 hT2
  refine hK.out _ _ hS (fun _ => ?_)
  clear hK K
  try simp only [Act.put, List.setIfInBounds_toArray, List.set_cons_zero, List.set_cons_succ]
  refine seq_take (v := ?_) (by rfl) ?_ ?_
  rotate_left
  · intro w' hSw
    obtain ⟨_, c0, c1, c2, c3, d0, d1, d2, d3⟩ := hSw
    go_simp
    try (with_reducible rfl)
  try simp only [Act.put, List.setIfInBounds_toArray, List.set_cons_zero, List.set_cons_succ]
  refine seq_take (v := ?_) (by rfl) ?_ ?_
  rotate_left
  · intro w' hSw
    obtain ⟨_, c0, c1, c2, c3, d0, d1, d2, d3⟩ := hSw
    go_simp
    try (with_reducible rfl)
  try simp only [Act.put, List.setIfInBounds_toArray, List.set_cons_zero, List.set_cons_succ]
  refine seq_take (v := ?_) (by rfl) ?_ ?_
  rotate_left
  · intro w' hSw
    obtain ⟨_, c0, c1, c2, c3, d0, d1, d2, d3⟩ := hSw
    go_simp
    try (with_reducible rfl)
  try simp only [Act.put, List.setIfInBounds_toArray, List.set_cons_zero, List.set_cons_succ]
  refine seq_take (v := ?_) (by rfl) ?_ ?_
  rotate_left
  · intro w' hSw
    obtain ⟨_, c0, c1, c2, c3, d0, d1, d2, d3⟩ := hSw
    go_simp
    try (with_reducible rfl)
  try simp only [Act.put, List.setIfInBounds_toArray, List.set_cons_zero, List.set_cons_succ]
  refine seq_take (v := ?_) (by rfl) ?_ ?_
  rotate_left
  · intro w' hSw
    obtain ⟨_, c0, c1, c2, c3, d0, d1, d2, d3⟩ := hSw
    go_simp
    try (with_reducible rfl)
  try simp only [Act.put, List.setIfInBounds_toArray, List.set_cons_zero, List.set_cons_succ]
  refine seq_take (v := ?_) (by rfl) ?_ ?_
  rotate_left
  · intro w' hSw
    obtain ⟨_, c0, c1, c2, c3, d0, d1, d2, d3⟩ := hSw
    go_simp
    try (with_reducible rfl)
  try simp only [Act.put, List.setIfInBounds_toArray, List.set_cons_zero, List.set_cons_succ]
  refine seq_take (v := ?_) (by rfl) ?_ ?_
  rotate_left
  · intro w' hSw
    obtain ⟨_, c0, c1, c2, c3, d0, d1, d2, d3⟩ := hSw
    go_simp
    try (with_reducible rfl)
  try simp only [Act.put, List.setIfInBounds_toArray, List.set_cons_zero, List.set_cons_succ]
  refine seq_take (v := ?_) (by rfl) ?_ ?_
  rotate_left
  · intro w' hSw
    obtain ⟨_, c0, c1, c2, c3, d0, d1, d2, d3⟩ := hSw
    go_simp
    try (with_reducible rfl)
  try simp only [Act.put, List.setIfInBounds_toArray, List.set_cons_zero, List.set_cons_succ]
  refine seq_take (v := ?_) (by rfl) ?_ ?_
  rotate_left
  · intro w' hSw
    obtain ⟨_, c0, c1, c2, c3, d0, d1, d2, d3⟩ := hSw
    go_simp
    try (with_reducible rfl)
  try simp only [Act.put, List.setIfInBounds_toArray, List.set_cons_zero, List.set_cons_succ]
  refine seq_solo (by rfl) (fun K hK => ?_)
  go_simp
  refine hK.out _ _ (hS.later ((Below.refl _ _).alloc (Nat.le_refl _) _)) (fun hS3 => ?_)
  clear hK K
  try simp only [Act.put, List.setIfInBounds_toArray, List.set_cons_zero, List.set_cons_succ]
  refine seq_solo (by rfl) (fun K hK => ?_)
  go_simp
  refine (H3.out _ _ _ hS3 (by simp [go_sem]) (by simp [go_sem])).mono ?_
  rintro e w3 ⟨rfl, hT3⟩
  clear hS
  have hS := hT3
  clear hS3 hT3
  refine hK.out _ _ hS (fun _ => ?_)
  clear hK K
  try simp only [Act.put, List.setIfInBounds_toArray, List.set_cons_zero, List.set_cons_succ]
  refine seq_take (v := ?_) (by rfl) ?_ ?_
  rotate_left
  · intro w' hSw
    obtain ⟨_, c0, c1, c2, c3, d0, d1, d2, d3⟩ := hSw
    go_simp
    try (with_reducible rfl)
  try simp only [Act.put, List.setIfInBounds_toArray, List.set_cons_zero, List.set_cons_succ]
  refine seq_take (v := ?_) (by rfl) ?_ ?_
  rotate_left
  · intro w' hSw
    obtain ⟨_, c0, c1, c2, c3, d0, d1, d2, d3⟩ := hSw
    go_simp
    try (with_reducible rfl)
  try simp only [Act.put, List.setIfInBounds_toArray, List.set_cons_zero, List.set_cons_succ]
  refine seq_take (v := ?_) (by rfl) ?_ ?_
  rotate_left
  · intro w' hSw
    obtain ⟨_, c0, c1, c2, c3, d0, d1, d2, d3⟩ := hSw
    go_simp
    try (with_reducible rfl)
  try simp only [Act.put, List.setIfInBounds_toArray, List.set_cons_zero, List.set_cons_succ]
  refine seq_take (v := ?_) (by rfl) ?_ ?_
  rotate_left
  · intro w' hSw
    obtain ⟨_, c0, c1, c2, c3, d0, d1, d2, d3⟩ := hSw
    go_simp
    try (with_reducible rfl)
  try simp only [Act.put, List.setIfInBounds_toArray, List.set_cons_zero, List.set_cons_succ]
  refine seq_take (v := ?_) (by rfl) ?_ ?_
  rotate_left
  · intro w' hSw
    obtain ⟨_, c0, c1, c2, c3, d0, d1, d2, d3⟩ := hSw
    go_simp
    try (with_reducible rfl)
  try simp only [Act.put, List.setIfInBounds_toArray, List.set_cons_zero, List.set_cons_succ]
  refine seq_take (v := ?_) (by rfl) ?_ ?_
  rotate_left
  · intro w' hSw
    obtain ⟨_, c0, c1, c2, c3, d0, d1, d2, d3⟩ := hSw
    go_simp
    try (with_reducible rfl)
  try simp only [Act.put, List.setIfInBounds_toArray, List.set_cons_zero, List.set_cons_succ]
  refine seq_take (v := ?_) (by rfl) ?_ ?_
  rotate_left
  · intro w' hSw
    obtain ⟨_, c0, c1, c2, c3, d0, d1, d2, d3⟩ := hSw
    go_simp
    try (with_reducible rfl)
  try simp only [Act.put, List.setIfInBounds_toArray, List.set_cons_zero, List.set_cons_succ]
  refine seq_take (v := ?_) (by rfl) ?_ ?_
  rotate_left
  · intro w' hSw
    obtain ⟨_, c0, c1, c2, c3, d0, d1, d2, d3⟩ := hSw
    go_simp
    try (with_reducible rfl)
  try simp only [Act.put, List.setIfInBounds_toArray, List.set_cons_zero, List.set_cons_succ]
  refine seq_take (v := ?_) (by rfl) ?_ ?_
  rotate_left
  · intro w' hSw
    obtain ⟨_, c0, c1, c2, c3, d0, d1, d2, d3⟩ := hSw
    go_simp
    try (with_reducible rfl)
  try simp only [Act.put, List.setIfInBounds_toArray, List.set_cons_zero, List.set_cons_succ]
  refine seq_solo (by rfl) (fun K hK => ?_)
  go_simp
  refine hK.out _ _ (hS.later ((Below.refl _ _).alloc (Nat.le_refl _) _)) (fun hS4 => ?_)
  clear hK K
  try simp only [Act.put, List.setIfInBounds_toArray, List.set_cons_zero, List.set_cons_succ]
  refine seq_solo (by rfl) (fun K hK => ?_)
  go_simp
  refine (H4.out _ _ _ hS4 (by simp [go_sem]) (by simp [go_sem])).mono ?_
  rintro e w4 ⟨rfl, hT4⟩
  clear hS
  have hS := hT4
  clear hS4 hT4
  refine hK.out _ _ hS (fun _ => ?_)
  clear hK K
  try simp only [Act.put, List.setIfInBounds_toArray, List.set_cons_zero, List.set_cons_succ]
  refine seq_take (v := ?_) (by rfl) ?_ ?_
  rotate_left
  · intro w' hSw
    obtain ⟨_, c0, c1, c2, c3, d0, d1, d2, d3⟩ := hSw
    go_simp
    try (with_reducible rfl)
  try simp only [Act.put, List.setIfInBounds_toArray, List.set_cons_zero, List.set_cons_succ]
  refine seq_take (v := ?_) (by rfl) ?_ ?_
  rotate_left
  · intro w' hSw
    obtain ⟨_, c0, c1, c2, c3, d0, d1, d2, d3⟩ := hSw
    go_simp
    try (with_reducible rfl)
  try simp only [Act.put, List.setIfInBounds_toArray, List.set_cons_zero, List.set_cons_succ]
  refine seq_take (v := ?_) (by rfl) ?_ ?_
  rotate_left
  · intro w' hSw
    obtain ⟨_, c0, c1, c2, c3, d0, d1, d2, d3⟩ := hSw
    go_simp
    try (with_reducible rfl)
  try simp only [Act.put, List.setIfInBounds_toArray, List.set_cons_zero, List.set_cons_succ]
  refine seq_take (v := ?_) (by rfl) ?_ ?_
  rotate_left
  · intro w' hSw
    obtain ⟨_, c0, c1, c2, c3, d0, d1, d2, d3⟩ := hSw
    go_simp
    try (with_reducible rfl)
  try simp only [Act.put, List.setIfInBounds_toArray, List.set_cons_zero, List.set_cons_succ]
  refine seq_take (v := ?_) (by rfl) ?_ ?_
  rotate_left
  · intro w' hSw
    obtain ⟨_, c0, c1, c2, c3, d0, d1, d2, d3⟩ := hSw
    go_simp
    try (with_reducible rfl)
  try simp only [Act.put, List.setIfInBounds_toArray, List.set_cons_zero, List.set_cons_succ]
  refine seq_take (v := ?_) (by rfl) ?_ ?_
  rotate_left
  · intro w' hSw
    obtain ⟨_, c0, c1, c2, c3, d0, d1, d2, d3⟩ := hSw
    go_simp
    try (with_reducible rfl)
  try simp only [Act.put, List.setIfInBounds_toArray, List.set_cons_zero, List.set_cons_succ]
  refine seq_take (v := ?_) (by rfl) ?_ ?_
  rotate_left
  · intro w' hSw
    obtain ⟨_, c0, c1, c2, c3, d0, d1, d2, d3⟩ := hSw
    go_simp
    try (with_reducible rfl)
  try simp only [Act.put, List.setIfInBounds_toArray, List.set_cons_zero, List.set_cons_succ]
  refine seq_take (v := ?_) (by rfl) ?_ ?_
  rotate_left
  · intro w' hSw
    obtain ⟨_, c0, c1, c2, c3, d0, d1, d2, d3⟩ := hSw
    go_simp
    try (with_reducible rfl)
  try simp only [Act.put, List.setIfInBounds_toArray, List.set_cons_zero, List.set_cons_succ]
  refine seq_take (v := ?_) (by rfl) ?_ ?_
  rotate_left
  · intro w' hSw
    obtain ⟨_, c0, c1, c2, c3, d0, d1, d2, d3⟩ := hSw
    go_simp
    try (with_reducible rfl)
  try simp only [Act.put, List.setIfInBounds_toArray, List.set_cons_zero, List.set_cons_succ]
  refine seq_solo (by rfl) (fun K hK => ?_)
  go_simp
  refine hK.out _ _ (hS.later ((Below.refl _ _).alloc (Nat.le_refl _) _)) (fun hS5 => ?_)
  clear hK K
  try simp only [Act.put, List.setIfInBounds_toArray, List.set_cons_zero, List.set_cons_succ]
  refine seq_solo (by rfl) (fun K hK => ?_)
  go_simp
  refine (H5.out _ _ _ hS5 (by simp [go_sem]) (by simp [go_sem])).mono ?_
  rintro e w5 ⟨rfl, hT5⟩
  clear hS
  have hS := hT5
  clear hS5 hT5
  refine hK.out _ _ hS (fun _ => ?_)
  clear hK K
  try simp only [Act.put, List.setIfInBounds_toArray, List.set_cons_zero, List.set_cons_succ]
  refine seq_take (v := ?_) (by rfl) ?_ ?_
  rotate_left
  · intro w' hSw
    obtain ⟨_, c0, c1, c2, c3, d0, d1, d2, d3⟩ := hSw
    go_simp
    try (with_reducible rfl)
  try simp only [Act.put, List.setIfInBounds_toArray, List.set_cons_zero, List.set_cons_succ]
  refine seq_take (v := ?_) (by rfl) ?_ ?_
  rotate_left
  · intro w' hSw
    obtain ⟨_, c0, c1, c2, c3, d0, d1, d2, d3⟩ := hSw
    go_simp
    try (with_reducible rfl)
  try simp only [Act.put, List.setIfInBounds_toArray, List.set_cons_zero, List.set_cons_succ]
  refine seq_skips 53 58 false _ rfl rfl 9 (by kernel_rfl) rfl (by simp) ?_
  simp only [skipsA, List.drop_succ_cons, List.drop_zero]
  try simp only [Act.put, List.setIfInBounds_toArray, List.set_cons_zero, List.set_cons_succ]
  refine seq_take (v := ?_) (by rfl) ?_ ?_
  rotate_left
  · intro w' hSw
    obtain ⟨_, c0, c1, c2, c3, d0, d1, d2, d3⟩ := hSw
    go_simp
    try (with_reducible rfl)
  try simp only [Act.put, List.setIfInBounds_toArray, List.set_cons_zero, List.set_cons_succ]
  refine seq_take (v := ?_) (by rfl) ?_ ?_
  rotate_left
  · intro w' hSw
    obtain ⟨_, c0, c1, c2, c3, d0, d1, d2, d3⟩ := hSw
    go_simp
    try (with_reducible rfl)
  try simp only [Act.put, List.setIfInBounds_toArray, List.set_cons_zero, List.set_cons_succ]
  refine seq_skips 64 69 false _ rfl rfl 9 (by kernel_rfl) rfl (by simp) ?_
  simp only [skipsA, List.drop_succ_cons, List.drop_zero]
  try simp only [Act.put, List.setIfInBounds_toArray, List.set_cons_zero, List.set_cons_succ]
  refine seq_take (v := ?_) (by rfl) ?_ ?_
  rotate_left
  · intro w' hSw
    obtain ⟨_, c0, c1, c2, c3, d0, d1, d2, d3⟩ := hSw
    go_simp
    try (with_reducible rfl)
  try simp only [Act.put, List.setIfInBounds_toArray, List.set_cons_zero, List.set_cons_succ]
  refine seq_take (v := ?_) (by rfl) ?_ ?_
  rotate_left
  · intro w' hSw
    obtain ⟨_, c0, c1, c2, c3, d0, d1, d2, d3⟩ := hSw
    go_simp
    try (with_reducible rfl)
  try simp only [Act.put, List.setIfInBounds_toArray, List.set_cons_zero, List.set_cons_succ]
  refine seq_skips 75 80 false _ rfl rfl 9 (by kernel_rfl) rfl (by simp) ?_
  simp only [skipsA, List.drop_succ_cons, List.drop_zero]
  try simp only [Act.put, List.setIfInBounds_toArray, List.set_cons_zero, List.set_cons_succ]
  refine seq_take (v := ?_) (by rfl) ?_ ?_
  rotate_left
  · intro w' hSw
    obtain ⟨_, c0, c1, c2, c3, d0, d1, d2, d3⟩ := hSw
    go_simp
    try (with_reducible rfl)
  try simp only [Act.put, List.setIfInBounds_toArray, List.set_cons_zero, List.set_cons_succ]
  refine seq_take (v := ?_) (by rfl) ?_ ?_
  rotate_left
  · intro w' hSw
    obtain ⟨_, c0, c1, c2, c3, d0, d1, d2, d3⟩ := hSw
    go_simp
    try (with_reducible rfl)
  try simp only [Act.put, List.setIfInBounds_toArray, List.set_cons_zero, List.set_cons_succ]
  refine seq_done ?_
  go_wp2
  go_ret
  exact ⟨rfl, hS.1⟩

set_option maxHeartbeats 6400000 in
set_option maxRecDepth 100000 in
theorem ov_6 (a0 a1 a2 a3 b0 b1 b2 b3 : Int) (ga gb ka kb : Nat) (w : World) (h : SS w ga gb a0 a1 a2 a3 b0 b1 b2 b3 w)
    (H1 : Hid (∀ (d k : Nat) (w' : World), SS w ga gb a0 a1 a2 a3 b0 b1 b2 b3 w' → w'.cell? ⟨d, 0, none⟩ = some (.int .i64 a0) → w'.cell? ⟨d, 1, none⟩ = some (.int .i64 a1) → Calls Tryd.prog 57 #[.slice (some ⟨d, 0, none⟩) 2 k, .slice (some ⟨gb, 0, none⟩) 4 kb] w' fun e w'' => e = .returned (.bool false) ∧ SS w ga gb a0 a1 a2 a3 b0 b1 b2 b3 w''))
    (H2 : Hid (∀ (d k : Nat) (w' : World), SS w ga gb a0 a1 a2 a3 b0 b1 b2 b3 w' → w'.cell? ⟨d, 0, none⟩ = some (.int .i64 a2) → w'.cell? ⟨d, 1, none⟩ = some (.int .i64 a1) → Calls Tryd.prog 57 #[.slice (some ⟨d, 0, none⟩) 2 k, .slice (some ⟨gb, 0, none⟩) 4 kb] w' fun e w'' => e = .returned (.bool false) ∧ SS w ga gb a0 a1 a2 a3 b0 b1 b2 b3 w''))
    (H3 : Hid (∀ (d k : Nat) (w' : World), SS w ga gb a0 a1 a2 a3 b0 b1 b2 b3 w' → w'.cell? ⟨d, 0, none⟩ = some (.int .i64 a0) → w'.cell? ⟨d, 1, none⟩ = some (.int .i64 a3) → Calls Tryd.prog 57 #[.slice (some ⟨d, 0, none⟩) 2 k, .slice (some ⟨gb, 0, none⟩) 4 kb] w' fun e w'' => e = .returned (.bool false) ∧ SS w ga gb a0 a1 a2 a3 b0 b1 b2 b3 w''))
    (H4 : Hid (∀ (d k : Nat) (w' : World), SS w ga gb a0 a1 a2 a3 b0 b1 b2 b3 w' → w'.cell? ⟨d, 0, none⟩ = some (.int .i64 a2) → w'.cell? ⟨d, 1, none⟩ = some (.int .i64 a3) → Calls Tryd.prog 57 #[.slice (some ⟨d, 0, none⟩) 2 k, .slice (some ⟨gb, 0, none⟩) 4 kb] w' fun e w'' => e = .returned (.bool false) ∧ SS w ga gb a0 a1 a2 a3 b0 b1 b2 b3 w''))
    (H5 : Hid (∀ (d k : Nat) (w' : World), SS w ga gb a0 a1 a2 a3 b0 b1 b2 b3 w' → w'.cell? ⟨d, 0, none⟩ = some (.int .i64 b0) → w'.cell? ⟨d, 1, none⟩ = some (.int .i64 b1) → Calls Tryd.prog 57 #[.slice (some ⟨d, 0, none⟩) 2 k, .slice (some ⟨ga, 0, none⟩) 4 ka] w' fun e w'' => e = .returned (.bool false) ∧ SS w ga gb a0 a1 a2 a3 b0 b1 b2 b3 w''))
    (H6 : Hid (∀ (d k : Nat) (w' : World), SS w ga gb a0 a1 a2 a3 b0 b1 b2 b3 w' → w'.cell? ⟨d, 0, none⟩ = some (.int .i64 b2) → w'.cell? ⟨d, 1, none⟩ = some (.int .i64 b1) → Calls Tryd.prog 57 #[.slice (some ⟨d, 0, none⟩) 2 k, .slice (some ⟨ga, 0, none⟩) 4 ka] w' fun e w'' => e = .returned (.bool true) ∧ SS w ga gb a0 a1 a2 a3 b0 b1 b2 b3 w'')) :
    Calls Tryd.prog 49 #[.slice (some ⟨ga, 0, none⟩) 4 ka, .slice (some ⟨gb, 0, none⟩) 4 kb] w fun e w' => e = .returned (.bool true) ∧ Below w.heap.size w w' := by
  have hS : SS w ga gb a0 a1 a2 a3 b0 b1 b2 b3 w.drew := h.later (Below.refl _ _).drew
  clear h
  go_enter Tryd.func49, Tryd.ntmps49
  go_wp2_with fail
  simp only [List.append_eq, List.cons_append, List.nil_append]
  refine wp_region_plan ovM ovF (S := SS w ga gb a0 a1 a2 a3 b0 b1 b2 b3) (by kernel_rfl) (ov_plan _ (by kernel_rfl)) (ov_idx _ (by kernel_rfl)) (fun d _ _ _ _ h => by cases d <;> exact h) hS ?_
  unfold ovM ovF
  simp only [swaps]
  refine seq_take (v := ?_) (by rfl) ?_ ?_
  rotate_left
  · intro w' hSw
    obtain ⟨_, c0, c1, c2, c3, d0, d1, d2, d3⟩ := hSw
    go_simp
    try (with_reducible rfl)
  try simp only [Act.put, List.setIfInBounds_toArray, List.set_cons_zero, List.set_cons_succ]
  refine seq_take (v := ?_) (by rfl) ?_ ?_
  rotate_left
  · intro w' hSw
    obtain ⟨_, c0, c1, c2, c3, d0, d1, d2, d3⟩ := hSw
    go_simp
    try (with_reducible rfl)
  try simp only [Act.put, List.setIfInBounds_toArray, List.set_cons_zero, List.set_cons_succ]
  refine seq_take (v := ?_) (by rfl) ?_ ?_
  rotate_left
  · intro w' hSw
    obtain ⟨_, c0, c1, c2, c3, d0, d1, d2, d3⟩ := hSw
    go_simp
    try (with_reducible rfl)
  try simp only [Act.put, List.setIfInBounds_toArray, List.set_cons_zero, List.set_cons_succ]
  refine seq_take (v := ?_) (by rfl) ?_ ?_
  rotate_left
  · intro w' hSw
    obtain ⟨_, c0, c1, c2, c3, d0, d1, d2, d3⟩ := hSw
    go_simp
    try (with_reducible rfl)
  try simp only [Act.put, List.setIfInBounds_toArray, List.set_cons_zero, List.set_cons_succ]
  refine seq_take (v := ?_) (by rfl) ?_ ?_
  rotate_left
  · intro w' hSw
    obtain ⟨_, c0, c1, c2, c3, d0, d1, d2, d3⟩ := hSw
    go_simp
    try (with_reducible rfl)
  try simp only [Act.put, List.setIfInBounds_toArray, List.set_cons_zero, List.set_cons_succ]
  refine seq_take (v := ?_) (by rfl) ?_ ?_
  rotate_left
  · intro w' hSw
    obtain ⟨_, c0, c1, c2, c3, d0, d1, d2, d3⟩ := hSw
    go_simp
    try (with_reducible rfl)
  try simp only [Act.put, List.setIfInBounds_toArray, List.set_cons_zero, List.set_cons_succ]
  refine seq_take (v := ?_) (by rfl) ?_ ?_
  rotate_left
  · intro w' hSw
    obtain ⟨_, c0, c1, c2, c3, d0, d1, d2, d3⟩ := hSw
    go_simp
    try (with_reducible rfl)
  try simp only [Act.put, List.setIfInBounds_toArray, List.set_cons_zero, List.set_cons_succ]
  refine seq_solo (by rfl) (fun K hK => ?_)
  go_simp
  refine hK.out _ _ (hS.later ((Below.refl _ _).alloc (Nat.le_refl _) _)) (fun hS1 => ?_)
  clear hK K
  try simp only [Act.put, List.setIfInBounds_toArray, List.set_cons_zero, List.set_cons_succ]
  refine seq_solo (by rfl) (fun K hK => ?_)
  go_simp
  refine (H1.out _ _ _ hS1 (by simp [go_sem]) (by simp [go_sem])).mono ?_
  rintro e w1 ⟨rfl, hT1⟩
  clear hS
  have hS := hT1
  clear hS1 hT1
  refine hK.out _ _ hS (fun _ => ?_)
  clear hK K
  try simp only [Act.put, List.setIfInBounds_toArray, List.set_cons_zero, List.set_cons_succ]
  refine seq_take (v := ?_) (by rfl) ?_ ?_
  rotate_left
  · intro w' hSw
    obtain ⟨_, c0, c1, c2, c3, d0, d1, d2, d3⟩ := hSw
    go_simp
    try (with_reducible rfl)
  try simp only [Act.put, List.setIfInBounds_toArray, List.set_cons_zero, List.set_cons_succ]
  refine seq_take (v := ?_) (by rfl) ?_ ?_
  rotate_left
  · intro w' hSw
    obtain ⟨_, c0, c1, c2, c3, d0, d1, d2, d3⟩ := hSw
    go_simp
    try (with_reducible rfl)
  try simp only [Act.put, List.setIfInBounds_toArray, List.set_cons_zero, List.set_cons_succ]
  refine seq_take (v := ?_) (by rfl) ?_ ?_
  rotate_left
  · intro w' hSw
    obtain ⟨_, c0, c1, c2, c3, d0, d1, d2, d3⟩ := hSw
    go_simp
    try (with_reducible rfl)
  try simp only [Act.put, List.setIfInBounds_toArray, List.set_cons_zero, List.set_cons_succ]
  refine seq_take (v := ?_) (by rfl) ?_ ?_
  rotate_left
  · intro w' hSw
    obtain ⟨_, c0, c1, c2, c3, d0, d1, d2, d3⟩ := hSw
    go_simp
    try (with_reducible rfl)
  try simp only [Act.put, List.setIfInBounds_toArray, List.set_cons_zero, List.set_cons_succ]
  refine seq_take (v := ?_) (by rfl) ?_ ?_
  rotate_left
  · intro w' hSw
    obtain ⟨_, c0, c1, c2, c3, d0, d1, d2, d3⟩ := hSw
    go_simp
    try (with_reducible rfl)
  try simp only [Act.put, List.setIfInBounds_toArray, List.set_cons_zero, List.set_cons_succ]
  refine seq_take (v := ?_) (by rfl) ?_ ?_
  rotate_left
  · intro w' hSw
    obtain ⟨_, c0, c1, c2, c3, d0, d1, d2, d3⟩ := hSw
    go_simp
    try (with_reducible rfl)
  try simp only [Act.put, List.setIfInBounds_toArray, List.set_cons_zero, List.set_cons_succ]
  refine seq_take (v := ?_) (by rfl) ?_ ?_
  rotate_left
  · intro w' hSw
    obtain ⟨_, c0, c1, c2, c3, d0, d1, d2, d3⟩ := hSw
    go_simp
    try (with_reducible rfl)
  try simp only [Act.put, List.setIfInBounds_toArray, List.set_cons_zero, List.set_cons_succ]
  refine seq_take (v := ?_) (by rfl) ?_ ?_
  rotate_left
  · intro w' hSw
    obtain ⟨_, c0, c1, c2, c3, d0, d1, d2, d3⟩ := hSw
    go_simp
    try (with_reducible rfl)
  try simp only [Act.put, List.setIfInBounds_toArray, List.set_cons_zero, List.set_cons_succ]
  refine seq_solo (by rfl) (fun K hK => ?_)
  go_simp
  refine hK.out _ _ (hS.later ((Below.refl _ _).alloc (Nat.le_refl _) _)) (fun hS2 => ?_)
  clear hK K
  try simp only [Act.put, List.setIfInBounds_toArray, List.set_cons_zero, List.set_cons_succ]
  refine seq_solo (by rfl) (fun K hK => ?_)
  go_simp
  refine (H2.out _ _ _ hS2 (by simp [go_sem]) (by simp [go_sem])).mono ?_
  rintro e w2 ⟨rfl, hT2⟩
  clear hS
  have hS := hT2
  clear hS2 hT2
  refine hK.out _ _ hS (fun _ => ?_)
  clear hK K
  try simp only [Act.put, List.setIfInBounds_toArray, List.set_cons_zero, List.set_cons_succ]
  refine seq_take (v := ?_) (by rfl) ?_ ?_
  rotate_left
  · intro w' hSw
    obtain ⟨_, c0, c1, c2, c3, d0, d1, d2, d3⟩ := hSw
    go_simp
    try (with_reducible rfl)
  try simp only [Act.put, List.setIfInBounds_toArray, List.set_cons_zero, List.set_cons_succ]
  refine seq_take (v := ?_) (by rfl) ?_ ?_
  rotate_left
  · intro w' hSw
    obtain ⟨_, c0, c1, c2, c3, d0, d1, d2, d3⟩ := hSw
    go_simp
    try (with_reducible rfl)
  try simp only [Act.put, List.setIfInBounds_toArray, List.set_cons_zero, List.set_cons_succ]
  refine seq_take (v := ?_) (by rfl) ?_ ?_
  rotate_left
  · intro w' hSw
    obtain ⟨_, c0, c1, c2, c3, d0, d1, d2, d3⟩ := hSw
    go_simp
    try (with_reducible rfl)
  try simp only [Act.put, List.setIfInBounds_toArray, List.set_cons_zero, List.set_cons_succ]
  refine seq_take (v := ?_) (by rfl) ?_ ?_
  rotate_left
  · intro w' hSw
    obtain ⟨_, c0, c1, c2, c3, d0, d1, d2, d3⟩ := hSw
    go_simp
    try (with_reducible rfl)
  try simp only [Act.put, List.setIfInBounds_toArray, List.set_cons_zero, List.set_cons_succ]
  refine seq_take (v := ?_) (by rfl) ?_ ?_
  rotate_left
  · intro w' hSw
    obtain ⟨_, c0, c1, c2, c3, d0, d1, d2, d3⟩ := hSw
    go_simp
    try (with_reducible rfl)
  try simp only [Act.put, List.setIfInBounds_toArray, List.set_cons_zero, List.set_cons_succ]
  refine seq_take (v := ?_) (by rfl) ?_ ?_
  rotate_left
  · intro w' hSw
    obtain ⟨_, c0, c1, c2, c3, d0, d1, d2, d3⟩ := hSw
    go_simp
    try (with_reducible rfl)
  try simp only [Act.put, List.setIfInBounds_toArray, List.set_cons_zero, List.set_cons_succ]
  refine seq_take (v := ?_) (by rfl) ?_ ?_
  rotate_left
  · intro w' hSw
    obtain ⟨_, c0, c1, c2, c3, d0, d1, d2, d3⟩ := hSw
    go_simp
    try (with_reducible rfl)
  try simp only [Act.put, List.setIfInBounds_toArray, List.set_cons_zero, List.set_cons_succ]
  refine seq_take (v := ?_) (by rfl) ?_ ?_
  rotate_left
  · intro w' hSw
    obtain ⟨_, c0, c1, c2, c3, d0, d1, d2, d3⟩ := hSw
    go_simp
    try (with_reducible rfl)
  try simp only [Act.put, List.setIfInBounds_toArray, List.set_cons_zero, List.set_cons_succ]
  refine seq_take (v := ?_) (by rfl) ?_ ?_
  rotate_left
  · intro w' hSw
    obtain ⟨_, c0, c1, c2, c3, d0, d1, d2, d3⟩ := hSw
    go_simp
    try (with_reducible rfl)
  try simp only [Act.put, List.setIfInBounds_toArray, List.set_cons_zero, List.set_cons_succ]
  refine seq_solo (by rfl) (fun K hK => ?_)
  go_simp
  refine hK.out _ _ (hS.later ((Below.refl _ _).alloc (Nat.le_refl _) _)) (fun hS3 => ?_)
  clear hK K
  try simp only [Act.put, List.setIfInBounds_toArray, List.set_cons_zero, List.set_cons_succ]
  refine seq_solo (by rfl) (fun K hK => ?_)
  go_simp
  refine (H3.out _ _ _ hS3 (by simp [go_sem]) (by simp [go_sem])).mono ?_
  rintro e w3 ⟨rfl, hT3⟩
  clear hS
  have hS := hT3
  clear hS3 hT3
  refine hK.out _ _ hS (fun _ => ?_)
  clear hK K
  try simp only [Act.put, List.setIfInBounds_toArray, List.set_cons_zero, List.set_cons_succ]
  refine seq_take (v := ?_) (by rfl) ?_ ?_
  rotate_left
  · intro w' hSw
    obtain ⟨_, c0, c1, c2, c3, d0, d1, d2, d3⟩ := hSw
    go_simp
    try (with_reducible rfl)
  try simp only [Act.put, List.setIfInBounds_toArray, List.set_cons_zero, List.set_cons_succ]
  refine seq_take (v := ?_) (by rfl) ?_ ?_
  rotate_left
  · intro w' hSw
    obtain ⟨_, c0, c1, c2, c3, d0, d1, d2, d3⟩ := hSw
    go_simp
    try (with_reducible rfl)
  try simp only [Act.put, List.setIfInBounds_toArray, List.set_cons_zero, List.set_cons_succ]
  refine seq_take (v := ?_) (by rfl) ?_ ?_
  rotate_left
  · intro w' hSw
    obtain ⟨_, c0, c1, c2, c3, d0, d1, d2, d3⟩ := hSw
    go_simp
    try (with_reducible rfl)
  try simp only [Act.put, List.setIfInBounds_toArray, List.set_cons_zero, List.set_cons_succ]
  refine seq_take (v := ?_) (by rfl) ?_ ?_
  rotate_left
  · intro w' hSw
    obtain ⟨_, c0, c1, c2, c3, d0, d1, d2, d3⟩ := hSw
    go_simp
    try (with_reducible rfl)
  try simp only [Act.put, List.setIfInBounds_toArray, List.set_cons_zero, List.set_cons_succ]
  refine seq_take (v := ?_) (by rfl) ?_ ?_
  rotate_left
  · intro w' hSw
    obtain ⟨_, c0, c1, c2, c3, d0, d1, d2, d3⟩ := hSw
    go_simp
    try (with_reducible rfl)
  try simp only [Act.put, List.setIfInBounds_toArray, List.set_cons_zero, List.set_cons_succ]
  refine seq_take (v := ?_) (by rfl) ?_ ?_
  rotate_left
  · intro w' hSw
    obtain ⟨_, c0, c1, c2, c3, d0, d1, d2, d3⟩ := hSw
    go_simp
    try (with_reducible rfl)
  try simp only [Act.put, List.setIfInBounds_toArray, List.set_cons_zero, List.set_cons_succ]
  refine seq_take (v := ?_) (by rfl) ?_ ?_
  rotate_left
  · intro w' hSw
    obtain ⟨_, c0, c1, c2, c3, d0, d1, d2, d3⟩ := hSw
    go_simp
    try (with_reducible rfl)
  try simp only [Act.put, List.setIfInBounds_toArray, List.set_cons_zero, List.set_cons_succ]
  refine seq_take (v := ?_) (by rfl) ?_ ?_
  rotate_left
  · intro w' hSw
    obtain ⟨_, c0, c1, c2, c3, d0, d1, d2, d3⟩ := hSw
    go_simp
    try (with_reducible rfl)
  try simp only [Act.put, List.setIfInBounds_toArray, List.set_cons_zero, List.set_cons_succ]
  refine seq_take (v := ?_) (by rfl) ?_ ?_
  rotate_left
  · intro w' hSw
    obtain ⟨_, c0, c1, c2, c3, d0, d1, d2, d3⟩ := hSw
    go_simp
    try (with_reducible rfl)
  try simp only [Act.put, List.setIfInBounds_toArray, List.set_cons_zero, List.set_cons_succ]
  refine seq_solo (by rfl) (fun K hK => ?_)
  go_simp
  refine hK.out _ _ (hS.later ((Below.refl _ _).alloc (Nat.le_refl _) _)) (fun hS4 => ?_)
  clear hK K
  try simp only [Act.put, List.setIfInBounds_toArray, List.set_cons_zero, List.set_cons_succ]
  refine seq_solo (by rfl) (fun K hK => ?_)
  go_simp
  refine (H4.out _ _ _ hS4 (by simp [go_sem]) (by simp [go_sem])).mono ?_
  rintro e w4 ⟨rfl, hT4⟩
  clear hS
  have hS := hT4
  clear hS4 hT4
  refine hK.out _ _ hS (fun _ => ?_)
  clear hK K
  try simp only [Act.put, List.setIfInBounds_toArray, List.set_cons_zero, List.set_cons_succ]
  refine seq_take (v := ?_) (by rfl) ?_ ?_
  rotate_left
  · intro w' hSw
    obtain ⟨_, c0, c1, c2, c3, d0, d1, d2, d3⟩ := hSw
    go_simp
    try (with_reducible rfl)
  try simp only [Act.put, List.setIfInBounds_toArray, List.set_cons_zero, List.set_cons_succ]
  refine seq_take (v := ?_) (by rfl) ?_ ?_
  rotate_left
  · intro w' hSw
    obtain ⟨_, c0, c1, c2, c3, d0, d1, d2, d3⟩ := hSw
    go_simp
    try (with_reducible rfl)
  try simp only [Act.put, List.setIfInBounds_toArray, List.set_cons_zero, List.set_cons_succ]
  refine seq_take (v := ?_) (by rfl) ?_ ?_
  rotate_left
  · intro w' hSw
    obtain ⟨_, c0, c1, c2, c3, d0, d1, d2, d3⟩ := hSw
    go_simp
    try (with_reducible rfl)
  try simp only [Act.put, List.setIfInBounds_toArray, List.set_cons_zero, List.set_cons_succ]
  refine seq_take (v := ?_) (by rfl) ?_ ?_
  rotate_left
  · intro w' hSw
    obtain ⟨_, c0, c1, c2, c3, d0, d1, d2, d3⟩ := hSw
    go_simp
    try (with_reducible rfl)
  try simp only [Act.put, List.setIfInBounds_toArray, List.set_cons_zero, List.set_cons_succ]
  refine seq_take (v := ?_) (by rfl) ?_ ?_
  rotate_left
  · intro w' hSw
    obtain ⟨_, c0, c1, c2, c3, d0, d1, d2, d3⟩ := hSw
    go_simp
    try (with_reducible rfl)
  try simp only [Act.put, List.setIfInBounds_toArray, List.set_cons_zero, List.set_cons_succ]
  refine seq_take (v := ?_) (by rfl) ?_ ?_
  rotate_left
  · intro w' hSw
    obtain ⟨_, c0, c1, c2, c3, d0, d1, d2, d3⟩ := hSw
    go_simp
    try (with_reducible rfl)
  try simp only [Act.put, List.setIfInBounds_toArray, List.set_cons_zero, List.set_cons_succ]
  refine seq_take (v := ?_) (by rfl) ?_ ?_
  rotate_left
  · intro w' hSw
    obtain ⟨_, c0, c1, c2, c3, d0, d1, d2, d3⟩ := hSw
    go_simp
    try (with_reducible rfl)
  try simp only [Act.put, List.setIfInBounds_toArray, List.set_cons_zero, List.set_cons_succ]
  refine seq_take (v := ?_) (by rfl) ?_ ?_
  rotate_left
  · intro w' hSw
    obtain ⟨_, c0, c1, c2, c3, d0, d1, d2, d3⟩ := hSw
    go_simp
    try (with_reducible rfl)
  try simp only [Act.put, List.setIfInBounds_toArray, List.set_cons_zero, List.set_cons_succ]
  refine seq_take (v := ?_) (by rfl) ?_ ?_
  rotate_left
  · intro w' hSw
    obtain ⟨_, c0, c1, c2, c3, d0, d1, d2, d3⟩ := hSw
    go_simp
    try (with_reducible rfl)
  try simp only [Act.put, List.setIfInBounds_toArray, List.set_cons_zero, List.set_cons_succ]
  refine seq_solo (by rfl) (fun K hK => ?_)
  go_simp
  refine hK.out _ _ (hS.later ((Below.refl _ _).alloc (Nat.le_refl _) _)) (fun hS5 => ?_)
  clear hK K
  try simp only [Act.put, List.setIfInBounds_toArray, List.set_cons_zero, List.set_cons_succ]
  refine seq_solo (by rfl) (fun K hK => ?_)
  go_simp
  refine (H5.out _ _ _ hS5 (by simp [go_sem]) (by simp [go_sem])).mono ?_
  rintro e w5 ⟨rfl, hT5⟩
  clear hS
  have hS := hT5
  clear hS5 hT5
  refine hK.out _ _ hS (fun _ => ?_)
  clear hK K
  try simp only [Act.put, List.setIfInBounds_toArray, List.set_cons_zero, List.set_cons_succ]
  refine seq_take (v := ?_) (by rfl) ?_ ?_
  rotate_left
  · intro w' hSw
    obtain ⟨_, c0, c1, c2, c3, d0, d1, d2, d3⟩ := hSw
    go_simp
    try (with_reducible rfl)
  try simp only [Act.put, List.setIfInBounds_toArray, List.set_cons_zero, List.set_cons_succ]
  refine seq_take (v := ?_) (by rfl) ?_ ?_
  rotate_left
  · intro w' hSw
    obtain ⟨_, c0, c1, c2, c3, d0, d1, d2, d3⟩ := hSw
    go_simp
    try (with_reducible rfl)
  try simp only [Act.put, List.setIfInBounds_toArray, List.set_cons_zero, List.set_cons_succ]
  refine seq_take (v := ?_) (by rfl) ?_ ?_
  rotate_left
  · intro w' hSw
    obtain ⟨_, c0, c1, c2, c3, d0, d1, d2, d3⟩ := hSw
    go_simp
    try (with_reducible rfl)
  try simp only [Act.put, List.setIfInBounds_toArray, List.set_cons_zero, List.set_cons_succ]
  refine seq_take (v := ?_) (by rfl) ?_ ?_
  rotate_left
  · intro w' hSw
    obtain ⟨_, c0, c1, c2, c3, d0, d1, d2, d3⟩ := hSw
    go_simp
    try (with_reducible rfl)
  try simp only [Act.put, List.setIfInBounds_toArray, List.set_cons_zero, List.set_cons_succ]
  refine seq_take (v := ?_) (by rfl) ?_ ?_
  rotate_left
  · intro w' hSw
    obtain ⟨_, c0, c1, c2, c3, d0, d1, d2, d3⟩ := hSw
    go_simp
    try (with_reducible rfl)
  try simp only [Act.put, List.setIfInBounds_toArray, List.set_cons_zero, List.set_cons_succ]
  refine seq_take (v := ?_) (by rfl) ?_ ?_
  rotate_left
  · intro w' hSw
    obtain ⟨_, c0, c1, c2, c3, d0, d1, d2, d3⟩ := hSw
    go_simp
    try (with_reducible rfl)
  try simp only [Act.put, List.setIfInBounds_toArray, List.set_cons_zero, List.set_cons_succ]
  refine seq_take (v := ?_) (by rfl) ?_ ?_
  rotate_left
  · intro w' hSw
    obtain ⟨_, c0, c1, c2, c3, d0, d1, d2, d3⟩ := hSw
    go_simp
    try (with_reducible rfl)
  try simp only [Act.put, List.setIfInBounds_toArray, List.set_cons_zero, List.set_cons_succ]
  refine seq_take (v := ?_) (by rfl) ?_ ?_
  rotate_left
  · intro w' hSw
    obtain ⟨_, c0, c1, c2, c3, d0, d1, d2, d3⟩ := hSw
    go_simp
    try (with_reducible rfl)
  try simp only [Act.put, List.setIfInBounds_toArray, List.set_cons_zero, List.set_cons_succ]
  refine seq_take (v := ?_) (by rfl) ?_ ?_
  rotate_left
  · intro w' hSw
    obtain ⟨_, c0, c1, c2, c3, d0, d1, d2, d3⟩ := hSw
    go_simp
    try (with_reducible rfl)
  try simp only [Act.put, List.setIfInBounds_toArray, List.set_cons_zero, List.set_cons_succ]
  refine seq_solo (by rfl) (fun K hK => ?_)
  go_simp
  refine hK.out _ _ (hS.later ((Below.refl _ _).alloc (Nat.le_refl _) _)) (fun hS6 => ?_)
  clear hK K
  try simp only [Act.put, List.setIfInBounds_toArray, List.set_cons_zero, List.set_cons_succ]
  refine seq_solo (by rfl) (fun K hK => ?_)
  go_simp
  refine (H6.out _ _ _ hS6 (by simp [go_sem]) (by simp [go_sem])).mono ?_
  rintro e w6 ⟨rfl, hT6⟩
  clear hS
  have hS := hT6
  clear hS6 hT6
  refine hK.out _ _ hS (fun _ => ?_)
  clear hK K
  try simp only [Act.put, List.setIfInBounds_toArray, List.set_cons_zero, List.set_cons_succ]
  refine seq_take (v := ?_) (by rfl) ?_ ?_
  rotate_left
  · intro w' hSw
    obtain ⟨_, c0, c1, c2, c3, d0, d1, d2, d3⟩ := hSw
    go_simp
    try (with_reducible rfl)
  try simp only [Act.put, List.setIfInBounds_toArray, List.set_cons_zero, List.set_cons_succ]
  refine seq_take (v := ?_) (by rfl) ?_ ?_
  rotate_left
  · intro w' hSw
    obtain ⟨_, c0, c1, c2, c3, d0, d1, d2, d3⟩ := hSw
    go_simp
    try (with_reducible rfl)
  try simp only [Act.put, List.setIfInBounds_toArray, List.set_cons_zero, List.set_cons_succ]
  refine seq_skips 64 69 false _ rfl rfl 9 (by kernel_rfl) rfl (by simp) ?_
  simp only [skipsA, List.drop_succ_cons, List.drop_zero]
  try simp only [Act.put, List.setIfInBounds_toArray, List.set_cons_zero, List.set_cons_succ]
  refine seq_take (v := ?_) (by rfl) ?_ ?_
  rotate_left
  · intro w' hSw
    obtain ⟨_, c0, c1, c2, c3, d0, d1, d2, d3⟩ := hSw
    go_simp
    try (with_reducible rfl)
  try simp only [Act.put, List.setIfInBounds_toArray, List.set_cons_zero, List.set_cons_succ]
  refine seq_take (v := ?_) (by rfl) ?_ ?_
  rotate_left
  · intro w' hSw
    obtain ⟨_, c0, c1, c2, c3, d0, d1, d2, d3⟩ := hSw
    go_simp
    try (with_reducible rfl)
  try simp only [Act.put, List.setIfInBounds_toArray, List.set_cons_zero, List.set_cons_succ]
  refine seq_skips 75 80 false _ rfl rfl 9 (by kernel_rfl) rfl (by simp) ?_
  simp only [skipsA, List.drop_succ_cons, List.drop_zero]
  try simp only [Act.put, List.setIfInBounds_toArray, List.set_cons_zero, List.set_cons_succ]
  refine seq_take (v := ?_) (by rfl) ?_ ?_
  rotate_left
  · intro w' hSw
    obtain ⟨_, c0, c1, c2, c3, d0, d1, d2, d3⟩ := hSw
    go_simp
    try (with_reducible rfl)
  try simp only [Act.put, List.setIfInBounds_toArray, List.set_cons_zero, List.set_cons_succ]
  refine seq_take (v := ?_) (by rfl) ?_ ?_
  rotate_left
  · intro w' hSw
    obtain ⟨_, c0, c1, c2, c3, d0, d1, d2, d3⟩ := hSw
    go_simp
    try (with_reducible rfl)
  try simp only [Act.put, List.setIfInBounds_toArray, List.set_cons_zero, List.set_cons_succ]
  refine seq_done ?_
  go_wp2
  go_ret
  exact ⟨rfl, hS.1⟩

set_option maxHeartbeats 6400000 in
set_option maxRecDepth 100000 in
theorem ov_7 (a0 a1 a2 a3 b0 b1 b2 b3 : Int) (ga gb ka kb : Nat) (w : World) (h : SS w ga gb a0 a1 a2 a3 b0 b1 b2 b3 w)
    (H1 : Hid (∀ (d k : Nat) (w' : World), SS w ga gb a0 a1 a2 a3 b0 b1 b2 b3 w' → w'.cell? ⟨d, 0, none⟩ = some (.int .i64 a0) → w'.cell? ⟨d, 1, none⟩ = some (.int .i64 a1) → Calls Tryd.prog 57 #[.slice (some ⟨d, 0, none⟩) 2 k, .slice (some ⟨gb, 0, none⟩) 4 kb] w' fun e w'' => e = .returned (.bool false) ∧ SS w ga gb a0 a1 a2 a3 b0 b1 b2 b3 w''))
    (H2 : Hid (∀ (d k : Nat) (w' : World), SS w ga gb a0 a1 a2 a3 b0 b1 b2 b3 w' → w'.cell? ⟨d, 0, none⟩ = some (.int .i64 a2) → w'.cell? ⟨d, 1, none⟩ = some (.int .i64 a1) → Calls Tryd.prog 57 #[.slice (some ⟨d, 0, none⟩) 2 k, .slice (some ⟨gb, 0, none⟩) 4 kb] w' fun e w'' => e = .returned (.bool false) ∧ SS w ga gb a0 a1 a2 a3 b0 b1 b2 b3 w''))
    (H3 : Hid (∀ (d k : Nat) (w' : World), SS w ga gb a0 a1 a2 a3 b0 b1 b2 b3 w' → w'.cell? ⟨d, 0, none⟩ = some (.int .i64 a0) → w'.cell? ⟨d, 1, none⟩ = some (.int .i64 a3) → Calls Tryd.prog 57 #[.slice (some ⟨d, 0, none⟩) 2 k, .slice (some ⟨gb, 0, none⟩) 4 kb] w' fun e w'' => e = .returned (.bool false) ∧ SS w ga gb a0 a1 a2 a3 b0 b1 b2 b3 w''))
    (H4 : Hid (∀ (d k : Nat) (w' : World), SS w ga gb a0 a1 a2 a3 b0 b1 b2 b3 w' → w'.cell? ⟨d, 0, none⟩ = some (.int .i64 a2) → w'.cell? ⟨d, 1, none⟩ = some (.int .i64 a3) → Calls Tryd.prog 57 #[.slice (some ⟨d, 0, none⟩) 2 k, .slice (some ⟨gb, 0, none⟩) 4 kb] w' fun e w'' => e = .returned (.bool false) ∧ SS w ga gb a0 a1 a2 a3 b0 b1 b2 b3 w''))
    (H5 : Hid (∀ (d k : Nat) (w' : World), SS w ga gb a0 a1 a2 a3 b0 b1 b2 b3 w' → w'.cell? ⟨d, 0, none⟩ = some (.int .i64 b0) → w'.cell? ⟨d, 1, none⟩ = some (.int .i64 b1) → Calls Tryd.prog 57 #[.slice (some ⟨d, 0, none⟩) 2 k, .slice (some ⟨ga, 0, none⟩) 4 ka] w' fun e w'' => e = .returned (.bool false) ∧ SS w ga gb a0 a1 a2 a3 b0 b1 b2 b3 w''))
    (H6 : Hid (∀ (d k : Nat) (w' : World), SS w ga gb a0 a1 a2 a3 b0 b1 b2 b3 w' → w'.cell? ⟨d, 0, none⟩ = some (.int .i64 b2) → w'.cell? ⟨d, 1, none⟩ = some (.int .i64 b1) → Calls Tryd.prog 57 #[.slice (some ⟨d, 0, none⟩) 2 k, .slice (some ⟨ga, 0, none⟩) 4 ka] w' fun e w'' => e = .returned (.bool false) ∧ SS w ga gb a0 a1 a2 a3 b0 b1 b2 b3 w''))
    (H7 : Hid (∀ (d k : Nat) (w' : World), SS w ga gb a0 a1 a2 a3 b0 b1 b2 b3 w' → w'.cell? ⟨d, 0, none⟩ = some (.int .i64 b0) → w'.cell? ⟨d, 1, none⟩ = some (.int .i64 b3) → Calls Tryd.prog 57 #[.slice (some ⟨d, 0, none⟩) 2 k, .slice (some ⟨ga, 0, none⟩) 4 ka] w' fun e w'' => e = .returned (.bool true) ∧ SS w ga gb a0 a1 a2 a3 b0 b1 b2 b3 w'')) :
    Calls Tryd.prog 49 #[.slice (some ⟨ga, 0, none⟩) 4 ka, .slice (some ⟨gb, 0, none⟩) 4 kb] w fun e w' => e = .returned (.bool true) ∧ Below w.heap.size w w' := by
  have hS : SS w ga gb a0 a1 a2 a3 b0 b1 b2 b3 w.drew := h.later (Below.refl _ _).drew
  clear h
  go_enter Tryd.func49, Tryd.ntmps49
  go_wp2_with fail
  simp only [List.append_eq, List.cons_append, List.nil_append]
  refine wp_region_plan ovM ovF (S := SS w ga gb a0 a1 a2 a3 b0 b1 b2 b3) (by kernel_rfl) (ov_plan _ (by kernel_rfl)) (ov_idx _ (by kernel_rfl)) (fun d _ _ _ _ h => by cases d <;> exact h) hS ?_
  unfold ovM ovF
  simp only [swaps]
  refine seq_take (v := ?_) (by rfl) ?_ ?_
  rotate_left
  · intro w' hSw
    obtain ⟨_, c0, c1, c2, c3, d0, d1, d2, d3⟩ := hSw
    go_simp
    try (with_reducible rfl)
  try simp only [Act.put, List.setIfInBounds_toArray, List.set_cons_zero, List.set_cons_succ]
  refine seq_take (v := ?_) (by rfl) ?_ ?_
  rotate_left
  · intro w' hSw
    obtain ⟨_, c0, c1, c2, c3, d0, d1, d2, d3⟩ := hSw
    go_simp
    try (with_reducible rfl)
  try simp only [Act.put, List.setIfInBounds_toArray, List.set_cons_zero, List.set_cons_succ]
  refine seq_take (v := ?_) (by rfl) ?_ ?_
  rotate_left
  · intro w' hSw
    obtain ⟨_, c0, c1, c2, c3, d0, d1, d2, d3⟩ := hSw
    go_simp
    try (with_reducible rfl)
  try simp only [Act.put, List.setIfInBounds_toArray, List.set_cons_zero, List.set_cons_succ]
  refine seq_take (v := ?_) (by rfl) ?_ ?_
  rotate_left
  · intro w' hSw
    obtain ⟨_, c0, c1, c2, c3, d0, d1, d2, d3⟩ := hSw
    go_simp
    try (with_reducible rfl)
  try simp only [Act.put, List.setIfInBounds_toArray, List.set_cons_zero, List.set_cons_succ]
  refine seq_take (v := ?_) (by rfl) ?_ ?_
  rotate_left
  · intro w' hSw
    obtain ⟨_, c0, c1, c2, c3, d0, d1, d2, d3⟩ := hSw
    go_simp
    try (with_reducible rfl)
  try simp only [Act.put, List.setIfInBounds_toArray, List.set_cons_zero, List.set_cons_succ]
  refine seq_take (v := ?_) (by rfl) ?_ ?_
  rotate_left
  · intro w' hSw
    obtain ⟨_, c0, c1, c2, c3, d0, d1, d2, d3⟩ := hSw
    go_simp
    try (with_reducible rfl)
  try simp only [Act.put, List.setIfInBounds_toArray, List.set_cons_zero, List.set_cons_succ]
  refine seq_take (v := ?_) (by rfl) ?_ ?_
  rotate_left
  · intro w' hSw
    obtain ⟨_, c0, c1, c2, c3, d0, d1, d2, d3⟩ := hSw
    go_simp
    try (with_reducible rfl)
  try simp only [Act.put, List.setIfInBounds_toArray, List.set_cons_zero, List.set_cons_succ]
  refine seq_solo (by rfl) (fun K hK => ?_)
  go_simp
  refine hK.out _ _ (hS.later ((Below.refl _ _).alloc (Nat.le_refl _) _)) (fun hS1 => ?_)
  clear hK K
  try simp only [Act.put, List.setIfInBounds_toArray, List.set_cons_zero, List.set_cons_succ]
  refine seq_solo (by rfl) (fun K hK => ?_)
  go_simp
  refine (H1.out _ _ _ hS1 (by simp [go_sem]) (by simp [go_sem])).mono ?_
  rintro e w1 ⟨rfl, hT1⟩
  clear hS
  have hS := hT1
  clear hS1 hT1
  refine hK.out _ _ hS (fun _ => ?_)
  clear hK K
  try simp only [Act.put, List.setIfInBounds_toArray, List.set_cons_zero, List.set_cons_succ]
  refine seq_take (v := ?_) (by rfl) ?_ ?_
  rotate_left
  · intro w' hSw
    obtain ⟨_, c0, c1, c2, c3, d0, d1, d2, d3⟩ := hSw
    go_simp
    try (with_reducible rfl)
  try simp only [Act.put, List.setIfInBounds_toArray, List.set_cons_zero, List.set_cons_succ]
  refine seq_take (v := ?_) (by rfl) ?_ ?_
  rotate_left
  · intro w' hSw
    obtain ⟨_, c0, c1, c2, c3, d0, d1, d2, d3⟩ := hSw
    go_simp
    try (with_reducible rfl)
  try simp only [Act.put, List.setIfInBounds_toArray, List.set_cons_zero, List.set_cons_succ]
  refine seq_take (v := ?_) (by rfl) ?_ ?_
  rotate_left
  · intro w' hSw
    obtain ⟨_, c0, c1, c2, c3, d0, d1, d2, d3⟩ := hSw
    go_simp
    try (with_reducible rfl)
  try simp only [Act.put, List.setIfInBounds_toArray, List.set_cons_zero, List.set_cons_succ]
  refine seq_take (v := ?_) (by rfl) ?_ ?_
  rotate_left
  · intro w' hSw
    obtain ⟨_, c0, c1, c2, c3, d0, d1, d2, d3⟩ := hSw
    go_simp
    try (with_reducible rfl)
  try simp only [Act.put, List.setIfInBounds_toArray, List.set_cons_zero, List.set_cons_succ]
  refine seq_take (v := ?_) (by rfl) ?_ ?_
  rotate_left
  · intro w' hSw
    obtain ⟨_, c0, c1, c2, c3, d0, d1, d2, d3⟩ := hSw
    go_simp
    try (with_reducible rfl)
  try simp only [Act.put, List.setIfInBounds_toArray, List.set_cons_zero, List.set_cons_succ]
  refine seq_take (v := ?_) (by rfl) ?_ ?_
  rotate_left
  · intro w' hSw
    obtain ⟨_, c0, c1, c2, c3, d0, d1, d2, d3⟩ := hSw
    go_simp
    try (with_reducible rfl)
  try simp only [Act.put, List.setIfInBounds_toArray, List.set_cons_zero, List.set_cons_succ]
  refine seq_take (v := ?_) (by rfl) ?_ ?_
  rotate_left
  · intro w' hSw
    obtain ⟨_, c0, c1, c2, c3, d0, d1, d2, d3⟩ := hSw
    go_simp
    try (with_reducible rfl)
  try simp only [Act.put, List.setIfInBounds_toArray, List.set_cons_zero, List.set_cons_succ]
  refine seq_take (v := ?_) (by rfl) ?_ ?_
  rotate_left
  · intro w' hSw
    obtain ⟨_, c0, c1, c2, c3, d0, d1, d2, d3⟩ := hSw
    go_simp
    try (with_reducible rfl)
  try simp only [Act.put, List.setIfInBounds_toArray, List.set_cons_zero, List.set_cons_succ]
  refine seq_solo (by rfl) (fun K hK => ?_)
  go_simp
  refine hK.out _ _ (hS.later ((Below.refl _ _).alloc (Nat.le_refl _) _)) (fun hS2 => ?_)
  clear hK K
  try simp only [Act.put, List.setIfInBounds_toArray, List.set_cons_zero, List.set_cons_succ]
  refine seq_solo (by rfl) (fun K hK => ?_)
  go_simp
  refine (H2.out _ _ _ hS2 (by simp [go_sem]) (by simp [go_sem])).mono ?_
  rintro e w2 ⟨rfl, hT2⟩
  clear hS
  have hS := hT2
  clear hS2 hT2
  refine hK.out _ _ hS (fun _ => ?_)
  clear hK K
  try simp only [Act.put, List.setIfInBounds_toArray, List.set_cons_zero, List.set_cons_succ]
  refine seq_take (v := ?_) (by rfl) ?_ ?_
  rotate_left
  · intro w' hSw
    obtain ⟨_, c0, c1, c2, c3, d0, d1, d2, d3⟩ := hSw
    go_simp
    try (with_reducible rfl)
  try simp only [Act.put, List.setIfInBounds_toArray, List.set_cons_zero, List.set_cons_succ]
  refine seq_take (v := ?_) (by rfl) ?_ ?_
  rotate_left
  · intro w' hSw
    obtain ⟨_, c0, c1, c2, c3, d0, d1, d2, d3⟩ := hSw
    go_simp
    try (with_reducible rfl)
  try simp only [Act.put, List.setIfInBounds_toArray, List.set_cons_zero, List.set_cons_succ]
  refine seq_take (v := ?_) (by rfl) ?_ ?_
  rotate_left
  · intro w' hSw
    obtain ⟨_, c0, c1, c2, c3, d0, d1, d2, d3⟩ := hSw
    go_simp
    try (with_reducible rfl)
  try simp only [Act.put, List.setIfInBounds_toArray, List.set_cons_zero, List.set_cons_succ]
  refine seq_take (v := ?_) (by rfl) ?_ ?_
  rotate_left
  · intro w' hSw
    obtain ⟨_, c0, c1, c2, c3, d0, d1, d2, d3⟩ := hSw
    go_simp
    try (with_reducible rfl)
  try simp only [Act.put, List.setIfInBounds_toArray, List.set_cons_zero, List.set_cons_succ]
  refine seq_take (v := ?_) (by rfl) ?_ ?_
  rotate_left
  · intro w' hSw
    obtain ⟨_, c0, c1, c2, c3, d0, d1, d2, d3⟩ := hSw
    go_simp
    try (with_reducible rfl)
  try simp only [Act.put, List.setIfInBounds_toArray, List.set_cons_zero, List.set_cons_succ]
  refine seq_take (v := ?_) (by rfl) ?_ ?_
  rotate_left
  · intro w' hSw
    obtain ⟨_, c0, c1, c2, c3, d0, d1, d2, d3⟩ := hSw
    go_simp
    try (with_reducible rfl)
  try simp only [Act.put, List.setIfInBounds_toArray, List.set_cons_zero, List.set_cons_succ]
  refine seq_take (v := ?_) (by rfl) ?_ ?_
  rotate_left
  · intro w' hSw
    obtain ⟨_, c0, c1, c2, c3, d0, d1, d2, d3⟩ := hSw
    go_simp
    try (with_reducible rfl)
  try simp only [Act.put, List.setIfInBounds_toArray, List.set_cons_zero, List.set_cons_succ]
  refine seq_take (v := ?_) (by rfl) ?_ ?_
  rotate_left
  · intro w' hSw
    obtain ⟨_, c0, c1, c2, c3, d0, d1, d2, d3⟩ := hSw
    go_simp
    try (with_reducible rfl)
  try simp only [Act.put, List.setIfInBounds_toArray, List.set_cons_zero, List.set_cons_succ]
  refine seq_take (v := ?_) (by rfl) ?_ ?_
  rotate_left
  · intro w' hSw
    obtain ⟨_, c0, c1, c2, c3, d0, d1, d2, d3⟩ := hSw
    go_simp
    try (with_reducible rfl)
  try simp only [Act.put, List.setIfInBounds_toArray, List.set_cons_zero, List.set_cons_succ]
  refine seq_solo (by rfl) (fun K hK => ?_)
  go_simp
  refine hK.out _ _ (hS.later ((Below.refl _ _).alloc (Nat.le_refl _) _)) (fun hS3 => ?_)
  clear hK K
  try simp only [Act.put, List.setIfInBounds_toArray, List.set_cons_zero, List.set_cons_succ]
  refine seq_solo (by rfl) (fun K hK => ?_)
  go_simp
  refine (H3.out _ _ _ hS3 (by simp [go_sem]) (by simp [go_sem])).mono ?_
  rintro e w3 ⟨rfl, hT3⟩
  clear hS
  have hS := hT3
  clear hS3 hT3
  refine hK.out _ _ hS (fun _ => ?_)
  clear hK K
  try simp only [Act.put, List.setIfInBounds_toArray, List.set_cons_zero, List.set_cons_succ]
  refine seq_take (v := ?_) (by rfl) ?_ ?_
  rotate_left
  · intro w' hSw
    obtain ⟨_, c0, c1, c2, c3, d0, d1, d2, d3⟩ := hSw
    go_simp
    try (with_reducible rfl)
  try simp only [Act.put, List.setIfInBounds_toArray, List.set_cons_zero, List.set_cons_succ]
  refine seq_take (v := ?_) (by rfl) ?_ ?_
  rotate_left
  · intro w' hSw
    obtain ⟨_, c0, c1, c2, c3, d0, d1, d2, d3⟩ := hSw
    go_simp
    try (with_reducible rfl)
  try simp only [Act.put, List.setIfInBounds_toArray, List.set_cons_zero, List.set_cons_succ]
  refine seq_take (v := ?_) (by rfl) ?_ ?_
  rotate_left
  · intro w' hSw
    obtain ⟨_, c0, c1, c2, c3, d0, d1, d2, d3⟩ := hSw
    go_simp
    try (with_reducible rfl)
  try simp only [Act.put, List.setIfInBounds_toArray, List.set_cons_zero, List.set_cons_succ]
  refine seq_take (v := ?_) (by rfl) ?_ ?_
  rotate_left
  · intro w' hSw
    obtain ⟨_, c0, c1, c2, c3, d0, d1, d2, d3⟩ := hSw
    go_simp
    try (with_reducible rfl)
  try simp only [Act.put, List.setIfInBounds_toArray, List.set_cons_zero, List.set_cons_succ]
  refine seq_take (v := ?_) (by rfl) ?_ ?_
  rotate_left
  · intro w' hSw
    obtain ⟨_, c0, c1, c2, c3, d0, d1, d2, d3⟩ := hSw
    go_simp
    try (with_reducible rfl)
  try simp only [Act.put, List.setIfInBounds_toArray, List.set_cons_zero, List.set_cons_succ]
  refine seq_take (v := ?_) (by rfl) ?_ ?_
  rotate_left
  · intro w' hSw
    obtain ⟨_, c0, c1, c2, c3, d0, d1, d2, d3⟩ := hSw
    go_simp
    try (with_reducible rfl)
  try simp only [Act.put, List.setIfInBounds_toArray, List.set_cons_zero, List.set_cons_succ]
  refine seq_take (v := ?_) (by rfl) ?_ ?_
  rotate_left
  · intro w' hSw
    obtain ⟨_, c0, c1, c2, c3, d0, d1, d2, d3⟩ := hSw
    go_simp
    try (with_reducible rfl)
  try simp only [Act.put, List.setIfInBounds_toArray, List.set_cons_zero, List.set_cons_succ]
  refine seq_take (v := ?_) (by rfl) ?_ ?_
  rotate_left
  · intro w' hSw
    obtain ⟨_, c0, c1, c2, c3, d0, d1, d2, d3⟩ := hSw
    go_simp
    try (with_reducible rfl)
  try simp only [Act.put, List.setIfInBounds_toArray, List.set_cons_zero, List.set_cons_succ]
  refine seq_take (v := ?_) (by rfl) ?_ ?_
  rotate_left
  · intro w' hSw
    obtain ⟨_, c0, c1, c2, c3, d0, d1, d2, d3⟩ := hSw
    go_simp
    try (with_reducible rfl)
  try simp only [Act.put, List.setIfInBounds_toArray, List.set_cons_zero, List.set_cons_succ]
  refine seq_solo (by rfl) (fun K hK => ?_)
  go_simp
  refine hK.out _ _ (hS.later ((Below.refl _ _).alloc (Nat.le_refl _) _)) (fun hS4 => ?_)
  clear hK K
  try simp only [Act.put, List.setIfInBounds_toArray, List.set_cons_zero, List.set_cons_succ]
  refine seq_solo (by rfl) (fun K hK => ?_)
  go_simp
  refine (H4.out _ _ _ hS4 (by simp [go_sem]) (by simp [go_sem])).mono ?_
  rintro e w4 ⟨rfl, hT4⟩
  clear hS
  have hS := hT4
  clear hS4 hT4
  refine hK.out _ _ hS (fun _ => ?_)
  clear hK K
  try simp only [Act.put, List.setIfInBounds_toArray, List.set_cons_zero, List.set_cons_succ]
  refine seq_take (v := ?_) (by rfl) ?_ ?_
  rotate_left
  · intro w' hSw
    obtain ⟨_, c0, c1, c2, c3, d0, d1, d2, d3⟩ := hSw
    go_simp
    try (with_reducible rfl)
  try simp only [Act.put, List.setIfInBounds_toArray, List.set_cons_zero, List.set_cons_succ]
  refine seq_take (v := ?_) (by rfl) ?_ ?_
  rotate_left
  · intro w' hSw
    obtain ⟨_, c0, c1, c2, c3, d0, d1, d2, d3⟩ := hSw
    go_simp
    try (with_reducible rfl)
  try simp only [Act.put, List.setIfInBounds_toArray, List.set_cons_zero, List.set_cons_succ]
  refine seq_take (v := ?_) (by rfl) ?_ ?_
  rotate_left
  · intro w' hSw
    obtain ⟨_, c0, c1, c2, c3, d0, d1, d2, d3⟩ := hSw
    go_simp
    try (with_reducible rfl)
  try simp only [Act.put, List.setIfInBounds_toArray, List.set_cons_zero, List.set_cons_succ]
  refine seq_take (v := ?_) (by rfl) ?_ ?_
  rotate_left
  · intro w' hSw
    obtain ⟨_, c0, c1, c2, c3, d0, d1, d2, d3⟩ := hSw
    go_simp
    try (with_reducible rfl)
  try simp only [Act.put, List.setIfInBounds_toArray, List.set_cons_zero, List.set_cons_succ]
  refine seq_take (v := ?_) (by rfl) ?_ ?_
  rotate_left
  · intro w' hSw
    obtain ⟨_, c0, c1, c2, c3, d0, d1, d2, d3⟩ := hSw
    go_simp
    try (with_reducible rfl)
  try simp only [Act.put, List.setIfInBounds_toArray, List.set_cons_zero, List.set_cons_succ]
  refine seq_take (v := ?_) (by rfl) ?_ ?_
  rotate_left
  · intro w' hSw
    obtain ⟨_, c0, c1, c2, c3, d0, d1, d2, d3⟩ := hSw
    go_simp
    try (with_reducible rfl)
  try simp only [Act.put, List.setIfInBounds_toArray, List.set_cons_zero, List.set_cons_succ]
  refine seq_take (v := ?_) (by rfl) ?_ ?_
  rotate_left
  · intro w' hSw
    obtain ⟨_, c0, c1, c2, c3, d0, d1, d2, d3⟩ := hSw
    go_simp
    try (with_reducible rfl)
  try simp only [Act.put, List.setIfInBounds_toArray, List.set_cons_zero, List.set_cons_succ]
  refine seq_take (v := ?_) (by rfl) ?_ ?_
  rotate_left
  · intro w' hSw
    obtain ⟨_, c0, c1, c2, c3, d0, d1, d2, d3⟩ := hSw
    go_simp
    try (with_reducible rfl)
  try simp only [Act.put, List.setIfInBounds_toArray, List.set_cons_zero, List.set_cons_succ]
  refine seq_take (v := ?_) (by rfl) ?_ ?_
  rotate_left
  · intro w' hSw
    obtain ⟨_, c0, c1, c2, c3, d0, d1, d2, d3⟩ := hSw
    go_simp
    try (with_reducible rfl)
  try simp only [Act.put, List.setIfInBounds_toArray, List.set_cons_zero, List.set_cons_succ]
  refine seq_solo (by rfl) (fun K hK => ?_)
  go_simp
  refine hK.out _ _ (hS.later ((Below.refl _ _).alloc (Nat.le_refl _) _)) (fun hS5 => ?_)
  clear hK K
  try simp only [Act.put, List.setIfInBounds_toArray, List.set_cons_zero, List.set_cons_succ]
  refine seq_solo (by rfl) (fun K hK => ?_)
  go_simp
  refine (H5.out _ _ _ hS5 (by simp [go_sem]) (by simp [go_sem])).mono ?_
  rintro e w5 ⟨rfl, hT5⟩
  clear hS
  have hS := hT5
  clear hS5 hT5
  refine hK.out _ _ hS (fun _ => ?_)
  clear hK K
  try simp only [Act.put, List.setIfInBounds_toArray, List.set_cons_zero, List.set_cons_succ]
  refine seq_take (v := ?_) (by rfl) ?_ ?_
  rotate_left
  · intro w' hSw
    obtain ⟨_, c0, c1, c2, c3, d0, d1, d2, d3⟩ := hSw
    go_simp
    try (with_reducible rfl)
  try simp only [Act.put, List.setIfInBounds_toArray, List.set_cons_zero, List.set_cons_succ]
  refine seq_take (v := ?_) (by rfl) ?_ ?_
  rotate_left
  · intro w' hSw
    obtain ⟨_, c0, c1, c2, c3, d0, d1, d2, d3⟩ := hSw
    go_simp
    try (with_reducible rfl)
  try simp only [Act.put, List.setIfInBounds_toArray, List.set_cons_zero, List.set_cons_succ]
  refine seq_take (v := ?_) (by rfl) ?_ ?_
  rotate_left
  · intro w' hSw
    obtain ⟨_, c0, c1, c2, c3, d0, d1, d2, d3⟩ := hSw
    go_simp
    try (with_reducible rfl)
  try simp only [Act.put, List.setIfInBounds_toArray, List.set_cons_zero, List.set_cons_succ]
  refine seq_take (v := ?_) (by rfl) ?_ ?_
  rotate_left
  · intro w' hSw
    obtain ⟨_, c0, c1, c2, c3, d0, d1, d2, d3⟩ := hSw
    go_simp
    try (with_reducible rfl)
  try simp only [Act.put, List.setIfInBounds_toArray, List.set_cons_zero, List.set_cons_succ]
  refine seq_take (v := ?_) (by rfl) ?_ ?_
  rotate_left
  · intro w' hSw
    obtain ⟨_, c0, c1, c2, c3, d0, d1, d2, d3⟩ := hSw
    go_simp
    try (with_reducible rfl)
  try simp only [Act.put, List.setIfInBounds_toArray, List.set_cons_zero, List.set_cons_succ]
  refine seq_take (v := ?_) (by rfl) ?_ ?_
  rotate_left
  · intro w' hSw
    obtain ⟨_, c0, c1, c2, c3, d0, d1, d2, d3⟩ := hSw
    go_simp
    try (with_reducible rfl)
  try simp only [Act.put, List.setIfInBounds_toArray, List.set_cons_zero, List.set_cons_succ]
  refine seq_take (v := ?_) (by rfl) ?_ ?_
  rotate_left
  · intro w' hSw
    obtain ⟨_, c0, c1, c2, c3, d0, d1, d2, d3⟩ := hSw
    go_simp
    try (with_reducible rfl)
  try simp only [Act.put, List.setIfInBounds_toArray, List.set_cons_zero, List.set_cons_succ]
  refine seq_take (v := ?_) (by rfl) ?_ ?_
  rotate_left
  · intro w' hSw
    obtain ⟨_, c0, c1, c2, c3, d0, d1, d2, d3⟩ := hSw
    go_simp
    try (with_reducible rfl)
  try simp only [Act.put, List.setIfInBounds_toArray, List.set_cons_zero, List.set_cons_succ]
  refine seq_take (v := ?_) (by rfl) ?_ ?_
  rotate_left
  · intro w' hSw
    obtain ⟨_, c0, c1, c2, c3, d0, d1, d2, d3⟩ := hSw
    go_simp
    try (with_reducible rfl)
  try simp only [Act.put, List.setIfInBounds_toArray, List.set_cons_zero, List.set_cons_succ]
  refine seq_solo (by rfl) (fun K hK => ?_)
  go_simp
  refine hK.out _ _ (hS.later ((Below.refl _ _).alloc (Nat.le_refl _) _)) (fun hS6 => ?_)
  clear hK K
  try simp only [Act.put, List.setIfInBounds_toArray, List.set_cons_zero, List.set_cons_succ]
  refine seq_solo (by rfl) (fun K hK => ?_)
  go_simp
  refine (H6.out _ _ _ hS6 (by simp [go_sem]) (by simp [go_sem])).mono ?_
  rintro e w6 ⟨rfl, hT6⟩
  clear hS
  have hS := hT6
  clear hS6 hT6
  refine hK.out _ _ hS (fun _ => ?_)
  clear hK K
  try simp only [Act.put, List.setIfInBounds_toArray, List.set_cons_zero, List.set_cons_succ]
  refine seq_take (v := ?_) (by rfl) ?_ ?_
  rotate_left
  · intro w' hSw
    obtain ⟨_, c0, c1, c2, c3, d0, d1, d2, d3⟩ := hSw
    go_simp
    try (with_reducible rfl)
  try simp only [Act.put, List.setIfInBounds_toArray, List.set_cons_zero, List.set_cons_succ]
  refine seq_take (v := ?_) (by rfl) ?_ ?_
  rotate_left
  · intro w' hSw
    obtain ⟨_, c0, c1, c2, c3, d0, d1, d2, d3⟩ := hSw
    go_simp
    try (with_reducible rfl)
  try simp only [Act.put, List.setIfInBounds_toArray, List.set_cons_zero, List.set_cons_succ]
  refine seq_take (v := ?_) (by rfl) ?_ ?_
  rotate_left
  · intro w' hSw
    obtain ⟨_, c0, c1, c2, c3, d0, d1, d2, d3⟩ := hSw
    go_simp
    try (with_reducible rfl)
  try simp only [Act.put, List.setIfInBounds_toArray, List.set_cons_zero, List.set_cons_succ]
  refine seq_take (v := ?_) (by rfl) ?_ ?_
  rotate_left
  · intro w' hSw
    obtain ⟨_, c0, c1, c2, c3, d0, d1, d2, d3⟩ := hSw
    go_simp
    try (with_reducible rfl)
  try simp only [Act.put, List.setIfInBounds_toArray, List.set_cons_zero, List.set_cons_succ]
  refine seq_take (v := ?_) (by rfl) ?_ ?_
  rotate_left
  · intro w' hSw
    obtain ⟨_, c0, c1, c2, c3, d0, d1, d2, d3⟩ := hSw
    go_simp
    try (with_reducible rfl)
  try simp only [Act.put, List.setIfInBounds_toArray, List.set_cons_zero, List.set_cons_succ]
  refine seq_take (v := ?_) (by rfl) ?_ ?_
  rotate_left
  · intro w' hSw
    obtain ⟨_, c0, c1, c2, c3, d0, d1, d2, d3⟩ := hSw
    go_simp
    try (with_reducible rfl)
  try simp only [Act.put, List.setIfInBounds_toArray, List.set_cons_zero, List.set_cons_succ]
  refine seq_take (v := ?_) (by rfl) ?_ ?_
  rotate_left
  · intro w' hSw
    obtain ⟨_, c0, c1, c2, c3, d0, d1, d2, d3⟩ := hSw
    go_simp
    try (with_reducible rfl)
  try simp only [Act.put, List.setIfInBounds_toArray, List.set_cons_zero, List.set_cons_succ]
  refine seq_take (v := ?_) (by rfl) ?_ ?_
  rotate_left
  · intro w' hSw
    obtain ⟨_, c0, c1, c2, c3, d0, d1, d2, d3⟩ := hSw
    go_simp
    try (with_reducible rfl)
  try simp only [Act.put, List.setIfInBounds_toArray, List.set_cons_zero, List.set_cons_succ]
  refine seq_take (v := ?_) (by rfl) ?_ ?_
  rotate_left
  · intro w' hSw
    obtain ⟨_, c0, c1, c2, c3, d0, d1, d2, d3⟩ := hSw
    go_simp
    try (with_reducible rfl)
  try simp only [Act.put, List.setIfInBounds_toArray, List.set_cons_zero, List.set_cons_succ]
  refine seq_solo (by rfl) (fun K hK => ?_)
  go_simp
  refine hK.out _ _ (hS.later ((Below.refl _ _).alloc (Nat.le_refl _) _)) (fun hS7 => ?_)
  clear hK K
  try simp only [Act.put, List.setIfInBounds_toArray, List.set_cons_zero, List.set_cons_succ]
  refine seq_solo (by rfl) (fun K hK => ?_)
  go_simp
  refine (H7.out _ _ _ hS7 (by simp [go_sem]) (by simp [go_sem])).mono ?_
  rintro e w7 ⟨rfl, hT7⟩
  clear hS
  have hS := hT7
  clear hS7 hT7
  refine hK.out _ _ hS (fun _ => ?_)
  clear hK K
  try simp only [Act.put, List.setIfInBounds_toArray, List.set_cons_zero, List.set_cons_succ]
  refine seq_take (v := ?_) (by rfl) ?_ ?_
  rotate_left
  · intro w' hSw
    obtain ⟨_, c0, c1, c2, c3, d0, d1, d2, d3⟩ := hSw
    go_simp
    try (with_reducible rfl)
  try simp only [Act.put, List.setIfInBounds_toArray, List.set_cons_zero, List.set_cons_succ]
  refine seq_take (v := ?_) (by rfl) ?_ ?_
  rotate_left
  · intro w' hSw
    obtain ⟨_, c0, c1, c2, c3, d0, d1, d2, d3⟩ := hSw
    go_simp
    try (with_reducible rfl)
  try simp only [Act.put, List.setIfInBounds_toArray, List.set_cons_zero, List.set_cons_succ]
  refine seq_skips 75 80 false _ rfl rfl 9 (by kernel_rfl) rfl (by simp) ?_
  simp only [skipsA, List.drop_succ_cons, List.drop_zero]
  try simp only [Act.put, List.setIfInBounds_toArray, List.set_cons_zero, List.set_cons_succ]
  refine seq_take (v := ?_) (by rfl) ?_ ?_
  rotate_left
  · intro w' hSw
    obtain ⟨_, c0, c1, c2, c3, d0, d1, d2, d3⟩ := hSw
    go_simp
    try (with_reducible rfl)
  try simp only [Act.put, List.setIfInBounds_toArray, List.set_cons_zero, List.set_cons_succ]
  refine seq_take (v := ?_) (by rfl) ?_ ?_
  rotate_left
  · intro w' hSw
    obtain ⟨_, c0, c1, c2, c3, d0, d1, d2, d3⟩ := hSw
    go_simp
    try (with_reducible rfl)
  try simp only [Act.put, List.setIfInBounds_toArray, List.set_cons_zero, List.set_cons_succ]
  refine seq_done ?_
  go_wp2
  go_ret
  exact ⟨rfl, hS.1⟩

set_option maxHeartbeats 6400000 in
set_option maxRecDepth 100000 in
theorem ov_8 (a0 a1 a2 a3 b0 b1 b2 b3 : Int) (ga gb ka kb : Nat) (w : World) (h : SS w ga gb a0 a1 a2 a3 b0 b1 b2 b3 w)
    (H1 : Hid (∀ (d k : Nat) (w' : World), SS w ga gb a0 a1 a2 a3 b0 b1 b2 b3 w' → w'.cell? ⟨d, 0, none⟩ = some (.int .i64 a0) → w'.cell? ⟨d, 1, none⟩ = some (.int .i64 a1) → Calls Tryd.prog 57 #[.slice (some ⟨d, 0, none⟩) 2 k, .slice (some ⟨gb, 0, none⟩) 4 kb] w' fun e w'' => e = .returned (.bool false) ∧ SS w ga gb a0 a1 a2 a3 b0 b1 b2 b3 w''))
    (H2 : Hid (∀ (d k : Nat) (w' : World), SS w ga gb a0 a1 a2 a3 b0 b1 b2 b3 w' → w'.cell? ⟨d, 0, none⟩ = some (.int .i64 a2) → w'.cell? ⟨d, 1, none⟩ = some (.int .i64 a1) → Calls Tryd.prog 57 #[.slice (some ⟨d, 0, none⟩) 2 k, .slice (some ⟨gb, 0, none⟩) 4 kb] w' fun e w'' => e = .returned (.bool false) ∧ SS w ga gb a0 a1 a2 a3 b0 b1 b2 b3 w''))
    (H3 : Hid (∀ (d k : Nat) (w' : World), SS w ga gb a0 a1 a2 a3 b0 b1 b2 b3 w' → w'.cell? ⟨d, 0, none⟩ = some (.int .i64 a0) → w'.cell? ⟨d, 1, none⟩ = some (.int .i64 a3) → Calls Tryd.prog 57 #[.slice (some ⟨d, 0, none⟩) 2 k, .slice (some ⟨gb, 0, none⟩) 4 kb] w' fun e w'' => e = .returned (.bool false) ∧ SS w ga gb a0 a1 a2 a3 b0 b1 b2 b3 w''))
    (H4 : Hid (∀ (d k : Nat) (w' : World), SS w ga gb a0 a1 a2 a3 b0 b1 b2 b3 w' → w'.cell? ⟨d, 0, none⟩ = some (.int .i64 a2) → w'.cell? ⟨d, 1, none⟩ = some (.int .i64 a3) → Calls Tryd.prog 57 #[.slice (some ⟨d, 0, none⟩) 2 k, .slice (some ⟨gb, 0, none⟩) 4 kb] w' fun e w'' => e = .returned (.bool false) ∧ SS w ga gb a0 a1 a2 a3 b0 b1 b2 b3 w''))
    (H5 : Hid (∀ (d k : Nat) (w' : World), SS w ga gb a0 a1 a2 a3 b0 b1 b2 b3 w' → w'.cell? ⟨d, 0, none⟩ = some (.int .i64 b0) → w'.cell? ⟨d, 1, none⟩ = some (.int .i64 b1) → Calls Tryd.prog 57 #[.slice (some ⟨d, 0, none⟩) 2 k, .slice (some ⟨ga, 0, none⟩) 4 ka] w' fun e w'' => e = .returned (.bool false) ∧ SS w ga gb a0 a1 a2 a3 b0 b1 b2 b3 w''))
    (H6 : Hid (∀ (d k : Nat) (w' : World), SS w ga gb a0 a1 a2 a3 b0 b1 b2 b3 w' → w'.cell? ⟨d, 0, none⟩ = some (.int .i64 b2) → w'.cell? ⟨d, 1, none⟩ = some (.int .i64 b1) → Calls Tryd.prog 57 #[.slice (some ⟨d, 0, none⟩) 2 k, .slice (some ⟨ga, 0, none⟩) 4 ka] w' fun e w'' => e = .returned (.bool false) ∧ SS w ga gb a0 a1 a2 a3 b0 b1 b2 b3 w''))
    (H7 : Hid (∀ (d k : Nat) (w' : World), SS w ga gb a0 a1 a2 a3 b0 b1 b2 b3 w' → w'.cell? ⟨d, 0, none⟩ = some (.int .i64 b0) → w'.cell? ⟨d, 1, none⟩ = some (.int .i64 b3) → Calls Tryd.prog 57 #[.slice (some ⟨d, 0, none⟩) 2 k, .slice (some ⟨ga, 0, none⟩) 4 ka] w' fun e w'' => e = .returned (.bool false) ∧ SS w ga gb a0 a1 a2 a3 b0 b1 b2 b3 w''))
    (H8 : Hid (∀ (d k : Nat) (w' : World), SS w ga gb a0 a1 a2 a3 b0 b1 b2 b3 w' → w'.cell? ⟨d, 0, none⟩ = some (.int .i64 b2) → w'.cell? ⟨d, 1, none⟩ = some (.int .i64 b3) → Calls Tryd.prog 57 #[.slice (some ⟨d, 0, none⟩) 2 k, .slice (some ⟨ga, 0, none⟩) 4 ka] w' fun e w'' => e = .returned (.bool true) ∧ SS w ga gb a0 a1 a2 a3 b0 b1 b2 b3 w'')) :
    Calls Tryd.prog 49 #[.slice (some ⟨ga, 0, none⟩) 4 ka, .slice (some ⟨gb, 0, none⟩) 4 kb] w fun e w' => e = .returned (.bool true) ∧ Below w.heap.size w w' := by
  have hS : SS w ga gb a0 a1 a2 a3 b0 b1 b2 b3 w.drew := h.later (Below.refl _ _).drew
  clear h
  go_enter Tryd.func49, Tryd.ntmps49
  go_wp2_with fail
  simp only [List.append_eq, List.cons_append, List.nil_append]
  refine wp_region_plan ovM ovF (S := SS w ga gb a0 a1 a2 a3 b0 b1 b2 b3) (by kernel_rfl) (ov_plan _ (by kernel_rfl)) (ov_idx _ (by kernel_rfl)) (fun d _ _ _ _ h => by cases d <;> exact h) hS ?_
  unfold ovM ovF
  simp only [swaps]
  refine seq_take (v := ?_) (by rfl) ?_ ?_
  rotate_left
  · intro w' hSw
    obtain ⟨_, c0, c1, c2, c3, d0, d1, d2, d3⟩ := hSw
    go_simp
    try (with_reducible rfl)
  try simp only [Act.put, List.setIfInBounds_toArray, List.set_cons_zero, List.set_cons_succ]
  refine seq_take (v := ?_) (by rfl) ?_ ?_
  rotate_left
  · intro w' hSw
    obtain ⟨_, c0, c1, c2, c3, d0, d1, d2, d3⟩ := hSw
    go_simp
    try (with_reducible rfl)
  try simp only [Act.put, List.setIfInBounds_toArray, List.set_cons_zero, List.set_cons_succ]
  refine seq_take (v := ?_) (by rfl) ?_ ?_
  rotate_left
  · intro w' hSw
    obtain ⟨_, c0, c1, c2, c3, d0, d1, d2, d3⟩ := hSw
    go_simp
    try (with_reducible rfl)
  try simp only [Act.put, List.setIfInBounds_toArray, List.set_cons_zero, List.set_cons_succ]
  refine seq_take (v := ?_) (by rfl) ?_ ?_
  rotate_left
  · intro w' hSw
    obtain ⟨_, c0, c1, c2, c3, d0, d1, d2, d3⟩ := hSw
    go_simp
    try (with_reducible rfl)
  try simp only [Act.put, List.setIfInBounds_toArray, List.set_cons_zero, List.set_cons_succ]
  refine seq_take (v := ?_) (by rfl) ?_ ?_
  rotate_left
  · intro w' hSw
    obtain ⟨_, c0, c1, c2, c3, d0, d1, d2, d3⟩ := hSw
    go_simp
    try (with_reducible rfl)
  try simp only [Act.put, List.setIfInBounds_toArray, List.set_cons_zero, List.set_cons_succ]
  refine seq_take (v := ?_) (by rfl) ?_ ?_
  rotate_left
  · intro w' hSw
    obtain ⟨_, c0, c1, c2, c3, d0, d1, d2, d3⟩ := hSw
    go_simp
    try (with_reducible rfl)
  try simp only [Act.put, List.setIfInBounds_toArray, List.set_cons_zero, List.set_cons_succ]
  refine seq_take (v := ?_) (by rfl) ?_ ?_
  rotate_left
  · intro w' hSw
    obtain ⟨_, c0, c1, c2, c3, d0, d1, d2, d3⟩ := hSw
    go_simp
    try (with_reducible rfl)
  try simp only [Act.put, List.setIfInBounds_toArray, List.set_cons_zero, List.set_cons_succ]
  refine seq_solo (by rfl) (fun K hK => ?_)
  go_simp
  refine hK.out _ _ (hS.later ((Below.refl _ _).alloc (Nat.le_refl _) _)) (fun hS1 => ?_)
  clear hK K
  try simp only [Act.put, List.setIfInBounds_toArray, List.set_cons_zero, List.set_cons_succ]
  refine seq_solo (by rfl) (fun K hK => ?_)
  go_simp
  refine (H1.out _ _ _ hS1 (by simp [go_sem]) (by simp [go_sem])).mono ?_
  rintro e w1 ⟨rfl, hT1⟩
  clear hS
  have hS := hT1
  clear hS1 hT1
  refine hK.out _ _ hS (fun _ => ?_)
  clear hK K
  try simp only [Act.put, List.setIfInBounds_toArray, List.set_cons_zero, List.set_cons_succ]
  refine seq_take (v := ?_) (by rfl) ?_ ?_
  rotate_left
  · intro w' hSw
    obtain ⟨_, c0, c1, c2, c3, d0, d1, d2, d3⟩ := hSw
    go_simp
    try (with_reducible rfl)
  try simp only [Act.put, List.setIfInBounds_toArray, List.set_cons_zero, List.set_cons_succ]
  refine seq_take (v := ?_) (by rfl) ?_ ?_
  rotate_left
  · intro w' hSw
    obtain ⟨_, c0, c1, c2, c3, d0, d1, d2, d3⟩ := hSw
    go_simp
    try (with_reducible rfl)
  try simp only [Act.put, List.setIfInBounds_toArray, List.set_cons_zero, List.set_cons_succ]
  refine seq_take (v := ?_) (by rfl) ?_ ?_
  rotate_left
  · intro w' hSw
    obtain ⟨_, c0, c1, c2, c3, d0, d1, d2, d3⟩ := hSw
    go_simp
    try (with_reducible rfl)
  try simp only [Act.put, List.setIfInBounds_toArray, List.set_cons_zero, List.set_cons_succ]
  refine seq_take (v := ?_) (by rfl) ?_ ?_
  rotate_left
  · intro w' hSw
    obtain ⟨_, c0, c1, c2, c3, d0, d1, d2, d3⟩ := hSw
    go_simp
    try (with_reducible rfl)
  try simp only [Act.put, List.setIfInBounds_toArray, List.set_cons_zero, List.set_cons_succ]
  refine seq_take (v := ?_) (by rfl) ?_ ?_
  rotate_left
  · intro w' hSw
    obtain ⟨_, c0, c1, c2, c3, d0, d1, d2, d3⟩ := hSw
    go_simp
    try (with_reducible rfl)
  try simp only [Act.put, List.setIfInBounds_toArray, List.set_cons_zero, List.set_cons_succ]
  refine seq_take (v := ?_) (by rfl) ?_ ?_
  rotate_left
  · intro w' hSw
    obtain ⟨_, c0, c1, c2, c3, d0, d1, d2, d3⟩ := hSw
    go_simp
    try (with_reducible rfl)
  try simp only [Act.put, List.setIfInBounds_toArray, List.set_cons_zero, List.set_cons_succ]
  refine seq_take (v := ?_) (by rfl) ?_ ?_
  rotate_left
  · intro w' hSw
    obtain ⟨_, c0, c1, c2, c3, d0, d1, d2, d3⟩ := hSw
    go_simp
    try (with_reducible rfl)
  try simp only [Act.put, List.setIfInBounds_toArray, List.set_cons_zero, List.set_cons_succ]
  refine seq_take (v := ?_) (by rfl) ?_ ?_
  rotate_left
  · intro w' hSw
    obtain ⟨_, c0, c1, c2, c3, d0, d1, d2, d3⟩ := hSw
    go_simp
    try (with_reducible rfl)
  try simp only [Act.put, List.setIfInBounds_toArray, List.set_cons_zero, List.set_cons_succ]
  refine seq_solo (by rfl) (fun K hK => ?_)
  go_simp
  refine hK.out _ _ (hS.later ((Below.refl _ _).alloc (Nat.le_refl _) _)) (fun hS2 => ?_)
  clear hK K
  try simp only [Act.put, List.setIfInBounds_toArray, List.set_cons_zero, List.set_cons_succ]
  refine seq_solo (by rfl) (fun K hK => ?_)
  go_simp
  refine (H2.out _ _ _ hS2 (by simp [go_sem]) (by simp [go_sem])).mono ?_
  rintro e w2 ⟨rfl, hT2⟩
  clear hS
  have hS := hT2
  clear hS2 hT2
  refine hK.out _ _ hS (fun _ => ?_)
  clear hK K
  try simp only [Act.put, List.setIfInBounds_toArray, List.set_cons_zero, List.set_cons_succ]
  refine seq_take (v := ?_) (by rfl) ?_ ?_
  rotate_left
  · intro w' hSw
    obtain ⟨_, c0, c1, c2, c3, d0, d1, d2, d3⟩ := hSw
    go_simp
    try (with_reducible rfl)
  try simp only [Act.put, List.setIfInBounds_toArray, List.set_cons_zero, List.set_cons_succ]
  refine seq_take (v := ?_) (by rfl) ?_ ?_
  rotate_left
  · intro w' hSw
    obtain ⟨_, c0, c1, c2, c3, d0, d1, d2, d3⟩ := hSw
    go_simp
    try (with_reducible rfl)
  try simp only [Act.put, List.setIfInBounds_toArray, List.set_cons_zero, List.set_cons_succ]
  refine seq_take (v := ?_) (by rfl) ?_ ?_
  rotate_left
  · intro w' hSw
    obtain ⟨_, c0, c1, c2, c3, d0, d1, d2, d3⟩ := hSw
    go_simp
    try (with_reducible rfl)
  try simp only [Act.put, List.setIfInBounds_toArray, List.set_cons_zero, List.set_cons_succ]
  refine seq_take (v := ?_) (by rfl) ?_ ?_
  rotate_left
  · intro w' hSw
    obtain ⟨_, c0, c1, c2, c3, d0, d1, d2, d3⟩ := hSw
    go_simp
    try (with_reducible rfl)
  try simp only [Act.put, List.setIfInBounds_toArray, List.set_cons_zero, List.set_cons_succ]
  refine seq_take (v := ?_) (by rfl) ?_ ?_
  rotate_left
  · intro w' hSw
    obtain ⟨_, c0, c1, c2, c3, d0, d1, d2, d3⟩ := hSw
    go_simp
    try (with_reducible rfl)
  try simp only [Act.put, List.setIfInBounds_toArray, List.set_cons_zero, List.set_cons_succ]
  refine seq_take (v := ?_) (by rfl) ?_ ?_
  rotate_left
  · intro w' hSw
    obtain ⟨_, c0, c1, c2, c3, d0, d1, d2, d3⟩ := hSw
    go_simp
    try (with_reducible rfl)
  try simp only [Act.put, List.setIfInBounds_toArray, List.set_cons_zero, List.set_cons_succ]
  refine seq_take (v := ?_) (by rfl) ?_ ?_
  rotate_left
  · intro w' hSw
    obtain ⟨_, c0, c1, c2, c3, d0, d1, d2, d3⟩ := hSw
    go_simp
    try (with_reducible rfl)
  try simp only [Act.put, List.setIfInBounds_toArray, List.set_cons_zero, List.set_cons_succ]
  refine seq_take (v := ?_) (by rfl) ?_ ?_
  rotate_left
  · intro w' hSw
    obtain ⟨_, c0, c1, c2, c3, d0, d1, d2, d3⟩ := hSw
    go_simp
    try (with_reducible rfl)
  try simp only [Act.put, List.setIfInBounds_toArray, List.set_cons_zero, List.set_cons_succ]
  refine seq_take (v := ?_) (by rfl) ?_ ?_
  rotate_left
  · intro w' hSw
    obtain ⟨_, c0, c1, c2, c3, d0, d1, d2, d3⟩ := hSw
    go_simp
    try (with_reducible rfl)
  try simp only [Act.put, List.setIfInBounds_toArray, List.set_cons_zero, List.set_cons_succ]
  refine seq_solo (by rfl) (fun K hK => ?_)
  go_simp
  refine hK.out _ _ (hS.later ((Below.refl _ _).alloc (Nat.le_refl _) _)) (fun hS3 => ?_)
  clear hK K
  try simp only [Act.put, List.setIfInBounds_toArray, List.set_cons_zero, List.set_cons_succ]
  refine seq_solo (by rfl) (fun K hK => ?_)
  go_simp
  refine (H3.out _ _ _ hS3 (by simp [go_sem]) (by simp [go_sem])).mono ?_
  rintro e w3 ⟨rfl, hT3⟩
  clear hS
  have hS := hT3
  clear hS3 hT3
  refine hK.out _ _ hS (fun _ => ?_)
  clear hK K
  try simp only [Act.put, List.setIfInBounds_toArray, List.set_cons_zero, List.set_cons_succ]
  refine seq_take (v := ?_) (by rfl) ?_ ?_
  rotate_left
  · intro w' hSw
    obtain ⟨_, c0, c1, c2, c3, d0, d1, d2, d3⟩ := hSw
    go_simp
    try (with_reducible rfl)
  try simp only [Act.put, List.setIfInBounds_toArray, List.set_cons_zero, List.set_cons_succ]
  refine seq_take (v := ?_) (by rfl) ?_ ?_
  rotate_left
  · intro w' hSw
    obtain ⟨_, c0, c1, c2, c3, d0, d1, d2, d3⟩ := hSw
    go_simp
    try (with_reducible rfl)
  try simp only [Act.put, List.setIfInBounds_toArray, List.set_cons_zero, List.set_cons_succ]
  refine seq_take (v := ?_) (by rfl) ?_ ?_
  rotate_left
  · intro w' hSw
    obtain ⟨_, c0, c1, c2, c3, d0, d1, d2, d3⟩ := hSw
    go_simp
    try (with_reducible rfl)
  try simp only [Act.put, List.setIfInBounds_toArray, List.set_cons_zero, List.set_cons_succ]
  refine seq_take (v := ?_) (by rfl) ?_ ?_
  rotate_left
  · intro w' hSw
    obtain ⟨_, c0, c1, c2, c3, d0, d1, d2, d3⟩ := hSw
    go_simp
    try (with_reducible rfl)
  try simp only [Act.put, List.setIfInBounds_toArray, List.set_cons_zero, List.set_cons_succ]
  refine seq_take (v := ?_) (by rfl) ?_ ?_
  rotate_left
  · intro w' hSw
    obtain ⟨_, c0, c1, c2, c3, d0, d1, d2, d3⟩ := hSw
    go_simp
    try (with_reducible rfl)
  try simp only [Act.put, List.setIfInBounds_toArray, List.set_cons_zero, List.set_cons_succ]
  refine seq_take (v := ?_) (by rfl) ?_ ?_
  rotate_left
  · intro w' hSw
    obtain ⟨_, c0, c1, c2, c3, d0, d1, d2, d3⟩ := hSw
    go_simp
    try (with_reducible rfl)
  try simp only [Act.put, List.setIfInBounds_toArray, List.set_cons_zero, List.set_cons_succ]
  refine seq_take (v := ?_) (by rfl) ?_ ?_
  rotate_left
  · intro w' hSw
    obtain ⟨_, c0, c1, c2, c3, d0, d1, d2, d3⟩ := hSw
    go_simp
    try (with_reducible rfl)
  try simp only [Act.put, List.setIfInBounds_toArray, List.set_cons_zero, List.set_cons_succ]
  refine seq_take (v := ?_) (by rfl) ?_ ?_
  rotate_left
  · intro w' hSw
    obtain ⟨_, c0, c1, c2, c3, d0, d1, d2, d3⟩ := hSw
    go_simp
    try (with_reducible rfl)
  try simp only [Act.put, List.setIfInBounds_toArray, List.set_cons_zero, List.set_cons_succ]
  refine seq_take (v := ?_) (by rfl) ?_ ?_
  rotate_left
  · intro w' hSw
    obtain ⟨_, c0, c1, c2, c3, d0, d1, d2, d3⟩ := hSw
    go_simp
    try (with_reducible rfl)
  try simp only [Act.put, List.setIfInBounds_toArray, List.set_cons_zero, List.set_cons_succ]
  refine seq_solo (by rfl) (fun K hK => ?_)
  go_simp
  refine hK.out _ _ (hS.later ((Below.refl _ _).alloc (Nat.le_refl _) _)) (fun hS4 => ?_)
  clear hK K
  try simp only [Act.put, List.setIfInBounds_toArray, List.set_cons_zero, List.set_cons_succ]
  refine seq_solo (by rfl) (fun K hK => ?_)
  go_simp
  refine (H4.out _ _ _ hS4 (by simp [go_sem]) (by simp [go_sem])).mono ?_
  rintro e w4 ⟨rfl, hT4⟩
  clear hS
  have hS := hT4
  clear hS4 hT4
  refine hK.out _ _ hS (fun _ => ?_)
  clear hK K
  try simp only [Act.put, List.setIfInBounds_toArray, List.set_cons_zero, List.set_cons_succ]
  refine seq_take (v := ?_) (by rfl) ?_ ?_
  rotate_left
  · intro w' hSw
    obtain ⟨_, c0, c1, c2, c3, d0, d1, d2, d3⟩ := hSw
    go_simp
    try (with_reducible rfl)
  try simp only [Act.put, List.setIfInBounds_toArray, List.set_cons_zero, List.set_cons_succ]
  refine seq_take (v := ?_) (by rfl) ?_ ?_
  rotate_left
  · intro w' hSw
    obtain ⟨_, c0, c1, c2, c3, d0, d1, d2, d3⟩ := hSw
    go_simp
    try (with_reducible rfl)
  try simp only [Act.put, List.setIfInBounds_toArray, List.set_cons_zero, List.set_cons_succ]
  refine seq_take (v := ?_) (by rfl) ?_ ?_
  rotate_left
  · intro w' hSw
    obtain ⟨_, c0, c1, c2, c3, d0, d1, d2, d3⟩ := hSw
    go_simp
    try (with_reducible rfl)
  try simp only [Act.put, List.setIfInBounds_toArray, List.set_cons_zero, List.set_cons_succ]
  refine seq_take (v := ?_) (by rfl) ?_ ?_
  rotate_left
  · intro w' hSw
    obtain ⟨_, c0, c1, c2, c3, d0, d1, d2, d3⟩ := hSw
    go_simp
    try (with_reducible rfl)
  try simp only [Act.put, List.setIfInBounds_toArray, List.set_cons_zero, List.set_cons_succ]
  refine seq_take (v := ?_) (by rfl) ?_ ?_
  rotate_left
  · intro w' hSw
    obtain ⟨_, c0, c1, c2, c3, d0, d1, d2, d3⟩ := hSw
    go_simp
    try (with_reducible rfl)
  try simp only [Act.put, List.setIfInBounds_toArray, List.set_cons_zero, List.set_cons_succ]
  refine seq_take (v := ?_) (by rfl) ?_ ?_
  rotate_left
  · intro w' hSw
    obtain ⟨_, c0, c1, c2, c3, d0, d1, d2, d3⟩ := hSw
    go_simp
    try (with_reducible rfl)
  try simp only [Act.put, List.setIfInBounds_toArray, List.set_cons_zero, List.set_cons_succ]
  refine seq_take (v := ?_) (by rfl) ?_ ?_
  rotate_left
  · intro w' hSw
    obtain ⟨_, c0, c1, c2, c3, d0, d1, d2, d3⟩ := hSw
    go_simp
    try (with_reducible rfl)
  try simp only [Act.put, List.setIfInBounds_toArray, List.set_cons_zero, List.set_cons_succ]
  refine seq_take (v := ?_) (by rfl) ?_ ?_
  rotate_left
  · intro w' hSw
    obtain ⟨_, c0, c1, c2, c3, d0, d1, d2, d3⟩ := hSw
    go_simp
    try (with_reducible rfl)
  try simp only [Act.put, List.setIfInBounds_toArray, List.set_cons_zero, List.set_cons_succ]
  refine seq_take (v := ?_) (by rfl) ?_ ?_
  rotate_left
  · intro w' hSw
    obtain ⟨_, c0, c1, c2, c3, d0, d1, d2, d3⟩ := hSw
    go_simp
    try (with_reducible rfl)
  try simp only [Act.put, List.setIfInBounds_toArray, List.set_cons_zero, List.set_cons_succ]
  refine seq_solo (by rfl) (fun K hK => ?_)
  go_simp
  refine hK.out _ _ (hS.later ((Below.refl _ _).alloc (Nat.le_refl _) _)) (fun hS5 => ?_)
  clear hK K
  try simp only [Act.put, List.setIfInBounds_toArray, List.set_cons_zero, List.set_cons_succ]
  refine seq_solo (by rfl) (fun K hK => ?_)
  go_simp
  refine (H5.out _ _ _ hS5 (by simp [go_sem]) (by simp [go_sem])).mono ?_
  rintro e w5 ⟨rfl, hT5⟩
  clear hS
  have hS := hT5
  clear hS5 hT5
  refine hK.out _ _ hS (fun _ => ?_)
  clear hK K
  try simp only [Act.put, List.setIfInBounds_toArray, List.set_cons_zero, List.set_cons_succ]
  refine seq_take (v := ?_) (by rfl) ?_ ?_
  rotate_left
  · intro w' hSw
    obtain ⟨_, c0, c1, c2, c3, d0, d1, d2, d3⟩ := hSw
    go_simp
    try (with_reducible rfl)
  try simp only [Act.put, List.setIfInBounds_toArray, List.set_cons_zero, List.set_cons_succ]
  refine seq_take (v := ?_) (by rfl) ?_ ?_
  rotate_left
  · intro w' hSw
    obtain ⟨_, c0, c1, c2, c3, d0, d1, d2, d3⟩ := hSw
    go_simp
    try (with_reducible rfl)
  try simp only [Act.put, List.setIfInBounds_toArray, List.set_cons_zero, List.set_cons_succ]
  refine seq_take (v := ?_) (by rfl) ?_ ?_
  rotate_left
  · intro w' hSw
    obtain ⟨_, c0, c1, c2, c3, d0, d1, d2, d3⟩ := hSw
    go_simp
    try (with_reducible rfl)
  try simp only [Act.put, List.setIfInBounds_toArray, List.set_cons_zero, List.set_cons_succ]
  refine seq_take (v := ?_) (by rfl) ?_ ?_
  rotate_left
  · intro w' hSw
    obtain ⟨_, c0, c1, c2, c3, d0, d1, d2, d3⟩ := hSw
    go_simp
    try (with_reducible rfl)
  try simp only [Act.put, List.setIfInBounds_toArray, List.set_cons_zero, List.set_cons_succ]
  refine seq_take (v := ?_) (by rfl) ?_ ?_
  rotate_left
  · intro w' hSw
    obtain ⟨_, c0, c1, c2, c3, d0, d1, d2, d3⟩ := hSw
    go_simp
    try (with_reducible rfl)
  try simp only [Act.put, List.setIfInBounds_toArray, List.set_cons_zero, List.set_cons_succ]
  refine seq_take (v := ?_) (by rfl) ?_ ?_
  rotate_left
  · intro w' hSw
    obtain ⟨_, c0, c1, c2, c3, d0, d1, d2, d3⟩ := hSw
    go_simp
    try (with_reducible rfl)
  try simp only [Act.put, List.setIfInBounds_toArray, List.set_cons_zero, List.set_cons_succ]
  refine seq_take (v := ?_) (by rfl) ?_ ?_
  rotate_left
  · intro w' hSw
    obtain ⟨_, c0, c1, c2, c3, d0, d1, d2, d3⟩ := hSw
    go_simp
    try (with_reducible rfl)
  try simp only [Act.put, List.setIfInBounds_toArray, List.set_cons_zero, List.set_cons_succ]
  refine seq_take (v := ?_) (by rfl) ?_ ?_
  rotate_left
  · intro w' hSw
    obtain ⟨_, c0, c1, c2, c3, d0, d1, d2, d3⟩ := hSw
    go_simp
    try (with_reducible rfl)
  try simp only [Act.put, List.setIfInBounds_toArray, List.set_cons_zero, List.set_cons_succ]
  refine seq_take (v := ?_) (by rfl) ?_ ?_
  rotate_left
  · intro w' hSw
    obtain ⟨_, c0, c1, c2, c3, d0, d1, d2, d3⟩ := hSw
    go_simp
    try (with_reducible rfl)
  try simp only [Act.put, List.setIfInBounds_toArray, List.set_cons_zero, List.set_cons_succ]
  refine seq_solo (by rfl) (fun K hK => ?_)
  go_simp
  refine hK.out _ _ (hS.later ((Below.refl _ _).alloc (Nat.le_refl _) _)) (fun hS6 => ?_)
  clear hK K
  try simp only [Act.put, List.setIfInBounds_toArray, List.set_cons_zero, List.set_cons_succ]
  refine seq_solo (by rfl) (fun K hK => ?_)
  go_simp
  refine (H6.out _ _ _ hS6 (by simp [go_sem]) (by simp [go_sem])).mono ?_
  rintro e w6 ⟨rfl, hT6⟩
  clear hS
  have hS := hT6
  clear hS6 hT6
  refine hK.out _ _ hS (fun _ => ?_)
  clear hK K
  try simp only [Act.put, List.setIfInBounds_toArray, List.set_cons_zero, List.set_cons_succ]
  refine seq_take (v := ?_) (by rfl) ?_ ?_
  rotate_left
  · intro w' hSw
    obtain ⟨_, c0, c1, c2, c3, d0, d1, d2, d3⟩ := hSw
    go_simp
    try (with_reducible rfl)
  try simp only [Act.put, List.setIfInBounds_toArray, List.set_cons_zero, List.set_cons_succ]
  refine seq_take (v := ?_) (by rfl) ?_ ?_
  rotate_left
  · intro w' hSw
    obtain ⟨_, c0, c1, c2, c3, d0, d1, d2, d3⟩ := hSw
    go_simp
    try (with_reducible rfl)
  try simp only [Act.put, List.setIfInBounds_toArray, List.set_cons_zero, List.set_cons_succ]
  refine seq_take (v := ?_) (by rfl) ?_ ?_
  rotate_left
  · intro w' hSw
    obtain ⟨_, c0, c1, c2, c3, d0, d1, d2, d3⟩ := hSw
    go_simp
    try (with_reducible rfl)
  try simp only [Act.put, List.setIfInBounds_toArray, List.set_cons_zero, List.set_cons_succ]
  refine seq_take (v := ?_) (by rfl) ?_ ?_
  rotate_left
  · intro w' hSw
    obtain ⟨_, c0, c1, c2, c3, d0, d1, d2, d3⟩ := hSw
    go_simp
    try (with_reducible rfl)
  try simp only [Act.put, List.setIfInBounds_toArray, List.set_cons_zero, List.set_cons_succ]
  refine seq_take (v := ?_) (by rfl) ?_ ?_
  rotate_left
  · intro w' hSw
    obtain ⟨_, c0, c1, c2, c3, d0, d1, d2, d3⟩ := hSw
    go_simp
    try (with_reducible rfl)
  try simp only [Act.put, List.setIfInBounds_toArray, List.set_cons_zero, List.set_cons_succ]
  refine seq_take (v := ?_) (by rfl) ?_ ?_
  rotate_left
  · intro w' hSw
    obtain ⟨_, c0, c1, c2, c3, d0, d1, d2, d3⟩ := hSw
    go_simp
    try (with_reducible rfl)
  try simp only [Act.put, List.setIfInBounds_toArray, List.set_cons_zero, List.set_cons_succ]
  refine seq_take (v := ?_) (by rfl) ?_ ?_
  rotate_left
  · intro w' hSw
    obtain ⟨_, c0, c1, c2, c3, d0, d1, d2, d3⟩ := hSw
    go_simp
    try (with_reducible rfl)
  try simp only [Act.put, List.setIfInBounds_toArray, List.set_cons_zero, List.set_cons_succ]
  refine seq_take (v := ?_) (by rfl) ?_ ?_
  rotate_left
  · intro w' hSw
    obtain ⟨_, c0, c1, c2, c3, d0, d1, d2, d3⟩ := hSw
    go_simp
    try (with_reducible rfl)
  try simp only [Act.put, List.setIfInBounds_toArray, List.set_cons_zero, List.set_cons_succ]
  refine seq_take (v := ?_) (by rfl) ?_ ?_
  rotate_left
  · intro w' hSw
    obtain ⟨_, c0, c1, c2, c3, d0, d1, d2, d3⟩ := hSw
    go_simp
    try (with_reducible rfl)
  try simp only [Act.put, List.setIfInBounds_toArray, List.set_cons_zero, List.set_cons_succ]
  refine seq_solo (by rfl) (fun K hK => ?_)
  go_simp
  refine hK.out _ _ (hS.later ((Below.refl _ _).alloc (Nat.le_refl _) _)) (fun hS7 => ?_)
  clear hK K
  try simp only [Act.put, List.setIfInBounds_toArray, List.set_cons_zero, List.set_cons_succ]
  refine seq_solo (by rfl) (fun K hK => ?_)
  go_simp
  refine (H7.out _ _ _ hS7 (by simp [go_sem]) (by simp [go_sem])).mono ?_
  rintro e w7 ⟨rfl, hT7⟩
  clear hS
  have hS := hT7
  clear hS7 hT7
  refine hK.out _ _ hS (fun _ => ?_)
  clear hK K
  try simp only [Act.put, List.setIfInBounds_toArray, List.set_cons_zero, List.set_cons_succ]
  refine seq_take (v := ?_) (by rfl) ?_ ?_
  rotate_left
  · intro w' hSw
    obtain ⟨_, c0, c1, c2, c3, d0, d1, d2, d3⟩ := hSw
    go_simp
    try (with_reducible rfl)
  try simp only [Act.put, List.setIfInBounds_toArray, List.set_cons_zero, List.set_cons_succ]
  refine seq_take (v := ?_) (by rfl) ?_ ?_
  rotate_left
  · intro w' hSw
    obtain ⟨_, c0, c1, c2, c3, d0, d1, d2, d3⟩ := hSw
    go_simp
    try (with_reducible rfl)
  try simp only [Act.put, List.setIfInBounds_toArray, List.set_cons_zero, List.set_cons_succ]
  refine seq_take (v := ?_) (by rfl) ?_ ?_
  rotate_left
  · intro w' hSw
    obtain ⟨_, c0, c1, c2, c3, d0, d1, d2, d3⟩ := hSw
    go_simp
    try (with_reducible rfl)
  try simp only [Act.put, List.setIfInBounds_toArray, List.set_cons_zero, List.set_cons_succ]
  refine seq_take (v := ?_) (by rfl) ?_ ?_
  rotate_left
  · intro w' hSw
    obtain ⟨_, c0, c1, c2, c3, d0, d1, d2, d3⟩ := hSw
    go_simp
    try (with_reducible rfl)
  try simp only [Act.put, List.setIfInBounds_toArray, List.set_cons_zero, List.set_cons_succ]
  refine seq_take (v := ?_) (by rfl) ?_ ?_
  rotate_left
  · intro w' hSw
    obtain ⟨_, c0, c1, c2, c3, d0, d1, d2, d3⟩ := hSw
    go_simp
    try (with_reducible rfl)
  try simp only [Act.put, List.setIfInBounds_toArray, List.set_cons_zero, List.set_cons_succ]
  refine seq_take (v := ?_) (by rfl) ?_ ?_
  rotate_left
  · intro w' hSw
    obtain ⟨_, c0, c1, c2, c3, d0, d1, d2, d3⟩ := hSw
    go_simp
    try (with_reducible rfl)
  try simp only [Act.put, List.setIfInBounds_toArray, List.set_cons_zero, List.set_cons_succ]
  refine seq_take (v := ?_) (by rfl) ?_ ?_
  rotate_left
  · intro w' hSw
    obtain ⟨_, c0, c1, c2, c3, d0, d1, d2, d3⟩ := hSw
    go_simp
    try (with_reducible rfl)
  try simp only [Act.put, List.setIfInBounds_toArray, List.set_cons_zero, List.set_cons_succ]
  refine seq_take (v := ?_) (by rfl) ?_ ?_
  rotate_left
  · intro w' hSw
    obtain ⟨_, c0, c1, c2, c3, d0, d1, d2, d3⟩ := hSw
    go_simp
    try (with_reducible rfl)
  try simp only [Act.put, List.setIfInBounds_toArray, List.set_cons_zero, List.set_cons_succ]
  refine seq_take (v := ?_) (by rfl) ?_ ?_
  rotate_left
  · intro w' hSw
    obtain ⟨_, c0, c1, c2, c3, d0, d1, d2, d3⟩ := hSw
    go_simp
    try (with_reducible rfl)
  try simp only [Act.put, List.setIfInBounds_toArray, List.set_cons_zero, List.set_cons_succ]
  refine seq_solo (by rfl) (fun K hK => ?_)
  go_simp
  refine hK.out _ _ (hS.later ((Below.refl _ _).alloc (Nat.le_refl _) _)) (fun hS8 => ?_)
  clear hK K
  try simp only [Act.put, List.setIfInBounds_toArray, List.set_cons_zero, List.set_cons_succ]
  refine seq_solo (by rfl) (fun K hK => ?_)
  go_simp
  refine (H8.out _ _ _ hS8 (by simp [go_sem]) (by simp [go_sem])).mono ?_
  rintro e w8 ⟨rfl, hT8⟩
  clear hS
  have hS := hT8
  clear hS8 hT8
  refine hK.out _ _ hS (fun _ => ?_)
  clear hK K
  try simp only [Act.put, List.setIfInBounds_toArray, List.set_cons_zero, List.set_cons_succ]
  refine seq_take (v := ?_) (by rfl) ?_ ?_
  rotate_left
  · intro w' hSw
    obtain ⟨_, c0, c1, c2, c3, d0, d1, d2, d3⟩ := hSw
    go_simp
    try (with_reducible rfl)
  try simp only [Act.put, List.setIfInBounds_toArray, List.set_cons_zero, List.set_cons_succ]
  refine seq_take (v := ?_) (by rfl) ?_ ?_
  rotate_left
  · intro w' hSw
    obtain ⟨_, c0, c1, c2, c3, d0, d1, d2, d3⟩ := hSw
    go_simp
    try (with_reducible rfl)
  try simp only [Act.put, List.setIfInBounds_toArray, List.set_cons_zero, List.set_cons_succ]
  refine seq_done ?_
  go_wp2
  go_ret
  exact ⟨rfl, hS.1⟩

set_option maxHeartbeats 6400000 in
set_option maxRecDepth 100000 in
theorem ov_9 (a0 a1 a2 a3 b0 b1 b2 b3 : Int) (ga gb ka kb : Nat) (w : World) (h : SS w ga gb a0 a1 a2 a3 b0 b1 b2 b3 w)
    (H1 : Hid (∀ (d k : Nat) (w' : World), SS w ga gb a0 a1 a2 a3 b0 b1 b2 b3 w' → w'.cell? ⟨d, 0, none⟩ = some (.int .i64 a0) → w'.cell? ⟨d, 1, none⟩ = some (.int .i64 a1) → Calls Tryd.prog 57 #[.slice (some ⟨d, 0, none⟩) 2 k, .slice (some ⟨gb, 0, none⟩) 4 kb] w' fun e w'' => e = .returned (.bool false) ∧ SS w ga gb a0 a1 a2 a3 b0 b1 b2 b3 w''))
    (H2 : Hid (∀ (d k : Nat) (w' : World), SS w ga gb a0 a1 a2 a3 b0 b1 b2 b3 w' → w'.cell? ⟨d, 0, none⟩ = some (.int .i64 a2) → w'.cell? ⟨d, 1, none⟩ = some (.int .i64 a1) → Calls Tryd.prog 57 #[.slice (some ⟨d, 0, none⟩) 2 k, .slice (some ⟨gb, 0, none⟩) 4 kb] w' fun e w'' => e = .returned (.bool false) ∧ SS w ga gb a0 a1 a2 a3 b0 b1 b2 b3 w''))
    (H3 : Hid (∀ (d k : Nat) (w' : World), SS w ga gb a0 a1 a2 a3 b0 b1 b2 b3 w' → w'.cell? ⟨d, 0, none⟩ = some (.int .i64 a0) → w'.cell? ⟨d, 1, none⟩ = some (.int .i64 a3) → Calls Tryd.prog 57 #[.slice (some ⟨d, 0, none⟩) 2 k, .slice (some ⟨gb, 0, none⟩) 4 kb] w' fun e w'' => e = .returned (.bool false) ∧ SS w ga gb a0 a1 a2 a3 b0 b1 b2 b3 w''))
    (H4 : Hid (∀ (d k : Nat) (w' : World), SS w ga gb a0 a1 a2 a3 b0 b1 b2 b3 w' → w'.cell? ⟨d, 0, none⟩ = some (.int .i64 a2) → w'.cell? ⟨d, 1, none⟩ = some (.int .i64 a3) → Calls Tryd.prog 57 #[.slice (some ⟨d, 0, none⟩) 2 k, .slice (some ⟨gb, 0, none⟩) 4 kb] w' fun e w'' => e = .returned (.bool false) ∧ SS w ga gb a0 a1 a2 a3 b0 b1 b2 b3 w''))
    (H5 : Hid (∀ (d k : Nat) (w' : World), SS w ga gb a0 a1 a2 a3 b0 b1 b2 b3 w' → w'.cell? ⟨d, 0, none⟩ = some (.int .i64 b0) → w'.cell? ⟨d, 1, none⟩ = some (.int .i64 b1) → Calls Tryd.prog 57 #[.slice (some ⟨d, 0, none⟩) 2 k, .slice (some ⟨ga, 0, none⟩) 4 ka] w' fun e w'' => e = .returned (.bool false) ∧ SS w ga gb a0 a1 a2 a3 b0 b1 b2 b3 w''))
    (H6 : Hid (∀ (d k : Nat) (w' : World), SS w ga gb a0 a1 a2 a3 b0 b1 b2 b3 w' → w'.cell? ⟨d, 0, none⟩ = some (.int .i64 b2) → w'.cell? ⟨d, 1, none⟩ = some (.int .i64 b1) → Calls Tryd.prog 57 #[.slice (some ⟨d, 0, none⟩) 2 k, .slice (some ⟨ga, 0, none⟩) 4 ka] w' fun e w'' => e = .returned (.bool false) ∧ SS w ga gb a0 a1 a2 a3 b0 b1 b2 b3 w''))
    (H7 : Hid (∀ (d k : Nat) (w' : World), SS w ga gb a0 a1 a2 a3 b0 b1 b2 b3 w' → w'.cell? ⟨d, 0, none⟩ = some (.int .i64 b0) → w'.cell? ⟨d, 1, none⟩ = some (.int .i64 b3) → Calls Tryd.prog 57 #[.slice (some ⟨d, 0, none⟩) 2 k, .slice (some ⟨ga, 0, none⟩) 4 ka] w' fun e w'' => e = .returned (.bool false) ∧ SS w ga gb a0 a1 a2 a3 b0 b1 b2 b3 w''))
    (H8 : Hid (∀ (d k : Nat) (w' : World), SS w ga gb a0 a1 a2 a3 b0 b1 b2 b3 w' → w'.cell? ⟨d, 0, none⟩ = some (.int .i64 b2) → w'.cell? ⟨d, 1, none⟩ = some (.int .i64 b3) → Calls Tryd.prog 57 #[.slice (some ⟨d, 0, none⟩) 2 k, .slice (some ⟨ga, 0, none⟩) 4 ka] w' fun e w'' => e = .returned (.bool false) ∧ SS w ga gb a0 a1 a2 a3 b0 b1 b2 b3 w'')) :
    Calls Tryd.prog 49 #[.slice (some ⟨ga, 0, none⟩) 4 ka, .slice (some ⟨gb, 0, none⟩) 4 kb] w fun e w' => e = .returned (.bool false) ∧ Below w.heap.size w w' := by
  have hS : SS w ga gb a0 a1 a2 a3 b0 b1 b2 b3 w.drew := h.later (Below.refl _ _).drew
  clear h
  go_enter Tryd.func49, Tryd.ntmps49
  go_wp2_with fail
  simp only [List.append_eq, List.cons_append, List.nil_append]
  refine wp_region_plan ovM ovF (S := SS w ga gb a0 a1 a2 a3 b0 b1 b2 b3) (by kernel_rfl) (ov_plan _ (by kernel_rfl)) (ov_idx _ (by kernel_rfl)) (fun d _ _ _ _ h => by cases d <;> exact h) hS ?_
  unfold ovM ovF
  simp only [swaps]
  refine seq_take (v := ?_) (by rfl) ?_ ?_
  rotate_left
  · intro w' hSw
    obtain ⟨_, c0, c1, c2, c3, d0, d1, d2, d3⟩ := hSw
    go_simp
    try (with_reducible rfl)
  try simp only [Act.put, List.setIfInBounds_toArray, List.set_cons_zero, List.set_cons_succ]
  refine seq_take (v := ?_) (by rfl) ?_ ?_
  rotate_left
  · intro w' hSw
    obtain ⟨_, c0, c1, c2, c3, d0, d1, d2, d3⟩ := hSw
    go_simp
    try (with_reducible rfl)
  try simp only [Act.put, List.setIfInBounds_toArray, List.set_cons_zero, List.set_cons_succ]
  refine seq_take (v := ?_) (by rfl) ?_ ?_
  rotate_left
  · intro w' hSw
    obtain ⟨_, c0, c1, c2, c3, d0, d1, d2, d3⟩ := hSw
    go_simp
    try (with_reducible rfl)
  try simp only [Act.put, List.setIfInBounds_toArray, List.set_cons_zero, List.set_cons_succ]
  refine seq_take (v := ?_) (by rfl) ?_ ?_
  rotate_left
  · intro w' hSw
    obtain ⟨_, c0, c1, c2, c3, d0, d1, d2, d3⟩ := hSw
    go_simp
    try (with_reducible rfl)
  try simp only [Act.put, List.setIfInBounds_toArray, List.set_cons_zero, List.set_cons_succ]
  refine seq_take (v := ?_) (by rfl) ?_ ?_
  rotate_left
  · intro w' hSw
    obtain ⟨_, c0, c1, c2, c3, d0, d1, d2, d3⟩ := hSw
    go_simp
    try (with_reducible rfl)
  try simp only [Act.put, List.setIfInBounds_toArray, List.set_cons_zero, List.set_cons_succ]
  refine seq_take (v := ?_) (by rfl) ?_ ?_
  rotate_left
  · intro w' hSw
    obtain ⟨_, c0, c1, c2, c3, d0, d1, d2, d3⟩ := hSw
    go_simp
    try (with_reducible rfl)
  try simp only [Act.put, List.setIfInBounds_toArray, List.set_cons_zero, List.set_cons_succ]
  refine seq_take (v := ?_) (by rfl) ?_ ?_
  rotate_left
  · intro w' hSw
    obtain ⟨_, c0, c1, c2, c3, d0, d1, d2, d3⟩ := hSw
    go_simp
    try (with_reducible rfl)
  try simp only [Act.put, List.setIfInBounds_toArray, List.set_cons_zero, List.set_cons_succ]
  refine seq_solo (by rfl) (fun K hK => ?_)
  go_simp
  refine hK.out _ _ (hS.later ((Below.refl _ _).alloc (Nat.le_refl _) _)) (fun hS1 => ?_)
  clear hK K
  try simp only [Act.put, List.setIfInBounds_toArray, List.set_cons_zero, List.set_cons_succ]
  refine seq_solo (by rfl) (fun K hK => ?_)
  go_simp
  refine (H1.out _ _ _ hS1 (by simp [go_sem]) (by simp [go_sem])).mono ?_
  rintro e w1 ⟨rfl, hT1⟩
  clear hS
  have hS := hT1
  clear hS1 hT1
  refine hK.out _ _ hS (fun _ => ?_)
  clear hK K
  try simp only [Act.put, List.setIfInBounds_toArray, List.set_cons_zero, List.set_cons_succ]
  refine seq_take (v := ?_) (by rfl) ?_ ?_
  rotate_left
  · intro w' hSw
    obtain ⟨_, c0, c1, c2, c3, d0, d1, d2, d3⟩ := hSw
    go_simp
    try (with_reducible rfl)
  try simp only [Act.put, List.setIfInBounds_toArray, List.set_cons_zero, List.set_cons_succ]
  refine seq_take (v := ?_) (by rfl) ?_ ?_
  rotate_left
  · intro w' hSw
    obtain ⟨_, c0, c1, c2, c3, d0, d1, d2, d3⟩ := hSw
    go_simp
    try (with_reducible rfl)
  try simp only [Act.put, List.setIfInBounds_toArray, List.set_cons_zero, List.set_cons_succ]
  refine seq_take (v := ?_) (by rfl) ?_ ?_
  rotate_left
  · intro w' hSw
    obtain ⟨_, c0, c1, c2, c3, d0, d1, d2, d3⟩ := hSw
    go_simp
    try (with_reducible rfl)
  try simp only [Act.put, List.setIfInBounds_toArray, List.set_cons_zero, List.set_cons_succ]
  refine seq_take (v := ?_) (by rfl) ?_ ?_
  rotate_left
  · intro w' hSw
    obtain ⟨_, c0, c1, c2, c3, d0, d1, d2, d3⟩ := hSw
    go_simp
    try (with_reducible rfl)
  try simp only [Act.put, List.setIfInBounds_toArray, List.set_cons_zero, List.set_cons_succ]
  refine seq_take (v := ?_) (by rfl) ?_ ?_
  rotate_left
  · intro w' hSw
    obtain ⟨_, c0, c1, c2, c3, d0, d1, d2, d3⟩ := hSw
    go_simp
    try (with_reducible rfl)
  try simp only [Act.put, List.setIfInBounds_toArray, List.set_cons_zero, List.set_cons_succ]
  refine seq_take (v := ?_) (by rfl) ?_ ?_
  rotate_left
  · intro w' hSw
    obtain ⟨_, c0, c1, c2, c3, d0, d1, d2, d3⟩ := hSw
    go_simp
    try (with_reducible rfl)
  try simp only [Act.put, List.setIfInBounds_toArray, List.set_cons_zero, List.set_cons_succ]
  refine seq_take (v := ?_) (by rfl) ?_ ?_
  rotate_left
  · intro w' hSw
    obtain ⟨_, c0, c1, c2, c3, d0, d1, d2, d3⟩ := hSw
    go_simp
    try (with_reducible rfl)
  try simp only [Act.put, List.setIfInBounds_toArray, List.set_cons_zero, List.set_cons_succ]
  refine seq_take (v := ?_) (by rfl) ?_ ?_
  rotate_left
  · intro w' hSw
    obtain ⟨_, c0, c1, c2, c3, d0, d1, d2, d3⟩ := hSw
    go_simp
    try (with_reducible rfl)
  try simp only [Act.put, List.setIfInBounds_toArray, List.set_cons_zero, List.set_cons_succ]
  refine seq_solo (by rfl) (fun K hK => ?_)
  go_simp
  refine hK.out _ _ (hS.later ((Below.refl _ _).alloc (Nat.le_refl _) _)) (fun hS2 => ?_)
  clear hK K
  try simp only [Act.put, List.setIfInBounds_toArray, List.set_cons_zero, List.set_cons_succ]
  refine seq_solo (by rfl) (fun K hK => ?_)
  go_simp
  refine (H2.out _ _ _ hS2 (by simp [go_sem]) (by simp [go_sem])).mono ?_
  rintro e w2 ⟨rfl, hT2⟩
  clear hS
  have hS := hT2
  clear hS2 hT2
  refine hK.out _ _ hS (fun _ => ?_)
  clear hK K
  try simp only [Act.put, List.setIfInBounds_toArray, List.set_cons_zero, List.set_cons_succ]
  refine seq_take (v := ?_) (by rfl) ?_ ?_
  rotate_left
  · intro w' hSw
    obtain ⟨_, c0, c1, c2, c3, d0, d1, d2, d3⟩ := hSw
    go_simp
    try (with_reducible rfl)
  try simp only [Act.put, List.setIfInBounds_toArray, List.set_cons_zero, List.set_cons_succ]
  refine seq_take (v := ?_) (by rfl) ?_ ?_
  rotate_left
  · intro w' hSw
    obtain ⟨_, c0, c1, c2, c3, d0, d1, d2, d3⟩ := hSw
    go_simp
    try (with_reducible rfl)
  try simp only [Act.put, List.setIfInBounds_toArray, List.set_cons_zero, List.set_cons_succ]
  refine seq_take (v := ?_) (by rfl) ?_ ?_
  rotate_left
  · intro w' hSw
    obtain ⟨_, c0, c1, c2, c3, d0, d1, d2, d3⟩ := hSw
    go_simp
    try (with_reducible rfl)
  try simp only [Act.put, List.setIfInBounds_toArray, List.set_cons_zero, List.set_cons_succ]
  refine seq_take (v := ?_) (by rfl) ?_ ?_
  rotate_left
  · intro w' hSw
    obtain ⟨_, c0, c1, c2, c3, d0, d1, d2, d3⟩ := hSw
    go_simp
    try (with_reducible rfl)
  try simp only [Act.put, List.setIfInBounds_toArray, List.set_cons_zero, List.set_cons_succ]
  refine seq_take (v := ?_) (by rfl) ?_ ?_
  rotate_left
  · intro w' hSw
    obtain ⟨_, c0, c1, c2, c3, d0, d1, d2, d3⟩ := hSw
    go_simp
    try (with_reducible rfl)
  try simp only [Act.put, List.setIfInBounds_toArray, List.set_cons_zero, List.set_cons_succ]
  refine seq_take (v := ?_) (by rfl) ?_ ?_
  rotate_left
  · intro w' hSw
    obtain ⟨_, c0, c1, c2, c3, d0, d1, d2, d3⟩ := hSw
    go_simp
    try (with_reducible rfl)
  try simp only [Act.put, List.setIfInBounds_toArray, List.set_cons_zero, List.set_cons_succ]
  refine seq_take (v := ?_) (by rfl) ?_ ?_
  rotate_left
  · intro w' hSw
    obtain ⟨_, c0, c1, c2, c3, d0, d1, d2, d3⟩ := hSw
    go_simp
    try (with_reducible rfl)
  try simp only [Act.put, List.setIfInBounds_toArray, List.set_cons_zero, List.set_cons_succ]
  refine seq_take (v := ?_) (by rfl) ?_ ?_
  rotate_left
  · intro w' hSw
    obtain ⟨_, c0, c1, c2, c3, d0, d1, d2, d3⟩ := hSw
    go_simp
    try (with_reducible rfl)
  try simp only [Act.put, List.setIfInBounds_toArray, List.set_cons_zero, List.set_cons_succ]
  refine seq_take (v := ?_) (by rfl) ?_ ?_
  rotate_left
  · intro w' hSw
    obtain ⟨_, c0, c1, c2, c3, d0, d1, d2, d3⟩ := hSw
    go_simp
    try (with_reducible rfl)
  try simp only [Act.put, List.setIfInBounds_toArray, List.set_cons_zero, List.set_cons_succ]
  refine seq_solo (by rfl) (fun K hK => ?_)
  go_simp
  refine hK.out _ _ (hS.later ((Below.refl _ _).alloc (Nat.le_refl _) _)) (fun hS3 => ?_)
  clear hK K
  try simp only [Act.put, List.setIfInBounds_toArray, List.set_cons_zero, List.set_cons_succ]
  refine seq_solo (by rfl) (fun K hK => ?_)
  go_simp
  refine (H3.out _ _ _ hS3 (by simp [go_sem]) (by simp [go_sem])).mono ?_
  rintro e w3 ⟨rfl, hT3⟩
  clear hS
  have hS := hT3
  clear hS3 hT3
  refine hK.out _ _ hS (fun _ => ?_)
  clear hK K
  try simp only [Act.put, List.setIfInBounds_toArray, List.set_cons_zero, List.set_cons_succ]
  refine seq_take (v := ?_) (by rfl) ?_ ?_
  rotate_left
  · intro w' hSw
    obtain ⟨_, c0, c1, c2, c3, d0, d1, d2, d3⟩ := hSw
    go_simp
    try (with_reducible rfl)
  try simp only [Act.put, List.setIfInBounds_toArray, List.set_cons_zero, List.set_cons_succ]
  refine seq_take (v := ?_) (by rfl) ?_ ?_
  rotate_left
  · intro w' hSw
    obtain ⟨_, c0, c1, c2, c3, d0, d1, d2, d3⟩ := hSw
    go_simp
    try (with_reducible rfl)
  try simp only [Act.put, List.setIfInBounds_toArray, List.set_cons_zero, List.set_cons_succ]
  refine seq_take (v := ?_) (by rfl) ?_ ?_
  rotate_left
  · intro w' hSw
    obtain ⟨_, c0, c1, c2, c3, d0, d1, d2, d3⟩ := hSw
    go_simp
    try (with_reducible rfl)
  try simp only [Act.put, List.setIfInBounds_toArray, List.set_cons_zero, List.set_cons_succ]
  refine seq_take (v := ?_) (by rfl) ?_ ?_
  rotate_left
  · intro w' hSw
    obtain ⟨_, c0, c1, c2, c3, d0, d1, d2, d3⟩ := hSw
    go_simp
    try (with_reducible rfl)
  try simp only [Act.put, List.setIfInBounds_toArray, List.set_cons_zero, List.set_cons_succ]
  refine seq_take (v := ?_) (by rfl) ?_ ?_
  rotate_left
  · intro w' hSw
    obtain ⟨_, c0, c1, c2, c3, d0, d1, d2, d3⟩ := hSw
    go_simp
    try (with_reducible rfl)
  try simp only [Act.put, List.setIfInBounds_toArray, List.set_cons_zero, List.set_cons_succ]
  refine seq_take (v := ?_) (by rfl) ?_ ?_
  rotate_left
  · intro w' hSw
    obtain ⟨_, c0, c1, c2, c3, d0, d1, d2, d3⟩ := hSw
    go_simp
    try (with_reducible rfl)
  try simp only [Act.put, List.setIfInBounds_toArray, List.set_cons_zero, List.set_cons_succ]
  refine seq_take (v := ?_) (by rfl) ?_ ?_
  rotate_left
  · intro w' hSw
    obtain ⟨_, c0, c1, c2, c3, d0, d1, d2, d3⟩ := hSw
    go_simp
    try (with_reducible rfl)
  try simp only [Act.put, List.setIfInBounds_toArray, List.set_cons_zero, List.set_cons_succ]
  refine seq_take (v := ?_) (by rfl) ?_ ?_
  rotate_left
  · intro w' hSw
    obtain ⟨_, c0, c1, c2, c3, d0, d1, d2, d3⟩ := hSw
    go_simp
    try (with_reducible rfl)
  try simp only [Act.put, List.setIfInBounds_toArray, List.set_cons_zero, List.set_cons_succ]
  refine seq_take (v := ?_) (by rfl) ?_ ?_
  rotate_left
  · intro w' hSw
    obtain ⟨_, c0, c1, c2, c3, d0, d1, d2, d3⟩ := hSw
    go_simp
    try (with_reducible rfl)
  try simp only [Act.put, List.setIfInBounds_toArray, List.set_cons_zero, List.set_cons_succ]
  refine seq_solo (by rfl) (fun K hK => ?_)
  go_simp
  refine hK.out _ _ (hS.later ((Below.refl _ _).alloc (Nat.le_refl _) _)) (fun hS4 => ?_)
  clear hK K
  try simp only [Act.put, List.setIfInBounds_toArray, List.set_cons_zero, List.set_cons_succ]
  refine seq_solo (by rfl) (fun K hK => ?_)
  go_simp
  refine (H4.out _ _ _ hS4 (by simp [go_sem]) (by simp [go_sem])).mono ?_
  rintro e w4 ⟨rfl, hT4⟩
  clear hS
  have hS := hT4
  clear hS4 hT4
  refine hK.out _ _ hS (fun _ => ?_)
  clear hK K
  try simp only [Act.put, List.setIfInBounds_toArray, List.set_cons_zero, List.set_cons_succ]
  refine seq_take (v := ?_) (by rfl) ?_ ?_
  rotate_left
  · intro w' hSw
    obtain ⟨_, c0, c1, c2, c3, d0, d1, d2, d3⟩ := hSw
    go_simp
    try (with_reducible rfl)
  try simp only [Act.put, List.setIfInBounds_toArray, List.set_cons_zero, List.set_cons_succ]
  refine seq_take (v := ?_) (by rfl) ?_ ?_
  rotate_left
  · intro w' hSw
    obtain ⟨_, c0, c1, c2, c3, d0, d1, d2, d3⟩ := hSw
    go_simp
    try (with_reducible rfl)
  try simp only [Act.put, List.setIfInBounds_toArray, List.set_cons_zero, List.set_cons_succ]
  refine seq_take (v := ?_) (by rfl) ?_ ?_
  rotate_left
  · intro w' hSw
    obtain ⟨_, c0, c1, c2, c3, d0, d1, d2, d3⟩ := hSw
    go_simp
    try (with_reducible rfl)
  try simp only [Act.put, List.setIfInBounds_toArray, List.set_cons_zero, List.set_cons_succ]
  refine seq_take (v := ?_) (by rfl) ?_ ?_
  rotate_left
  · intro w' hSw
    obtain ⟨_, c0, c1, c2, c3, d0, d1, d2, d3⟩ := hSw
    go_simp
    try (with_reducible rfl)
  try simp only [Act.put, List.setIfInBounds_toArray, List.set_cons_zero, List.set_cons_succ]
  refine seq_take (v := ?_) (by rfl) ?_ ?_
  rotate_left
  · intro w' hSw
    obtain ⟨_, c0, c1, c2, c3, d0, d1, d2, d3⟩ := hSw
    go_simp
    try (with_reducible rfl)
  try simp only [Act.put, List.setIfInBounds_toArray, List.set_cons_zero, List.set_cons_succ]
  refine seq_take (v := ?_) (by rfl) ?_ ?_
  rotate_left
  · intro w' hSw
    obtain ⟨_, c0, c1, c2, c3, d0, d1, d2, d3⟩ := hSw
    go_simp
    try (with_reducible rfl)
  try simp only [Act.put, List.setIfInBounds_toArray, List.set_cons_zero, List.set_cons_succ]
  refine seq_take (v := ?_) (by rfl) ?_ ?_
  rotate_left
  · intro w' hSw
    obtain ⟨_, c0, c1, c2, c3, d0, d1, d2, d3⟩ := hSw
    go_simp
    try (with_reducible rfl)
  try simp only [Act.put, List.setIfInBounds_toArray, List.set_cons_zero, List.set_cons_succ]
  refine seq_take (v := ?_) (by rfl) ?_ ?_
  rotate_left
  · intro w' hSw
    obtain ⟨_, c0, c1, c2, c3, d0, d1, d2, d3⟩ := hSw
    go_simp
    try (with_reducible rfl)
  try simp only [Act.put, List.setIfInBounds_toArray, List.set_cons_zero, List.set_cons_succ]
  refine seq_take (v := ?_) (by rfl) ?_ ?_
  rotate_left
  · intro w' hSw
    obtain ⟨_, c0, c1, c2, c3, d0, d1, d2, d3⟩ := hSw
    go_simp
    try (with_reducible rfl)
  try simp only [Act.put, List.setIfInBounds_toArray, List.set_cons_zero, List.set_cons_succ]
  refine seq_solo (by rfl) (fun K hK => ?_)
  go_simp
  refine hK.out _ _ (hS.later ((Below.refl _ _).alloc (Nat.le_refl _) _)) (fun hS5 => ?_)
  clear hK K
  try simp only [Act.put, List.setIfInBounds_toArray, List.set_cons_zero, List.set_cons_succ]
  refine seq_solo (by rfl) (fun K hK => ?_)
  go_simp
  refine (H5.out _ _ _ hS5 (by simp [go_sem]) (by simp [go_sem])).mono ?_
  rintro e w5 ⟨rfl, hT5⟩
  clear hS
  have hS := hT5
  clear hS5 hT5
  refine hK.out _ _ hS (fun _ => ?_)
  clear hK K
  try simp only [Act.put, List.setIfInBounds_toArray, List.set_cons_zero, List.set_cons_succ]
  refine seq_take (v := ?_) (by rfl) ?_ ?_
  rotate_left
  · intro w' hSw
    obtain ⟨_, c0, c1, c2, c3, d0, d1, d2, d3⟩ := hSw
    go_simp
    try (with_reducible rfl)
  try simp only [Act.put, List.setIfInBounds_toArray, List.set_cons_zero, List.set_cons_succ]
  refine seq_take (v := ?_) (by rfl) ?_ ?_
  rotate_left
  · intro w' hSw
    obtain ⟨_, c0, c1, c2, c3, d0, d1, d2, d3⟩ := hSw
    go_simp
    try (with_reducible rfl)
  try simp only [Act.put, List.setIfInBounds_toArray, List.set_cons_zero, List.set_cons_succ]
  refine seq_take (v := ?_) (by rfl) ?_ ?_
  rotate_left
  · intro w' hSw
    obtain ⟨_, c0, c1, c2, c3, d0, d1, d2, d3⟩ := hSw
    go_simp
    try (with_reducible rfl)
  try simp only [Act.put, List.setIfInBounds_toArray, List.set_cons_zero, List.set_cons_succ]
  refine seq_take (v := ?_) (by rfl) ?_ ?_
  rotate_left
  · intro w' hSw
    obtain ⟨_, c0, c1, c2, c3, d0, d1, d2, d3⟩ := hSw
    go_simp
    try (with_reducible rfl)
  try simp only [Act.put, List.setIfInBounds_toArray, List.set_cons_zero, List.set_cons_succ]
  refine seq_take (v := ?_) (by rfl) ?_ ?_
  rotate_left
  · intro w' hSw
    obtain ⟨_, c0, c1, c2, c3, d0, d1, d2, d3⟩ := hSw
    go_simp
    try (with_reducible rfl)
  try simp only [Act.put, List.setIfInBounds_toArray, List.set_cons_zero, List.set_cons_succ]
  refine seq_take (v := ?_) (by rfl) ?_ ?_
  rotate_left
  · intro w' hSw
    obtain ⟨_, c0, c1, c2, c3, d0, d1, d2, d3⟩ := hSw
    go_simp
    try (with_reducible rfl)
  try simp only [Act.put, List.setIfInBounds_toArray, List.set_cons_zero, List.set_cons_succ]
  refine seq_take (v := ?_) (by rfl) ?_ ?_
  rotate_left
  · intro w' hSw
    obtain ⟨_, c0, c1, c2, c3, d0, d1, d2, d3⟩ := hSw
    go_simp
    try (with_reducible rfl)
  try simp only [Act.put, List.setIfInBounds_toArray, List.set_cons_zero, List.set_cons_succ]
  refine seq_take (v := ?_) (by rfl) ?_ ?_
  rotate_left
  · intro w' hSw
    obtain ⟨_, c0, c1, c2, c3, d0, d1, d2, d3⟩ := hSw
    go_simp
    try (with_reducible rfl)
  try simp only [Act.put, List.setIfInBounds_toArray, List.set_cons_zero, List.set_cons_succ]
  refine seq_take (v := ?_) (by rfl) ?_ ?_
  rotate_left
  · intro w' hSw
    obtain ⟨_, c0, c1, c2, c3, d0, d1, d2, d3⟩ := hSw
    go_simp
    try (with_reducible rfl)
  try simp only [Act.put, List.setIfInBounds_toArray, List.set_cons_zero, List.set_cons_succ]
  refine seq_solo (by rfl) (fun K hK => ?_)
  go_simp
  refine hK.out _ _ (hS.later ((Below.refl _ _).alloc (Nat.le_refl _) _)) (fun hS6 => ?_)
  clear hK K
  try simp only [Act.put, List.setIfInBounds_toArray, List.set_cons_zero, List.set_cons_succ]
  refine seq_solo (by rfl) (fun K hK => ?_)
  go_simp
  refine (H6.out _ _ _ hS6 (by simp [go_sem]) (by simp [go_sem])).mono ?_
  rintro e w6 ⟨rfl, hT6⟩
  clear hS
  have hS := hT6
  clear hS6 hT6
  refine hK.out _ _ hS (fun _ => ?_)
  clear hK K
  try simp only [Act.put, List.setIfInBounds_toArray, List.set_cons_zero, List.set_cons_succ]
  refine seq_take (v := ?_) (by rfl) ?_ ?_
  rotate_left
  · intro w' hSw
    obtain ⟨_, c0, c1, c2, c3, d0, d1, d2, d3⟩ := hSw
    go_simp
    try (with_reducible rfl)
  try simp only [Act.put, List.setIfInBounds_toArray, List.set_cons_zero, List.set_cons_succ]
  refine seq_take (v := ?_) (by rfl) ?_ ?_
  rotate_left
  · intro w' hSw
    obtain ⟨_, c0, c1, c2, c3, d0, d1, d2, d3⟩ := hSw
    go_simp
    try (with_reducible rfl)
  try simp only [Act.put, List.setIfInBounds_toArray, List.set_cons_zero, List.set_cons_succ]
  refine seq_take (v := ?_) (by rfl) ?_ ?_
  rotate_left
  · intro w' hSw
    obtain ⟨_, c0, c1, c2, c3, d0, d1, d2, d3⟩ := hSw
    go_simp
    try (with_reducible rfl)
  try simp only [Act.put, List.setIfInBounds_toArray, List.set_cons_zero, List.set_cons_succ]
  refine seq_take (v := ?_) (by rfl) ?_ ?_
  rotate_left
  · intro w' hSw
    obtain ⟨_, c0, c1, c2, c3, d0, d1, d2, d3⟩ := hSw
    go_simp
    try (with_reducible rfl)
  try simp only [Act.put, List.setIfInBounds_toArray, List.set_cons_zero, List.set_cons_succ]
  refine seq_take (v := ?_) (by rfl) ?_ ?_
  rotate_left
  · intro w' hSw
    obtain ⟨_, c0, c1, c2, c3, d0, d1, d2, d3⟩ := hSw
    go_simp
    try (with_reducible rfl)
  try simp only [Act.put, List.setIfInBounds_toArray, List.set_cons_zero, List.set_cons_succ]
  refine seq_take (v := ?_) (by rfl) ?_ ?_
  rotate_left
  · intro w' hSw
    obtain ⟨_, c0, c1, c2, c3, d0, d1, d2, d3⟩ := hSw
    go_simp
    try (with_reducible rfl)
  try simp only [Act.put, List.setIfInBounds_toArray, List.set_cons_zero, List.set_cons_succ]
  refine seq_take (v := ?_) (by rfl) ?_ ?_
  rotate_left
  · intro w' hSw
    obtain ⟨_, c0, c1, c2, c3, d0, d1, d2, d3⟩ := hSw
    go_simp
    try (with_reducible rfl)
  try simp only [Act.put, List.setIfInBounds_toArray, List.set_cons_zero, List.set_cons_succ]
  refine seq_take (v := ?_) (by rfl) ?_ ?_
  rotate_left
  · intro w' hSw
    obtain ⟨_, c0, c1, c2, c3, d0, d1, d2, d3⟩ := hSw
    go_simp
    try (with_reducible rfl)
  try simp only [Act.put, List.setIfInBounds_toArray, List.set_cons_zero, List.set_cons_succ]
  refine seq_take (v := ?_) (by rfl) ?_ ?_
  rotate_left
  · intro w' hSw
    obtain ⟨_, c0, c1, c2, c3, d0, d1, d2, d3⟩ := hSw
    go_simp
    try (with_reducible rfl)
  try simp only [Act.put, List.setIfInBounds_toArray, List.set_cons_zero, List.set_cons_succ]
  refine seq_solo (by rfl) (fun K hK => ?_)
  go_simp
  refine hK.out _ _ (hS.later ((Below.refl _ _).alloc (Nat.le_refl _) _)) (fun hS7 => ?_)
  clear hK K
  try simp only [Act.put, List.setIfInBounds_toArray, List.set_cons_zero, List.set_cons_succ]
  refine seq_solo (by rfl) (fun K hK => ?_)
  go_simp
  refine (H7.out _ _ _ hS7 (by simp [go_sem]) (by simp [go_sem])).mono ?_
  rintro e w7 ⟨rfl, hT7⟩
  clear hS
  have hS := hT7
  clear hS7 hT7
  refine hK.out _ _ hS (fun _ => ?_)
  clear hK K
  try simp only [Act.put, List.setIfInBounds_toArray, List.set_cons_zero, List.set_cons_succ]
  refine seq_take (v := ?_) (by rfl) ?_ ?_
  rotate_left
  · intro w' hSw
    obtain ⟨_, c0, c1, c2, c3, d0, d1, d2, d3⟩ := hSw
    go_simp
    try (with_reducible rfl)
  try simp only [Act.put, List.setIfInBounds_toArray, List.set_cons_zero, List.set_cons_succ]
  refine seq_take (v := ?_) (by rfl) ?_ ?_
  rotate_left
  · intro w' hSw
    obtain ⟨_, c0, c1, c2, c3, d0, d1, d2, d3⟩ := hSw
    go_simp
    try (with_reducible rfl)
  try simp only [Act.put, List.setIfInBounds_toArray, List.set_cons_zero, List.set_cons_succ]
  refine seq_take (v := ?_) (by rfl) ?_ ?_
  rotate_left
  · intro w' hSw
    obtain ⟨_, c0, c1, c2, c3, d0, d1, d2, d3⟩ := hSw
    go_simp
    try (with_reducible rfl)
  try simp only [Act.put, List.setIfInBounds_toArray, List.set_cons_zero, List.set_cons_succ]
  refine seq_take (v := ?_) (by rfl) ?_ ?_
  rotate_left
  · intro w' hSw
    obtain ⟨_, c0, c1, c2, c3, d0, d1, d2, d3⟩ := hSw
    go_simp
    try (with_reducible rfl)
  try simp only [Act.put, List.setIfInBounds_toArray, List.set_cons_zero, List.set_cons_succ]
  refine seq_take (v := ?_) (by rfl) ?_ ?_
  rotate_left
  · intro w' hSw
    obtain ⟨_, c0, c1, c2, c3, d0, d1, d2, d3⟩ := hSw
    go_simp
    try (with_reducible rfl)
  try simp only [Act.put, List.setIfInBounds_toArray, List.set_cons_zero, List.set_cons_succ]
  refine seq_take (v := ?_) (by rfl) ?_ ?_
  rotate_left
  · intro w' hSw
    obtain ⟨_, c0, c1, c2, c3, d0, d1, d2, d3⟩ := hSw
    go_simp
    try (with_reducible rfl)
  try simp only [Act.put, List.setIfInBounds_toArray, List.set_cons_zero, List.set_cons_succ]
  refine seq_take (v := ?_) (by rfl) ?_ ?_
  rotate_left
  · intro w' hSw
    obtain ⟨_, c0, c1, c2, c3, d0, d1, d2, d3⟩ := hSw
    go_simp
    try (with_reducible rfl)
  try simp only [Act.put, List.setIfInBounds_toArray, List.set_cons_zero, List.set_cons_succ]
  refine seq_take (v := ?_) (by rfl) ?_ ?_
  rotate_left
  · intro w' hSw
    obtain ⟨_, c0, c1, c2, c3, d0, d1, d2, d3⟩ := hSw
    go_simp
    try (with_reducible rfl)
  try simp only [Act.put, List.setIfInBounds_toArray, List.set_cons_zero, List.set_cons_succ]
  refine seq_take (v := ?_) (by rfl) ?_ ?_
  rotate_left
  · intro w' hSw
    obtain ⟨_, c0, c1, c2, c3, d0, d1, d2, d3⟩ := hSw
    go_simp
    try (with_reducible rfl)
  try simp only [Act.put, List.setIfInBounds_toArray, List.set_cons_zero, List.set_cons_succ]
  refine seq_solo (by rfl) (fun K hK => ?_)
  go_simp
  refine hK.out _ _ (hS.later ((Below.refl _ _).alloc (Nat.le_refl _) _)) (fun hS8 => ?_)
  clear hK K
  try simp only [Act.put, List.setIfInBounds_toArray, List.set_cons_zero, List.set_cons_succ]
  refine seq_solo (by rfl) (fun K hK => ?_)
  go_simp
  refine (H8.out _ _ _ hS8 (by simp [go_sem]) (by simp [go_sem])).mono ?_
  rintro e w8 ⟨rfl, hT8⟩
  clear hS
  have hS := hT8
  clear hS8 hT8
  refine hK.out _ _ hS (fun _ => ?_)
  clear hK K
  try simp only [Act.put, List.setIfInBounds_toArray, List.set_cons_zero, List.set_cons_succ]
  refine seq_take (v := ?_) (by rfl) ?_ ?_
  rotate_left
  · intro w' hSw
    obtain ⟨_, c0, c1, c2, c3, d0, d1, d2, d3⟩ := hSw
    go_simp
    try (with_reducible rfl)
  try simp only [Act.put, List.setIfInBounds_toArray, List.set_cons_zero, List.set_cons_succ]
  refine seq_take (v := ?_) (by rfl) ?_ ?_
  rotate_left
  · intro w' hSw
    obtain ⟨_, c0, c1, c2, c3, d0, d1, d2, d3⟩ := hSw
    go_simp
    try (with_reducible rfl)
  try simp only [Act.put, List.setIfInBounds_toArray, List.set_cons_zero, List.set_cons_succ]
  refine seq_done ?_
  go_wp2
  go_ret
  exact ⟨rfl, hS.1⟩
end Go.Proofs.YtokooampmhcfeaaDoor.Rg
