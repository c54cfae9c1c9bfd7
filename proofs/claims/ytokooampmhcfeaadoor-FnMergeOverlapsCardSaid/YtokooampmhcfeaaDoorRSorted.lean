/- The law of the sorted range: its call returns true. -/
import Derived.Test.YtokooampmhcfeaaDoorRSort
import Derived.StillTailTactics
import Derived.Deep.Cut
namespace Go.Proofs.YtokooampmhcfeaaDoor.Rg
open Go.RowKit

theorem grid_still (n most : Int) (w : World) (h1 : 1 ≤ most) (h2 : most ≤ 2000000) :
    Calls Tryd.prog 7 #[.int .i64 n, .int .i64 most] w fun e w' => e = .returned (.int .i64 (gn n most)) ∧ w' = w :=
  (grid_any n most w h1 h2).mono fun _ _ ⟨a, b⟩ => ⟨a, b.symm⟩

set_option maxHeartbeats 3200000 in
set_option maxRecDepth 100000 in
theorem sorted_law (a b c d : Int) (w : World) :
    Calls Tryd.prog 3 #[.agg #[.int .i64 a, .int .i64 b, .int .i64 c, .int .i64 d]] w fun e w' => e = .returned (.bool true) ∧ Below w.heap.size w w' := by
  obtain ⟨i0, hi, hz0, hz1, hz2⟩ := info_parts infoInt
  obtain ⟨p, hp⟩ : ∃ p, p = gn a 1000 := ⟨_, rfl⟩
  obtain ⟨q, hq⟩ : ∃ q, q = gn b 1000 := ⟨_, rfl⟩
  obtain ⟨r, hr⟩ : ∃ r, r = gn c 1000 := ⟨_, rfl⟩
  obtain ⟨s, hs⟩ : ∃ s, s = gn d 1000 := ⟨_, rfl⟩
  have FA := Four.made w a b c d 22
  go_enter Tryd.func3, Tryd.ntmps3
  go_wp2_with fail
  generalize w.alloc (.cells #[.int .i64 a, .int .i64 b, .int .i64 c, .int .i64 d] 22) = wA at *
  generalize w.heap.size = g0 at *
  refine wp_region_still_tail 12 (by kernel_rfl) (by kernel_rfl) ?_
  change wpStill _ _ wA.drew _ _ _
  replace FA := FA.drew
  generalize hwB : wA.drew = wB at *
  have c0 := FA.c0
  have c1 := FA.c1
  have c2 := FA.c2
  have c3 := FA.c3
  simp only [List.take_succ_cons, List.take_zero, List.drop_succ_cons, List.drop_zero]
  still_step
  still_step
  still_call (grid_still a 1000 _ (by decide) (by decide))
  still_step
  still_step
  still_call (grid_still b 1000 _ (by decide) (by decide))
  still_step
  still_step
  still_call (grid_still c 1000 _ (by decide) (by decide))
  still_step
  still_step
  still_call (grid_still d 1000 _ (by decide) (by decide))
  refine wpStill_nil ?_
  rw [← hp, ← hq, ← hr, ← hs]
  change wpList _ _ _ _ _ wA.drew
  rw [hwB]
  have hB0 := FA.below
  clear c0 c1 c2 c3 FA hwB hp hq hr hs
  have F1 := (Four.made wB p q r s 3).under hB0
  go_wp2_with fail
  generalize wB.alloc (.cells #[.int .i64 p, .int .i64 q, .int .i64 r, .int .i64 s] 3) = wC at *
  generalize wB.heap.size = g1 at *
  refine wp_region_still_tail 28 (by kernel_rfl) (by kernel_rfl) ?_
  change wpStill _ _ wC.drew _ _ _
  replace F1 := F1.drew
  generalize hwD : wC.drew = wD at *
  have c0 := F1.c0
  have c1 := F1.c1
  have c2 := F1.c2
  have c3 := F1.c3
  simp only [List.take_succ_cons, List.take_zero, List.drop_succ_cons, List.drop_zero]
  repeat still_step
  refine wpStill_nil ?_
  change wpList _ _ _ _ _ wC.drew
  rw [hwD]
  clear c0 c1 c2 c3 hwD
  have F2 := (Four.made wD (min p r) (min q s) (max p r) (max q s) 3).under F1.below
  replace F1 := F1.later ((Below.refl _ _).alloc (Nat.le_refl _) (.cells #[.int .i64 (min p r), .int .i64 (min q s), .int .i64 (max p r), .int .i64 (max q s)] 3))
  go_upto_region 3 with fail
  generalize hwE : wD.alloc (.cells #[.int .i64 (min p r), .int .i64 (min q s), .int .i64 (max p r), .int .i64 (max q s)] 3) = wE at *
  generalize wD.heap.size = g2 at *
  clear hwE
  go_wp2_with (at_builtin; refine wpList_append_own _ rfl _ _ 24 rfl wE.heap.size 3 i0 _ 1 8 Tryd.underlying24 hi hz0 hz1 hz2 rfl (by decide) _ 0 [] rfl ?c0 ⟨g1, 0, none⟩ 4 _ [.int .i64 p, .int .i64 q, .int .i64 r, .int .i64 s] rfl rfl ?c2 (four_one p q r s) ?c3 ?c4 ?c5 ?_)
  case c0 => exact World.ownsRow_made wE #[] 0 (Nat.le_refl _) (by unfold maxLen; omega) (by simp)
  case c2 => exact (F1.later ((Below.refl _ _).alloc (Nat.le_refl _) _)).news
  case c3 => unfold maxLen; omega
  case c4 => omega
  case c5 => simp
  intro v3 w1 hown hg _
  have hb3 : Below wE.heap.size wE w1 := ((Below.refl _ _).alloc (Nat.le_refl _) _).grown hg (by simp) (fun j hj => by simp [Value.ownBlock] at hj; omega)
  obtain ⟨g3, c3, rfl, F3⟩ := Four.of_own hown hb3
  clear hown hg
  replace F2 := F2.later hb3
  clear F1 hb3
  go_wp2_with fail
  refine (impl_sorted g3 c3 p q r s _ _ F3).mono ?_
  rintro e w2 ⟨g4, c4, rfl, F4⟩
  replace F2 := F2.later F4.below
  clear F3
  go_wp2_with (at_builtin; refine wpList_append_own _ rfl _ _ 24 rfl w2.heap.size 3 i0 _ 1 8 Tryd.underlying24 hi hz0 hz1 hz2 rfl (by decide) _ 0 [] rfl ?c0 ⟨g2, 0, none⟩ 4 _ [.int .i64 (min p r), .int .i64 (min q s), .int .i64 (max p r), .int .i64 (max q s)] rfl rfl ?c2 (four_one (min p r) (min q s) (max p r) (max q s)) ?c3 ?c4 ?c5 ?_)
  case c0 => exact World.ownsRow_made w2 #[] 0 (Nat.le_refl _) (by unfold maxLen; omega) (by simp)
  case c2 => exact (F2.later ((Below.refl _ _).alloc (Nat.le_refl _) _)).news
  case c3 => unfold maxLen; omega
  case c4 => omega
  case c5 => simp
  intro v5 w3 hown hg _
  have hb5 : Below w2.heap.size w2 w3 := ((Below.refl _ _).alloc (Nat.le_refl _) _).grown hg (by simp) (fun j hj => by simp [Value.ownBlock] at hj; omega)
  obtain ⟨g5, c5, rfl, F5⟩ := Four.of_own hown hb5
  clear hown hg
  replace F2 := F2.later hb5
  replace F4 := F4.later hb5
  clear hb5
  go_wp2_with fail
  refine (impl_sorted g5 c5 (min p r) (min q s) (max p r) (max q s) _ _ F5).mono ?_
  rintro e w4 ⟨g6, c6, rfl, F6⟩
  replace F2 := F2.later F6.below
  replace F4 := F4.later F6.below
  clear F5
  have e0 : min (min p r) (max p r) = min p r := by omega
  have e1 : min (min q s) (max q s) = min q s := by omega
  have e2 : max (min p r) (max p r) = max p r := by omega
  have e3 : max (min q s) (max q s) = max q s := by omega
  rw [e0, e1, e2, e3] at F6
  clear e0 e1 e2 e3
  go_wp2_with fail
  refine (same_any g4 c4 g2 4 (at4 (min p r) (min q s) (max p r) (max q s)) _ F4.at F2.at).mono ?_
  rintro e w5 ⟨rfl, hb7⟩
  replace F2 := F2.later hb7
  replace F6 := F6.later hb7
  clear F4 hb7
  go_wp2_with fail
  refine (same_any g6 c6 g2 4 (at4 (min p r) (min q s) (max p r) (max q s)) _ F6.at F2.at).mono ?_
  rintro e w6 ⟨rfl, hb8⟩
  replace F2 := F2.later hb8
  clear F6 hb8
  go_wp2_with fail
  refine (lives_any _).mono ?_
  rintro e w7 ⟨rfl, hb9⟩
  have hB := F2.below.trans (hb9.mono F2.below.size)
  clear F2 hb9
  go_wp2
  go_ret
  exact ⟨rfl, hB⟩
end Go.Proofs.YtokooampmhcfeaaDoor.Rg
