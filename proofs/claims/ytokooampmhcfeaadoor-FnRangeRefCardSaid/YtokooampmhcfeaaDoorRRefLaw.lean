/- The law of an area's text: its call returns true. -/
import Derived.Test.YtokooampmhcfeaaDoorRRef
import Derived.Test.YtokooampmhcfeaaDoorRSorted
namespace Go.Proofs.YtokooampmhcfeaaDoor.Rg
open Go.RowKit

set_option maxHeartbeats 1600000 in
set_option maxRecDepth 100000 in
theorem door_ref (ab : Bool) (b k : Nat) (p q x y : Nat) (w0 w : World) (h : Four w0 w b p q x y) (hp : 1 ≤ p ∧ p ≤ 16384) (hq : 1 ≤ q ∧ q ≤ 1048576) (hx : 1 ≤ x ∧ x ≤ 16384) (hy : 1 ≤ y ∧ y ≤ 1048576) (ht : Tab w) :
    Calls Tryd.prog 26 #[.slice (some ⟨b, 0, none⟩) 4 k, .bool ab] w fun e w' => e = .returned (.tuple #[.string ⟨(areaText ab p q x y).toArray⟩, .bool true]) ∧ Below w.heap.size w w' := by
  have hal : Below w.heap.size w (w.alloc (.cells #[.bool ab] 4)) := (Below.refl _ _).alloc (Nat.le_refl _) _
  have h' := h.later hal
  have ht' := ht.stays hal
  have hab : AbsIs (w.alloc (.cells #[.bool ab] 4)) ab (some ⟨w.heap.size, 0, none⟩) 1 := .inr ⟨rfl, w.heap.size, 0, rfl, by simp [go_sem], by simp [go_sem]⟩
  go_enter Tryd.func26, Tryd.ntmps26
  go_wp2_with fail
  refine (ref_any ab b k 1 _ _ p q x y w0 _ h' hp hq hx hy ht' hab).mono ?_
  rintro e w1 ⟨rfl, hb⟩
  have hB : Below w.heap.size w w1 := hal.trans (hb.mono hal.size)
  clear hb hal h' ht' hab
  go_wp2_with fail
  go_quiet (fail)
  go_wp2
  go_ret2
  exact ⟨rfl, hB.trans ((below_drewN _ _).mono hB.size)⟩

set_option maxHeartbeats 1600000 in
theorem impl_ref (ab : Bool) (b k : Nat) (p q x y : Nat) (w0 w : World) (h : Four w0 w b p q x y) (hp : 1 ≤ p ∧ p ≤ 16384) (hq : 1 ≤ q ∧ q ≤ 1048576) (hx : 1 ≤ x ∧ x ≤ 16384) (hy : 1 ≤ y ∧ y ≤ 1048576) (ht : Tab w) :
    Calls Tryd.prog 14 #[.slice (some ⟨b, 0, none⟩) 4 k, .bool ab] w fun e w' => e = .returned (.tuple #[.string ⟨(areaText ab p q x y).toArray⟩, .bool true]) ∧ Below w.heap.size w w' := by
  go_enter Tryd.func14, Tryd.ntmps14
  go_wp2_with fail
  refine (door_ref ab b k p q x y w0 _ h hp hq hx hy ht).mono ?_
  rintro e w1 ⟨rfl, hb⟩
  go_wp2
  go_ret2
  exact ⟨rfl, hb⟩

set_option maxHeartbeats 1600000 in
set_option maxRecDepth 100000 in
theorem area_any (a b c d : Int) (w : World) :
    Calls Tryd.prog 13 #[.agg #[.int .i64 a, .int .i64 b, .int .i64 c, .int .i64 d]] w fun e w' =>
      e = .returned (.agg #[.int .i64 (min (gn a 16384) (gn c 16384)), .int .i64 (min (gn b 1048576) (gn d 1048576)), .int .i64 (max (gn a 16384) (gn c 16384)), .int .i64 (max (gn b 1048576) (gn d 1048576))]) ∧ Below w.heap.size w w' := by
  have G1 := fun w => grid_still a 16384 w (by decide) (by decide)
  have G2 := fun w => grid_still b 1048576 w (by decide) (by decide)
  have G3 := fun w => grid_still c 16384 w (by decide) (by decide)
  have G4 := fun w => grid_still d 1048576 w (by decide) (by decide)
  generalize gn a 16384 = p at *
  generalize gn b 1048576 = q at *
  generalize gn c 16384 = r at *
  generalize gn d 1048576 = s at *
  have FA := Four.made w a b c d 22
  obtain ⟨wA, hA⟩ : ∃ wA, wA = w.alloc (.cells #[.int .i64 a, .int .i64 b, .int .i64 c, .int .i64 d] 22) := ⟨_, rfl⟩
  rw [← hA] at FA
  have FZ := (Four.made wA 0 0 0 0 22).under FA.below
  replace FA := FA.later ((Below.refl _ _).alloc (Nat.le_refl _) (.cells #[.int .i64 0, .int .i64 0, .int .i64 0, .int .i64 0] 22))
  have hAz : wA.heap.size = w.heap.size + 1 := by rw [hA]; simp [go_sem]
  go_enter Tryd.func13, Tryd.ntmps13
  go_wp2_with fail
  rw [← hA, ← hAz]
  generalize wA.alloc (.cells #[.int .i64 0, .int .i64 0, .int .i64 0, .int .i64 0] 22) = wB at *
  generalize wA.heap.size = g2 at *
  generalize w.heap.size = g1 at *
  clear hA hAz
  refine wp_region_still_tail 6 (by kernel_rfl) (by kernel_rfl) ?_
  change wpStill _ _ wB.drew _ _ _
  replace FA := FA.drew
  replace FZ := FZ.drew
  generalize hD : wB.drew = wC at *
  have c0 := FA.c0
  have c1 := FA.c1
  have c2 := FA.c2
  have c3 := FA.c3
  simp only [List.take_succ_cons, List.take_zero, List.drop_succ_cons, List.drop_zero]
  still_step
  still_step
  still_call (G1 _)
  still_step
  still_step
  still_call (G2 _)
  refine wpStill_nil ?_
  change wpList _ _ _ _ _ wB.drew
  rw [hD]
  clear c0 c1 c2 c3 hD
  go_wp2_with fail
  refine wp_region_still_tail 6 (by kernel_rfl) (by kernel_rfl) ?_
  change wpStill _ _ wC.drew _ _ _
  replace FA := FA.drew
  replace FZ := FZ.drew
  generalize hD : wC.drew = wD at *
  have c0 := FA.c0
  have c1 := FA.c1
  have c2 := FA.c2
  have c3 := FA.c3
  simp only [List.take_succ_cons, List.take_zero, List.drop_succ_cons, List.drop_zero]
  still_step
  still_step
  still_call (G3 _)
  still_step
  still_step
  still_call (G4 _)
  refine wpStill_nil ?_
  change wpList _ _ _ _ _ wC.drew
  rw [hD]
  clear c0 c1 c2 c3 hD
  clear G1 G2 G3 G4
  have c0 := FZ.c0
  have c1 := FZ.c1
  have c2 := FZ.c2
  have c3 := FZ.c3
  have f0 := FZ.free 0
  have f1 := FZ.free 1
  have f2 := FZ.free 2
  have f3 := FZ.free 3
  go_wp2
  have FE := (((FZ.set0 (min p r)).set1 (min q s)).set2 (max p r)).set3 (max q s)
  clear c0 c1 c2 c3 f0 f1 f2 f3 FZ FA
  generalize (((wD.setCell ⟨g2, 0, none⟩ (.int .i64 (min p r))).setCell ⟨g2, 1, none⟩ (.int .i64 (min q s))).setCell ⟨g2, 2, none⟩ (.int .i64 (max p r))).setCell ⟨g2, 3, none⟩ (.int .i64 (max q s)) = wE at *
  have c0 := FE.c0
  have c1 := FE.c1
  have c2 := FE.c2
  have c3 := FE.c3
  exact bodyPost_ret (v := .agg #[.int .i64 (min p r), .int .i64 (min q s), .int .i64 (max p r), .int .i64 (max q s)]) (by simp [results, Tryd.results13, go_sem, c0, c1, c2, c3]) rfl ⟨rfl, FE.below⟩

set_option maxHeartbeats 3200000 in
set_option maxRecDepth 100000 in
theorem ref_law (a b c d : Int) (ab : Bool) (w : World) (ht : Tab w) :
    Calls Tryd.prog 5 #[.agg #[.int .i64 a, .int .i64 b, .int .i64 c, .int .i64 d], .bool ab] w fun e w' => e = .returned (.bool true) ∧ Below w.heap.size w w' := by
  have g1 := gn_range a 16384 (by decide)
  have g2 := gn_range b 1048576 (by decide)
  have g3 := gn_range c 16384 (by decide)
  have g4 := gn_range d 1048576 (by decide)
  have HA := fun w => area_any a b c d w
  obtain ⟨p, hp⟩ : ∃ p : Nat, min (gn a 16384) (gn c 16384) = (p : Int) := ⟨(min (gn a 16384) (gn c 16384)).toNat, by omega⟩
  obtain ⟨q, hq⟩ : ∃ q : Nat, min (gn b 1048576) (gn d 1048576) = (q : Int) := ⟨(min (gn b 1048576) (gn d 1048576)).toNat, by omega⟩
  obtain ⟨x, hx⟩ : ∃ x : Nat, max (gn a 16384) (gn c 16384) = (x : Int) := ⟨(max (gn a 16384) (gn c 16384)).toNat, by omega⟩
  obtain ⟨y, hy⟩ : ∃ y : Nat, max (gn b 1048576) (gn d 1048576) = (y : Int) := ⟨(max (gn b 1048576) (gn d 1048576)).toNat, by omega⟩
  rw [hp, hq, hx, hy] at HA
  have bp : 1 ≤ p ∧ p ≤ 16384 := by omega
  have bq : 1 ≤ q ∧ q ≤ 1048576 := by omega
  have bx : 1 ≤ x ∧ x ≤ 16384 := by omega
  have by' : 1 ≤ y ∧ y ≤ 1048576 := by omega
  clear hp hq hx hy g1 g2 g3 g4
  have FA := Four.made w a b c d 22
  obtain ⟨wA, hA⟩ : ∃ wA, wA = w.alloc (.cells #[.int .i64 a, .int .i64 b, .int .i64 c, .int .i64 d] 22) := ⟨_, rfl⟩
  rw [← hA] at FA
  go_enter Tryd.func5, Tryd.ntmps5
  go_upto_region 1 with fail
  rw [← hA]
  generalize w.heap.size = g at *
  clear hA
  have c0 := FA.c0
  have c1 := FA.c1
  have c2 := FA.c2
  have c3 := FA.c3
  go_wp2_with fail
  refine (HA _).mono ?_
  rintro e w1 ⟨rfl, hb1⟩
  replace FA := FA.later hb1
  clear c0 c1 c2 c3 hb1
  have c0 := FA.c0
  have c1 := FA.c1
  have c2 := FA.c2
  have c3 := FA.c3
  have f0 := FA.free 0
  have f1 := FA.free 1
  have f2 := FA.free 2
  have f3 := FA.free 3
  go_upto_region 2 with fail
  replace FA := (((FA.set0 p).set1 q).set2 x).set3 y
  clear c0 c1 c2 c3 f0 f1 f2 f3 HA
  generalize (((w1.setCell ⟨g, 0, none⟩ (.int .i64 p)).setCell ⟨g, 1, none⟩ (.int .i64 q)).setCell ⟨g, 2, none⟩ (.int .i64 x)).setCell ⟨g, 3, none⟩ (.int .i64 y) = w2 at *
  have ht2 := ht.stays FA.below
  go_wp2_with fail
  refine (impl_ref ab g _ p q x y _ _ FA bp bq bx by' ht2).mono ?_
  rintro e w3 ⟨rfl, hb3⟩
  replace FA := FA.later hb3
  clear hb3 ht2
  go_wp2_with fail
  refine (impl_range _ p q x y _ (areaText_range ab p q x y bp bq bx by')).mono ?_
  rintro e w4 ⟨g2, rfl, F2⟩
  replace FA := FA.later F2.below
  go_wp2_with fail
  refine (same_any g2 4 g 4 (at4 p q x y) _ F2.at FA.at).mono ?_
  rintro e w5 ⟨rfl, hb5⟩
  replace FA := FA.later hb5
  clear F2 hb5
  go_wp2_with fail
  refine (lives_any _).mono ?_
  rintro e w6 ⟨rfl, hb6⟩
  have hB := FA.below.trans (hb6.mono FA.below.size)
  clear FA hb6
  go_wp2
  go_ret
  exact ⟨rfl, hB⟩
end Go.Proofs.YtokooampmhcfeaaDoor.Rg
