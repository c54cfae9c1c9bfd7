/- Any four numbers made an area of two cells at least, within thirty columns and sixty rows. -/
import Derived.Test.YtokooampmhcfeaaGreatDoorRJoin
namespace Go.Proofs.YtokooampmhcfeaaGreatDoor.Rg
open Go.RowKit

set_option maxHeartbeats 400000 in
theorem in_still (n most : Int) (w : World) (h1 : 1 ≤ most) (h2 : most ≤ 2000000) :
    Calls Tryz.prog 24 #[.int .i64 n, .int .i64 most] w fun e w' => e = .returned (.int .i64 (gn n most)) ∧ w' = w := by
  have t1 := Int.lt_tmod_of_pos n (show 0 < most by omega)
  have t2 := Int.tmod_lt_of_pos n (show 0 < most by omega)
  have h0 : (most == 0) = false := by simp; omega
  by_cases hs : n.tmod most < 0
  · have HG := Lib.hid (gn_neg n most h1 hs)
    go_enter Tryz.func24, Tryz.ntmps24
    go_wp2
    go_ret
    exact ⟨by rw [HG.out]; rfl, rfl⟩
  · have HG := Lib.hid (gn_pos n most (by omega))
    go_enter Tryz.func24, Tryz.ntmps24
    go_wp2
    go_ret
    exact ⟨by rw [HG.out]; rfl, rfl⟩

/-- An area of two cells at least, within the limits. -/
structure Good (a : Ar) : Prop where
  p1 : 1 ≤ a.p
  px : a.p ≤ a.x
  x30 : a.x ≤ 30
  q1 : 1 ≤ a.q
  qy : a.q ≤ a.y
  y60 : a.y ≤ 60
  two : a.p = a.x → a.q ≠ a.y

theorem Good.of {p q x y : Int} (h : 1 ≤ p ∧ p ≤ x ∧ x ≤ 30 ∧ 1 ≤ q ∧ q ≤ y ∧ y ≤ 60 ∧ (p = x → q ≠ y)) : Good ⟨p, q, x, y⟩ :=
  ⟨h.1, h.2.1, h.2.2.1, h.2.2.2.1, h.2.2.2.2.1, h.2.2.2.2.2.1, h.2.2.2.2.2.2⟩

def GoodPost (w : World) (e : Ending) (w' : World) : Prop := ∃ a : Ar, e = .returned a.val ∧ Good a ∧ Below w.heap.size w w'

set_option maxHeartbeats 1600000 in
set_option maxRecDepth 100000 in
theorem good_any (a : Ar) (w : World) : Calls Tryz.prog 15 #[a.val] w (GoodPost w) := by
  obtain ⟨a, b, c, d⟩ := a
  simp only [Ar.val]
  have G1 := fun w => in_still a 30 w (by decide) (by decide)
  have G2 := fun w => in_still b 60 w (by decide) (by decide)
  have G3 := fun w => in_still c 30 w (by decide) (by decide)
  have G4 := fun w => in_still d 60 w (by decide) (by decide)
  have r1 := gn_range a 30 (by decide)
  have r2 := gn_range b 60 (by decide)
  have r3 := gn_range c 30 (by decide)
  have r4 := gn_range d 60 (by decide)
  generalize gn a 30 = p at *
  generalize gn b 60 = q at *
  generalize gn c 30 = r at *
  generalize gn d 60 = s at *
  have FA := Four.made w a b c d 41
  obtain ⟨wA, hA⟩ : ∃ wA, wA = w.alloc (.cells #[.int .i64 a, .int .i64 b, .int .i64 c, .int .i64 d] 41) := ⟨_, rfl⟩
  rw [← hA] at FA
  have FZ := (Four.made wA 0 0 0 0 41).under FA.below
  replace FA := FA.later ((Below.refl _ _).alloc (Nat.le_refl _) (.cells #[.int .i64 0, .int .i64 0, .int .i64 0, .int .i64 0] 41))
  have hAz : wA.heap.size = w.heap.size + 1 := by rw [hA]; simp [go_sem]
  obtain ⟨X, hX⟩ : ∃ X, X = max p r := ⟨_, rfl⟩
  obtain ⟨P, hP⟩ : ∃ P, P = min p r := ⟨_, rfl⟩
  obtain ⟨Y, hY⟩ : ∃ Y, Y = max q s := ⟨_, rfl⟩
  obtain ⟨Q, hQ⟩ : ∃ Q, Q = min q s := ⟨_, rfl⟩
  have b1 : 1 ≤ P ∧ P ≤ X ∧ X ≤ 30 := by omega
  have b2 : 1 ≤ Q ∧ Q ≤ Y ∧ Y ≤ 60 := by omega
  go_enter Tryz.func15, Tryz.ntmps15
  go_upto_region 1 with fail
  rw [← hA, ← hAz]
  generalize wA.alloc (.cells #[.int .i64 0, .int .i64 0, .int .i64 0, .int .i64 0] 41) = wB at *
  generalize wA.heap.size = g2 at *
  generalize w.heap.size = g1 at FA ⊢
  clear hA hAz
  refine wp_region_still_tail 12 (by kernel_rfl) (by kernel_rfl) ?_
  change wpStill _ _ wB.drew _ _ _
  replace FA := FA.drew
  replace FZ := FZ.drew
  generalize hD : wB.drew = wC at *
  have c0 := FA.c0
  have c1 := FA.c1
  have c2 := FA.c2
  have c3 := FA.c3
  simp only [List.take_succ_cons, List.take_zero, List.drop_succ_cons, List.drop_zero]
  still_step
  still_step
  still_call (G1 _)
  still_step
  still_step
  still_call (G2 _)
  still_step
  still_step
  still_call (G3 _)
  still_step
  still_step
  still_call (G4 _)
  refine wpStill_nil ?_
  change wpList _ _ _ _ _ wB.drew
  rw [hD]
  clear c0 c1 c2 c3 hD G1 G2 G3 G4 FA r1 r2 r3 r4
  have c0 := FZ.c0
  have c1 := FZ.c1
  have c2 := FZ.c2
  have c3 := FZ.c3
  have f0 := FZ.free 0
  have f1 := FZ.free 1
  have f2 := FZ.free 2
  have f3 := FZ.free 3
  go_upto_region 4 with fail
  rw [← hX, ← hP, ← hY, ← hQ]
  clear hX hP hY hQ
  by_cases h1 : P = X
  · subst h1
    by_cases h2 : Q = Y
    · subst h2
      by_cases h3 : Q < 60
      · have hw : IntKind.i64.wrap (Q + 1) = Q + 1 := by rw [IntKind.wrap_i64]; omega
        go_wp2
        have FE := (((FZ.set0 P).set1 Q).set2 P).set3 (Q + 1)
        clear c0 c1 c2 c3 f0 f1 f2 f3 FZ
        generalize (((wC.setCell ⟨g2, 0, none⟩ (.int .i64 P)).setCell ⟨g2, 1, none⟩ (.int .i64 Q)).setCell ⟨g2, 2, none⟩ (.int .i64 P)).setCell ⟨g2, 3, none⟩ (.int .i64 (Q + 1)) = wE at *
        have c0 := FE.c0
        have c1 := FE.c1
        have c2 := FE.c2
        have c3 := FE.c3
        exact bodyPost_ret (v := .agg #[.int .i64 P, .int .i64 Q, .int .i64 P, .int .i64 (Q + 1)]) (by simp [results, Tryz.results15, go_sem, c0, c1, c2, c3]) rfl ⟨⟨P, Q, P, (Q + 1)⟩, rfl, Good.of (by omega), FE.below⟩
      · have hw : IntKind.i64.wrap (Q - 1) = Q - 1 := by rw [IntKind.wrap_i64]; omega
        go_wp2
        have FE := (((FZ.set0 P).set1 (Q - 1)).set2 P).set3 Q
        clear c0 c1 c2 c3 f0 f1 f2 f3 FZ
        generalize (((wC.setCell ⟨g2, 0, none⟩ (.int .i64 P)).setCell ⟨g2, 1, none⟩ (.int .i64 (Q - 1))).setCell ⟨g2, 2, none⟩ (.int .i64 P)).setCell ⟨g2, 3, none⟩ (.int .i64 Q) = wE at *
        have c0 := FE.c0
        have c1 := FE.c1
        have c2 := FE.c2
        have c3 := FE.c3
        exact bodyPost_ret (v := .agg #[.int .i64 P, .int .i64 (Q - 1), .int .i64 P, .int .i64 Q]) (by simp [results, Tryz.results15, go_sem, c0, c1, c2, c3]) rfl ⟨⟨P, (Q - 1), P, Q⟩, rfl, Good.of (by omega), FE.below⟩
    · have h1' : (P == P) = true := by simp
      have h2' : (Q == Y) = false := by simp [h2]
      go_wp2
      have FE := (((FZ.set0 P).set1 Q).set2 P).set3 Y
      clear c0 c1 c2 c3 f0 f1 f2 f3 FZ
      generalize (((wC.setCell ⟨g2, 0, none⟩ (.int .i64 P)).setCell ⟨g2, 1, none⟩ (.int .i64 Q)).setCell ⟨g2, 2, none⟩ (.int .i64 P)).setCell ⟨g2, 3, none⟩ (.int .i64 Y) = wE at *
      have c0 := FE.c0
      have c1 := FE.c1
      have c2 := FE.c2
      have c3 := FE.c3
      exact bodyPost_ret (v := .agg #[.int .i64 P, .int .i64 Q, .int .i64 P, .int .i64 Y]) (by simp [results, Tryz.results15, go_sem, c0, c1, c2, c3]) rfl ⟨⟨P, Q, P, Y⟩, rfl, Good.of (by omega), FE.below⟩
  · have h1' : (P == X) = false := by simp [h1]
    go_wp2
    have FE := (((FZ.set0 P).set1 Q).set2 X).set3 Y
    clear c0 c1 c2 c3 f0 f1 f2 f3 FZ
    generalize (((wC.setCell ⟨g2, 0, none⟩ (.int .i64 P)).setCell ⟨g2, 1, none⟩ (.int .i64 Q)).setCell ⟨g2, 2, none⟩ (.int .i64 X)).setCell ⟨g2, 3, none⟩ (.int .i64 Y) = wE at *
    have c0 := FE.c0
    have c1 := FE.c1
    have c2 := FE.c2
    have c3 := FE.c3
    exact bodyPost_ret (v := .agg #[.int .i64 P, .int .i64 Q, .int .i64 X, .int .i64 Y]) (by simp [results, Tryz.results15, go_sem, c0, c1, c2, c3]) rfl ⟨⟨P, Q, X, Y⟩, rfl, Good.of (by omega), FE.below⟩
end Go.Proofs.YtokooampmhcfeaaGreatDoor.Rg
