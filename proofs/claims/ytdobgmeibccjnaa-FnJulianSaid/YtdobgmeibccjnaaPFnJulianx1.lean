-- PRINTED BY print.sh 35421559b90ae4d0a3588c463048766b98c2df88dd9212a6774a882060cdf62d: not written by this session
import Derived.Test.YtdobgmeibccjnaaPFnJulianx0
namespace Go.Proofs.Ytdobgmeibccjnaa.PFnJulian
open Go.RowKit Go.Proofs.YtdobgmeibccjnaaW.PrintWords Go.Proofs.YtdobgmeibccjnaaW.PrintLast Go.Proofs.YtdobgmeibccjnaaW.PrintMore
attribute [local go_sem] max2_int min2_int max_two min_two max_three min_three max_four min_four   -- for this text's walks alone
set_option linter.unusedVariables false
set_option linter.unusedSimpArgs false

/-! ### laws_combSmall: function 10 -/
def laws_combSmall.f (a0 : Int) (a1 : Int) : Option (Int) := if (wrap64 (a1 + 1)) = 0 then (none) else (some (Int.tmod (wrap64 ((wrap64 ((Int.tmod a0 (wrap64 (a1 + 1))) + a1)) + 1)) (wrap64 (a1 + 1))))
set_option maxHeartbeats 8000000 in
set_option maxRecDepth 100000 in
theorem laws_combSmall.calls (a0 : Int) (a1 : Int) (r : Int) (w : World) (h : laws_combSmall.f a0 a1 = some r) :
    Calls Try.prog 10 #[.int .i64 a0, .int .i64 a1] w fun e w' => e = .returned (.int .i64 r) ∧ Drawn0 w w' := by
  have H : (if (wrap64 (a1 + 1)) = 0 then (none) else (some (Int.tmod (wrap64 ((wrap64 ((Int.tmod a0 (wrap64 (a1 + 1))) + a1)) + 1)) (wrap64 (a1 + 1))))) = some r := h
  clear h
  by_cases c3 : (wrap64 (a1 + 1)) = 0
  · rw [if_pos c3] at H
    exact absurd H (by simp)
  · rw [if_neg c3] at H
    have c3b0 : ((wrap64 (a1 + 1)) == 0) = false := beq_eq_false_iff_ne.mpr c3
    have c3b1 : ((wrap64 (a1 + 1)) != 0) = true := bne_iff_ne.mpr c3
    obtain rfl := Option.some.inj H
    go_enter Try.func10, Try.ntmps10
    go_wp2
    go_ret
    exact ⟨by first | rfl | (simp; done) | (simp [*]; done), by repeat (first | exact Drawn0.refl _ | apply Drawn0.step)⟩

/-! ### spec_DayLeap: function 9 -/
def spec_DayLeap.f (a0 : Int) : Option (Bool) := if (Int.tmod a0 4) = 0 then (if (Int.tmod a0 100) = 0 then (some ((Int.tmod a0 400) == 0)) else (some true)) else (some false)
set_option maxHeartbeats 8000000 in
set_option maxRecDepth 100000 in
theorem spec_DayLeap.calls (a0 : Int) (r : Bool) (w : World) (h : spec_DayLeap.f a0 = some r) :
    Calls Try.prog 9 #[.int .i64 a0] w fun e w' => e = .returned (.bool r) ∧ Drawn0 w w' := by
  have H : (if (Int.tmod a0 4) = 0 then (if (Int.tmod a0 100) = 0 then (some ((Int.tmod a0 400) == 0)) else (some true)) else (some false)) = some r := h
  clear h
  by_cases c2 : (Int.tmod a0 4) = 0
  · rw [if_pos c2] at H
    have c2b0 : ((Int.tmod a0 4) == 0) = true := beq_iff_eq.mpr c2
    have c2b1 : ((Int.tmod a0 4) != 0) = false := bne_eq_false_iff_eq.mpr c2
    clear c2
    by_cases c3 : (Int.tmod a0 100) = 0
    · rw [if_pos c3] at H
      have c3b0 : ((Int.tmod a0 100) == 0) = true := beq_iff_eq.mpr c3
      have c3b1 : ((Int.tmod a0 100) != 0) = false := bne_eq_false_iff_eq.mpr c3
      clear c3
      obtain rfl := Option.some.inj H
      go_enter Try.func9, Try.ntmps9
      go_wp2
      go_ret
      exact ⟨by first | rfl | (simp; done) | (simp [*]; done), by repeat (first | exact Drawn0.refl _ | apply Drawn0.step)⟩
    · rw [if_neg c3] at H
      have c3b0 : ((Int.tmod a0 100) == 0) = false := beq_eq_false_iff_ne.mpr c3
      have c3b1 : ((Int.tmod a0 100) != 0) = true := bne_iff_ne.mpr c3
      obtain rfl := Option.some.inj H
      go_enter Try.func9, Try.ntmps9
      go_wp2
      go_ret
      exact ⟨by first | rfl | (simp; done) | (simp [*]; done), by repeat (first | exact Drawn0.refl _ | apply Drawn0.step)⟩
  · rw [if_neg c2] at H
    have c2b0 : ((Int.tmod a0 4) == 0) = false := beq_eq_false_iff_ne.mpr c2
    have c2b1 : ((Int.tmod a0 4) != 0) = true := bne_iff_ne.mpr c2
    obtain rfl := Option.some.inj H
    go_enter Try.func9, Try.ntmps9
    go_wp2
    go_ret
    exact ⟨by first | rfl | (simp; done) | (simp [*]; done), by repeat (first | exact Drawn0.refl _ | apply Drawn0.step)⟩

/-! ### spec_DayCount: function 22 -/
mutual
def spec_DayCount.j0 : Nat → Int → Int → Bool → Option (Int)
  | 0, _, _, _ => none
  | k + 1, x0, x1, x5 => if x5 = true then (some 0) else (if x1 = 2 then ((spec_DayLeap.f x0).bind fun t101 => (spec_DayCount.j1 k x1 t101)) else (spec_DayCount.j1 k x1 false))
def spec_DayCount.j1 : Nat → Int → Bool → Option (Int)
  | 0, _, _ => none
  | k + 1, x1, x12 => if x12 = true then (some 29) else (if x1 = 2 then (some 28) else (if x1 = 4 then (some 30) else (if x1 = 6 then (some 30) else (if x1 = 9 then (some 30) else (if x1 = 11 then (some 30) else (some 31))))))
end
def spec_DayCount.f (k : Nat) (a0 : Int) (a1 : Int) : Option (Int) := if a1 < 1 then (spec_DayCount.j0 k a0 a1 true) else (spec_DayCount.j0 k a0 a1 (decide (a1 > 12)))
theorem spec_DayCount.mono_l : ∀ k, (∀ y0 y1 y2, LeO (spec_DayCount.j0 k y0 y1 y2) (spec_DayCount.j0 (k + 1) y0 y1 y2)) ∧ (∀ y0 y1, LeO (spec_DayCount.j1 k y0 y1) (spec_DayCount.j1 (k + 1) y0 y1))
  | 0 => ⟨fun _ _ _ r h => by simp [spec_DayCount.j0] at h, fun _ _ r h => by simp [spec_DayCount.j1] at h⟩
  | k + 1 => by
    obtain ⟨ih0, ih1⟩ := spec_DayCount.mono_l k
    refine ⟨?_, ?_⟩
    · intro y0 y1 y2
      unfold spec_DayCount.j0
      repeat' first
      | (with_reducible exact ih0 _ _ _)
      | (with_reducible exact ih1 _ _)
      | (with_reducible exact LeO.refl _)
      | (with_reducible exact LeO.none _)
      | (with_reducible refine LeO.ite ?_ ?_)
      | (with_reducible refine LeO.bind ?_ (fun _ => ?_))
      | exact ih0 _ _ _
      | exact ih1 _ _
      | exact LeO.none _
      | refine LeO.ite ?_ ?_
      | refine LeO.bind ?_ (fun _ => ?_)
    · intro y0 y1
      unfold spec_DayCount.j1
      repeat' first
      | (with_reducible exact ih0 _ _ _)
      | (with_reducible exact ih1 _ _)
      | (with_reducible exact LeO.refl _)
      | (with_reducible exact LeO.none _)
      | (with_reducible refine LeO.ite ?_ ?_)
      | (with_reducible refine LeO.bind ?_ (fun _ => ?_))
      | exact ih0 _ _ _
      | exact ih1 _ _
      | exact LeO.none _
      | refine LeO.ite ?_ ?_
      | refine LeO.bind ?_ (fun _ => ?_)
theorem spec_DayCount.mono : ∀ a0 a1 k, LeO (spec_DayCount.f k a0 a1) (spec_DayCount.f (k + 1) a0 a1) := by
  intro a0 a1 k
  obtain ⟨ih0, ih1⟩ := spec_DayCount.mono_l k
  unfold spec_DayCount.f
  repeat' first
      | (with_reducible exact ih0 _ _ _)
      | (with_reducible exact ih1 _ _)
      | (with_reducible exact LeO.refl _)
      | (with_reducible exact LeO.none _)
      | (with_reducible refine LeO.ite ?_ ?_)
      | (with_reducible refine LeO.bind ?_ (fun _ => ?_))
      | exact ih0 _ _ _
      | exact ih1 _ _
      | exact LeO.none _
      | refine LeO.ite ?_ ?_
      | refine LeO.bind ?_ (fun _ => ?_)
set_option maxHeartbeats 8000000 in
set_option maxRecDepth 100000 in
theorem spec_DayCount.calls (k : Nat) (a0 : Int) (a1 : Int) (r : Int) (w : World) (h : spec_DayCount.f k a0 a1 = some r) :
    Calls Try.prog 22 #[.int .i64 a0, .int .i64 a1] w fun e w' => e = .returned (.int .i64 r) ∧ Drawn0 w w' := by
  have H : (if a1 < 1 then (spec_DayCount.j0 k a0 a1 true) else (spec_DayCount.j0 k a0 a1 (decide (a1 > 12)))) = some r := h
  clear h
  have HC3 := Aside0.mk H
  clear H
  go_enter Try.func22, Try.ntmps22
  go_upto_region 1 with (fail)
  go_cut [5] (fun v5 wc => ∃ (kq : Nat) (x5_2 : Bool), v5 = .bool x5_2 ∧ Aside0 (spec_DayCount.j0 kq a0 a1 x5_2 = some r) ∧ Aside0 (kq ≤ k) ∧ Drawn0 w wc)
  case first =>
    have H := HC3.out
    clear HC3
    by_cases c4 : a1 < 1
    · rw [if_pos c4] at H
      have c4b0 : decide (a1 < 1) = true := decide_eq_true c4
      clear c4
      (first | rw [c4b0] | (simp only [i64_w, i32_w]; rw [c4b0]) | skip)
      have H' := Aside0.mk H
      clear H
      go_wp2
      go_meet
      case rel => exact ⟨_, (true), (by first | rfl | (simp; done) | (simp [*]; done)), H', ⟨by first | omega | exact Nat.le_refl _⟩, by repeat (first | exact Drawn0.refl _ | apply Drawn0.step)⟩
    · rw [if_neg c4] at H
      have c4b0 : decide (a1 < 1) = false := decide_eq_false c4
      clear c4
      (first | rw [c4b0] | (simp only [i64_w, i32_w]; rw [c4b0]) | skip)
      have H' := Aside0.mk H
      clear H
      go_wp2
      go_meet
      case rel => exact ⟨_, (decide (a1 > 12)), (by first | rfl | (simp; done) | (simp [*]; done)), H', ⟨by first | omega | exact Nat.le_refl _⟩, by repeat (first | exact Drawn0.refl _ | apply Drawn0.step)⟩
  case rest =>
    clear HC3
    try clear c2
    try clear p2
    try clear c4
    try clear c4b0
    obtain ⟨kq, x5_2, rfl, HA, HJ2, ⟨mc2, rfl⟩⟩ := hcut
    cases kq with
    | zero => exact absurd HA.out (by simp [spec_DayCount.j0])
    | succ kj2 =>
      have H := HA.out
      clear HA
      simp only [spec_DayCount.j0] at H
      by_cases c5 : x5_2 = true
      · subst c5
        have H1 : (some 0) = some r := by rw [if_pos rfl] at H; exact H
        clear H
        have H := H1
        clear H1
        obtain rfl := Option.some.inj H
        go_wp2
        go_ret
        exact ⟨by first | rfl | (simp; done) | (simp [*]; done), by repeat (first | exact Drawn0.refl _ | apply Drawn0.step)⟩
      · replace c5 := Bool.eq_false_iff.mpr c5
        subst c5
        have H1 : (if a1 = 2 then ((spec_DayLeap.f a0).bind fun t101 => (spec_DayCount.j1 kj2 a1 t101)) else (spec_DayCount.j1 kj2 a1 false)) = some r := by rw [if_neg (show ¬ (false = true) by decide)] at H; exact H
        clear H
        have H := H1
        clear H1
        have HC6 := Aside0.mk H
        clear H
        go_upto_region 3 with (fail)
        go_cut [12] (fun v12 wc => ∃ (kq : Nat) (x12_5 : Bool), v12 = .bool x12_5 ∧ Aside0 (spec_DayCount.j1 kq a1 x12_5 = some r) ∧ Aside0 (kq ≤ kj2) ∧ Drawn0 w wc)
        case first =>
          have H := HC6.out
          clear HC6
          by_cases c7 : a1 = 2
          · rw [if_pos c7] at H
            have c7b0 : (a1 == 2) = true := beq_iff_eq.mpr c7
            have c7b1 : (a1 != 2) = false := bne_eq_false_iff_eq.mpr c7
            clear c7
            (first | rw [c7b0] | (simp only [i64_w, i32_w]; rw [c7b0]) | skip)
            replace H := Option.bind_eq_some_iff.mp H
            obtain ⟨t101, A80, H⟩ := H
            replace H : (spec_DayCount.j1 kj2 a1 t101) = some r := H
            have A8 := Aside0.mk A80
            clear A80
            have H' := Aside0.mk H
            clear H
            go_wp2_with (first | (go_at_call 9; (with_reducible refine (spec_DayLeap.calls a0 t101 _ A8.out).mono ?_); rintro e w' ⟨rfl, ⟨nd, rfl⟩⟩))
            go_meet
            case rel => exact ⟨_, (t101), (by first | rfl | (simp; done) | (simp [*]; done)), H', ⟨by have := HJ2.out; first | omega | exact Nat.le_refl _⟩, by repeat (first | exact Drawn0.refl _ | apply Drawn0.step)⟩
          · rw [if_neg c7] at H
            have c7b0 : (a1 == 2) = false := beq_eq_false_iff_ne.mpr c7
            have c7b1 : (a1 != 2) = true := bne_iff_ne.mpr c7
            (first | rw [c7b0] | (simp only [i64_w, i32_w]; rw [c7b0]) | skip)
            have H' := Aside0.mk H
            clear H
            go_wp2
            go_meet
            case rel => exact ⟨_, (false), (by first | rfl | (simp; done) | (simp [*]; done)), H', ⟨by have := HJ2.out; first | omega | exact Nat.le_refl _⟩, by repeat (first | exact Drawn0.refl _ | apply Drawn0.step)⟩
        case rest =>
          clear HC6
          try clear c2
          try clear p2
          try clear c4
          try clear c4b0
          try clear c5
          try clear c7
          try clear c7b0
          try clear c7b1
          try clear p2
          obtain ⟨kq, x12_5, rfl, HA, HJ5, ⟨mc5, rfl⟩⟩ := hcut
          cases kq with
          | zero => exact absurd HA.out (by simp [spec_DayCount.j1])
          | succ kj5 =>
            have H := HA.out
            clear HA
            simp only [spec_DayCount.j1] at H
            by_cases c9 : x12_5 = true
            · subst c9
              have H1 : (some 29) = some r := by rw [if_pos rfl] at H; exact H
              clear H
              have H := H1
              clear H1
              obtain rfl := Option.some.inj H
              go_wp2
              go_ret
              exact ⟨by first | rfl | (simp; done) | (simp [*]; done), by repeat (first | exact Drawn0.refl _ | apply Drawn0.step)⟩
            · replace c9 := Bool.eq_false_iff.mpr c9
              subst c9
              have H1 : (if a1 = 2 then (some 28) else (if a1 = 4 then (some 30) else (if a1 = 6 then (some 30) else (if a1 = 9 then (some 30) else (if a1 = 11 then (some 30) else (some 31)))))) = some r := by rw [if_neg (show ¬ (false = true) by decide)] at H; exact H
              clear H
              have H := H1
              clear H1
              by_cases c10 : a1 = 2
              · rw [if_pos c10] at H
                have c10b0 : (a1 == 2) = true := beq_iff_eq.mpr c10
                have c10b1 : (a1 != 2) = false := bne_eq_false_iff_eq.mpr c10
                clear c10
                obtain rfl := Option.some.inj H
                go_wp2
                go_ret
                exact ⟨by first | rfl | (simp; done) | (simp [*]; done), by repeat (first | exact Drawn0.refl _ | apply Drawn0.step)⟩
              · rw [if_neg c10] at H
                have c10b0 : (a1 == 2) = false := beq_eq_false_iff_ne.mpr c10
                have c10b1 : (a1 != 2) = true := bne_iff_ne.mpr c10
                by_cases c11 : a1 = 4
                · rw [if_pos c11] at H
                  have c11b0 : (a1 == 4) = true := beq_iff_eq.mpr c11
                  have c11b1 : (a1 != 4) = false := bne_eq_false_iff_eq.mpr c11
                  clear c11
                  obtain rfl := Option.some.inj H
                  go_wp2
                  go_ret
                  exact ⟨by first | rfl | (simp; done) | (simp [*]; done), by repeat (first | exact Drawn0.refl _ | apply Drawn0.step)⟩
                · rw [if_neg c11] at H
                  have c11b0 : (a1 == 4) = false := beq_eq_false_iff_ne.mpr c11
                  have c11b1 : (a1 != 4) = true := bne_iff_ne.mpr c11
                  by_cases c12 : a1 = 6
                  · rw [if_pos c12] at H
                    have c12b0 : (a1 == 6) = true := beq_iff_eq.mpr c12
                    have c12b1 : (a1 != 6) = false := bne_eq_false_iff_eq.mpr c12
                    clear c12
                    obtain rfl := Option.some.inj H
                    go_wp2
                    go_ret
                    exact ⟨by first | rfl | (simp; done) | (simp [*]; done), by repeat (first | exact Drawn0.refl _ | apply Drawn0.step)⟩
                  · rw [if_neg c12] at H
                    have c12b0 : (a1 == 6) = false := beq_eq_false_iff_ne.mpr c12
                    have c12b1 : (a1 != 6) = true := bne_iff_ne.mpr c12
                    by_cases c13 : a1 = 9
                    · rw [if_pos c13] at H
                      have c13b0 : (a1 == 9) = true := beq_iff_eq.mpr c13
                      have c13b1 : (a1 != 9) = false := bne_eq_false_iff_eq.mpr c13
                      clear c13
                      obtain rfl := Option.some.inj H
                      go_wp2
                      go_ret
                      exact ⟨by first | rfl | (simp; done) | (simp [*]; done), by repeat (first | exact Drawn0.refl _ | apply Drawn0.step)⟩
                    · rw [if_neg c13] at H
                      have c13b0 : (a1 == 9) = false := beq_eq_false_iff_ne.mpr c13
                      have c13b1 : (a1 != 9) = true := bne_iff_ne.mpr c13
                      by_cases c14 : a1 = 11
                      · rw [if_pos c14] at H
                        have c14b0 : (a1 == 11) = true := beq_iff_eq.mpr c14
                        have c14b1 : (a1 != 11) = false := bne_eq_false_iff_eq.mpr c14
                        clear c14
                        obtain rfl := Option.some.inj H
                        go_wp2
                        go_ret
                        exact ⟨by first | rfl | (simp; done) | (simp [*]; done), by repeat (first | exact Drawn0.refl _ | apply Drawn0.step)⟩
                      · rw [if_neg c14] at H
                        have c14b0 : (a1 == 11) = false := beq_eq_false_iff_ne.mpr c14
                        have c14b1 : (a1 != 11) = true := bne_iff_ne.mpr c14
                        obtain rfl := Option.some.inj H
                        go_wp2
                        go_ret
                        exact ⟨by first | rfl | (simp; done) | (simp [*]; done), by repeat (first | exact Drawn0.refl _ | apply Drawn0.step)⟩

/-! ### spec_DayOf: function 12 -/
mutual
def spec_DayOf.j1 : Nat → Int → Int → Int → Option (Int × Int × Int)
  | 0, _, _, _ => none
  | k + 1, x5, x6, x7 => spec_DayOf.l1 k x5 x6 x7
def spec_DayOf.l1 : Nat → Int → Int → Int → Option (Int × Int × Int)
  | 0, _, _, _ => none
  | k + 1, x5, x6, x7 => (spec_DayCount.f k x6 x7).bind fun t103 => (if x5 ≥ t103 then ((spec_DayCount.f k x6 x7).bind fun t104 => (spec_DayOf.l1 k (wrap64 (x5 - t104)) x6 (wrap64 (x7 + 1)))) else (some (wrap64 (x5 + 1), x7, x6)))
def spec_DayOf.l0 : Nat → Int → Int → Int → Option (Int × Int × Int)
  | 0, _, _, _ => none
  | k + 1, x5, x6, x7 => (spec_DayLeap.f x6).bind fun t102 => (if t102 = true then (if x5 < 366 then (spec_DayOf.j1 k x5 x6 x7) else (spec_DayOf.l0 k (wrap64 (x5 - 366)) (wrap64 (x6 + 1)) x7)) else (if x5 < 365 then (spec_DayOf.j1 k x5 x6 x7) else (spec_DayOf.l0 k (wrap64 (x5 - 365)) (wrap64 (x6 + 1)) x7)))
end
def spec_DayOf.f (k : Nat) (a0 : Int) : Option (Int × Int × Int) := spec_DayOf.l0 k (wrap64 (a0 - 2451545)) 2000 1
theorem spec_DayOf.mono_l : ∀ k, (∀ y0 y1 y2, LeO (spec_DayOf.j1 k y0 y1 y2) (spec_DayOf.j1 (k + 1) y0 y1 y2)) ∧ (∀ y0 y1 y2, LeO (spec_DayOf.l1 k y0 y1 y2) (spec_DayOf.l1 (k + 1) y0 y1 y2)) ∧ (∀ y0 y1 y2, LeO (spec_DayOf.l0 k y0 y1 y2) (spec_DayOf.l0 (k + 1) y0 y1 y2))
  | 0 => ⟨fun _ _ _ r h => by simp [spec_DayOf.j1] at h, fun _ _ _ r h => by simp [spec_DayOf.l1] at h, fun _ _ _ r h => by simp [spec_DayOf.l0] at h⟩
  | k + 1 => by
    obtain ⟨ih0, ih1, ih2⟩ := spec_DayOf.mono_l k
    refine ⟨?_, ?_, ?_⟩
    · intro y0 y1 y2
      unfold spec_DayOf.j1
      repeat' first
      | (with_reducible exact ih0 _ _ _)
      | (with_reducible exact ih1 _ _ _)
      | (with_reducible exact ih2 _ _ _)
      | (with_reducible exact spec_DayCount.mono _ _ _)
      | (with_reducible exact LeO.refl _)
      | (with_reducible exact LeO.none _)
      | (with_reducible refine LeO.ite ?_ ?_)
      | (with_reducible refine LeO.bind ?_ (fun _ => ?_))
      | exact ih0 _ _ _
      | exact ih1 _ _ _
      | exact ih2 _ _ _
      | exact spec_DayCount.mono _ _ _
      | exact LeO.none _
      | refine LeO.ite ?_ ?_
      | refine LeO.bind ?_ (fun _ => ?_)
    · intro y0 y1 y2
      unfold spec_DayOf.l1
      repeat' first
      | (with_reducible exact ih0 _ _ _)
      | (with_reducible exact ih1 _ _ _)
      | (with_reducible exact ih2 _ _ _)
      | (with_reducible exact spec_DayCount.mono _ _ _)
      | (with_reducible exact LeO.refl _)
      | (with_reducible exact LeO.none _)
      | (with_reducible refine LeO.ite ?_ ?_)
      | (with_reducible refine LeO.bind ?_ (fun _ => ?_))
      | exact ih0 _ _ _
      | exact ih1 _ _ _
      | exact ih2 _ _ _
      | exact spec_DayCount.mono _ _ _
      | exact LeO.none _
      | refine LeO.ite ?_ ?_
      | refine LeO.bind ?_ (fun _ => ?_)
    · intro y0 y1 y2
      unfold spec_DayOf.l0
      repeat' first
      | (with_reducible exact ih0 _ _ _)
      | (with_reducible exact ih1 _ _ _)
      | (with_reducible exact ih2 _ _ _)
      | (with_reducible exact spec_DayCount.mono _ _ _)
      | (with_reducible exact LeO.refl _)
      | (with_reducible exact LeO.none _)
      | (with_reducible refine LeO.ite ?_ ?_)
      | (with_reducible refine LeO.bind ?_ (fun _ => ?_))
      | exact ih0 _ _ _
      | exact ih1 _ _ _
      | exact ih2 _ _ _
      | exact spec_DayCount.mono _ _ _
      | exact LeO.none _
      | refine LeO.ite ?_ ?_
      | refine LeO.bind ?_ (fun _ => ?_)
theorem spec_DayOf.mono : ∀ a0 k, LeO (spec_DayOf.f k a0) (spec_DayOf.f (k + 1) a0) := by
  intro a0 k
  obtain ⟨ih0, ih1, ih2⟩ := spec_DayOf.mono_l k
  unfold spec_DayOf.f
  repeat' first
      | (with_reducible exact ih0 _ _ _)
      | (with_reducible exact ih1 _ _ _)
      | (with_reducible exact ih2 _ _ _)
      | (with_reducible exact spec_DayCount.mono _ _ _)
      | (with_reducible exact LeO.refl _)
      | (with_reducible exact LeO.none _)
      | (with_reducible refine LeO.ite ?_ ?_)
      | (with_reducible refine LeO.bind ?_ (fun _ => ?_))
      | exact ih0 _ _ _
      | exact ih1 _ _ _
      | exact ih2 _ _ _
      | exact spec_DayCount.mono _ _ _
      | exact LeO.none _
      | refine LeO.ite ?_ ?_
      | refine LeO.bind ?_ (fun _ => ?_)
set_option maxHeartbeats 8000000 in
set_option maxRecDepth 100000 in
theorem spec_DayOf.calls (k : Nat) (a0 : Int) (r1 : Int) (r2 : Int) (r3 : Int) (w : World) (h : spec_DayOf.f k a0 = some (r1, r2, r3)) :
    Calls Try.prog 12 #[.int .i64 a0] w fun e w' => e = .returned (.tuple #[.int .i64 r1, .int .i64 r2, .int .i64 r3]) ∧ Drawn0 w w' := by
  have H : (spec_DayOf.l0 k (wrap64 (a0 - 2451545)) 2000 1) = some (r1, r2, r3) := h
  clear h
  have HC2 := Aside0.mk H
  clear H
  go_enter Try.func12, Try.ntmps12
  go_upto_block 0 with (fail)
  go_cut [5, 6] (fun v5 v6 wc => ∃ (kq : Nat) (x5_1 : Int) (x6_1 : Int), v5 = .int .i64 x5_1 ∧ v6 = .int .i64 x6_1 ∧ Aside0 (spec_DayOf.j1 kq x5_1 x6_1 1 = some (r1, r2, r3)) ∧ Aside0 (kq ≤ k) ∧ Drawn0 w wc)
  case first =>
    have H := HC2.out
    clear HC2
    have H' := Aside0.mk H
    clear H
    go_wp2
    go_loopg [5, 6] k (fun kq v5 v6 w' => ∃ (x5_1 : Int) (x6_1 : Int), v5 = .int .i64 x5_1 ∧ v6 = .int .i64 x6_1 ∧ Aside0 (spec_DayOf.l0 kq x5_1 x6_1 1 = some (r1, r2, r3)) ∧ Aside0 (kq ≤ k) ∧ Drawn0 w w')
    case atStart => exact ⟨(wrap64 (a0 - 2451545)), (2000), (by first | rfl | (simp; done) | (simp [*]; done)), (by first | rfl | (simp; done) | (simp [*]; done)), H', ⟨Nat.le_refl _⟩, by repeat (first | exact Drawn0.refl _ | apply Drawn0.step)⟩
    case round =>
      clear H'
      try clear c1
      try clear p2
      obtain ⟨x5_1, x6_1, rfl, rfl, HA, HK1, ⟨m1, rfl⟩⟩ := hrel
      cases gk with
      | zero => exact absurd HA.out (by simp [spec_DayOf.l0])
      | succ k1 =>
        have H := HA.out
        clear HA
        simp only [spec_DayOf.l0] at H
        replace H := Option.bind_eq_some_iff.mp H
        obtain ⟨t102, A30, H⟩ := H
        replace H : (if t102 = true then (if x5_1 < 366 then (spec_DayOf.j1 k1 x5_1 x6_1 1) else (spec_DayOf.l0 k1 (wrap64 (x5_1 - 366)) (wrap64 (x6_1 + 1)) 1)) else (if x5_1 < 365 then (spec_DayOf.j1 k1 x5_1 x6_1 1) else (spec_DayOf.l0 k1 (wrap64 (x5_1 - 365)) (wrap64 (x6_1 + 1)) 1))) = some (r1, r2, r3) := H
        have A3 := Aside0.mk A30
        clear A30
        by_cases c4 : t102 = true
        · subst c4
          have H1 : (if x5_1 < 366 then (spec_DayOf.j1 k1 x5_1 x6_1 1) else (spec_DayOf.l0 k1 (wrap64 (x5_1 - 366)) (wrap64 (x6_1 + 1)) 1)) = some (r1, r2, r3) := by rw [if_pos rfl] at H; exact H
          clear H
          have H := H1
          clear H1
          by_cases c5 : x5_1 < 366
          · rw [if_pos c5] at H
            have c5b0 : decide (x5_1 < 366) = true := decide_eq_true c5
            clear c5
            (first | rw [c5b0] | (simp only [i64_w, i32_w]; rw [c5b0]) | skip)
            have H' := Aside0.mk H
            clear H
            go_wp2_with (first | ((with_reducible refine gate_callee (f := 9) rfl ?_); refine goesL_ (some 12) rfl rfl Try.func9 (by kernel_rfl) rfl #[.int .i64 x6_1] rfl (by (try simp only [List.map_toArray, List.map_cons, List.map_nil]); first | done | rfl | (simp only [List.length_drop, List.length_take]; rfl)) ?_; (with_reducible refine (spec_DayLeap.calls x6_1 true _ A3.out).mono ?_); rintro e w' ⟨rfl, ⟨nd, rfl⟩⟩; refine ⟨_, rfl, ?_⟩))
            go_meet
            case rel => exact ⟨_, (x5_1), (x6_1), (by first | rfl | (simp; done) | (simp [*]; done)), (by first | rfl | (simp; done) | (simp [*]; done)), H', ⟨by have := HK1.out; first | omega | exact Nat.le_refl _⟩, by repeat (first | exact Drawn0.refl _ | apply Drawn0.step)⟩
          · rw [if_neg c5] at H
            have c5b0 : decide (x5_1 < 366) = false := decide_eq_false c5
            clear c5
            (first | rw [c5b0] | (simp only [i64_w, i32_w]; rw [c5b0]) | skip)
            have H' := Aside0.mk H
            clear H
            go_wp2_with (first | ((with_reducible refine gate_callee (f := 9) rfl ?_); refine goesL_ (some 12) rfl rfl Try.func9 (by kernel_rfl) rfl #[.int .i64 x6_1] rfl (by (try simp only [List.map_toArray, List.map_cons, List.map_nil]); first | done | rfl | (simp only [List.length_drop, List.length_take]; rfl)) ?_; (with_reducible refine (spec_DayLeap.calls x6_1 true _ A3.out).mono ?_); rintro e w' ⟨rfl, ⟨nd, rfl⟩⟩; refine ⟨_, rfl, ?_⟩))
            go_roundg k1
            case measure => have := HK1.out; omega
            case rel => exact ⟨(wrap64 (x5_1 - 366)), (wrap64 (x6_1 + 1)), (by first | rfl | (simp; done) | (simp [*]; done)), (by first | rfl | (simp; done) | (simp [*]; done)), H', ⟨by have := HK1.out; omega⟩, by repeat (first | exact Drawn0.refl _ | apply Drawn0.step)⟩
        · replace c4 := Bool.eq_false_iff.mpr c4
          subst c4
          have H1 : (if x5_1 < 365 then (spec_DayOf.j1 k1 x5_1 x6_1 1) else (spec_DayOf.l0 k1 (wrap64 (x5_1 - 365)) (wrap64 (x6_1 + 1)) 1)) = some (r1, r2, r3) := by rw [if_neg (show ¬ (false = true) by decide)] at H; exact H
          clear H
          have H := H1
          clear H1
          by_cases c6 : x5_1 < 365
          · rw [if_pos c6] at H
            have c6b0 : decide (x5_1 < 365) = true := decide_eq_true c6
            clear c6
            have H' := Aside0.mk H
            clear H
            go_wp2_with (first | ((with_reducible refine gate_callee (f := 9) rfl ?_); refine goesL_ (some 12) rfl rfl Try.func9 (by kernel_rfl) rfl #[.int .i64 x6_1] rfl (by (try simp only [List.map_toArray, List.map_cons, List.map_nil]); first | done | rfl | (simp only [List.length_drop, List.length_take]; rfl)) ?_; (with_reducible refine (spec_DayLeap.calls x6_1 false _ A3.out).mono ?_); rintro e w' ⟨rfl, ⟨nd, rfl⟩⟩; refine ⟨_, rfl, ?_⟩))
            go_meet
            case rel => exact ⟨_, (x5_1), (x6_1), (by first | rfl | (simp; done) | (simp [*]; done)), (by first | rfl | (simp; done) | (simp [*]; done)), H', ⟨by have := HK1.out; first | omega | exact Nat.le_refl _⟩, by repeat (first | exact Drawn0.refl _ | apply Drawn0.step)⟩
          · rw [if_neg c6] at H
            have c6b0 : decide (x5_1 < 365) = false := decide_eq_false c6
            clear c6
            have H' := Aside0.mk H
            clear H
            go_wp2_with (first | ((with_reducible refine gate_callee (f := 9) rfl ?_); refine goesL_ (some 12) rfl rfl Try.func9 (by kernel_rfl) rfl #[.int .i64 x6_1] rfl (by (try simp only [List.map_toArray, List.map_cons, List.map_nil]); first | done | rfl | (simp only [List.length_drop, List.length_take]; rfl)) ?_; (with_reducible refine (spec_DayLeap.calls x6_1 false _ A3.out).mono ?_); rintro e w' ⟨rfl, ⟨nd, rfl⟩⟩; refine ⟨_, rfl, ?_⟩))
            go_roundg k1
            case measure => have := HK1.out; omega
            case rel => exact ⟨(wrap64 (x5_1 - 365)), (wrap64 (x6_1 + 1)), (by first | rfl | (simp; done) | (simp [*]; done)), (by first | rfl | (simp; done) | (simp [*]; done)), H', ⟨by have := HK1.out; omega⟩, by repeat (first | exact Drawn0.refl _ | apply Drawn0.step)⟩
  case rest =>
    clear HC2
    try clear c1
    try clear p2
    try clear c4
    try clear c5
    try clear c5b0
    try clear c6
    try clear c6b0
    try clear p6
    try clear p2
    obtain ⟨kq, x5_1, x6_1, rfl, rfl, HA, HJ1, ⟨mc1, rfl⟩⟩ := hcut
    cases kq with
    | zero => exact absurd HA.out (by simp [spec_DayOf.j1])
    | succ kj1 =>
      have H := HA.out
      clear HA
      simp only [spec_DayOf.j1] at H
      have H' := Aside0.mk H
      clear H
      go_wp2
      go_loopg [5, 7] kj1 (fun kq v5 v7 w' => ∃ (x5_2 : Int) (x7_2 : Int), v5 = .int .i64 x5_2 ∧ v7 = .int .i64 x7_2 ∧ Aside0 (spec_DayOf.l1 kq x5_2 x6_1 x7_2 = some (r1, r2, r3)) ∧ Aside0 (kq ≤ kj1) ∧ Drawn0 w w')
      case atStart => exact ⟨(x5_1), (1), (by first | rfl | (simp; done) | (simp [*]; done)), (by first | rfl | (simp; done) | (simp [*]; done)), H', ⟨Nat.le_refl _⟩, by repeat (first | exact Drawn0.refl _ | apply Drawn0.step)⟩
      case round =>
        clear H'
        try clear c1
        try clear p2
        try clear c4
        try clear c5
        try clear c5b0
        try clear c6
        try clear c6b0
        try clear p6
        try clear p2
        try clear p6
        obtain ⟨x5_2, x7_2, rfl, rfl, HA, HK2, ⟨m2, rfl⟩⟩ := hrel
        cases gk with
        | zero => exact absurd HA.out (by simp [spec_DayOf.l1])
        | succ k2 =>
          have H := HA.out
          clear HA
          simp only [spec_DayOf.l1] at H
          replace H := Option.bind_eq_some_iff.mp H
          obtain ⟨t103, A70, H⟩ := H
          replace H : (if x5_2 ≥ t103 then ((spec_DayCount.f k2 x6_1 x7_2).bind fun t104 => (spec_DayOf.l1 k2 (wrap64 (x5_2 - t104)) x6_1 (wrap64 (x7_2 + 1)))) else (some (wrap64 (x5_2 + 1), x7_2, x6_1))) = some (r1, r2, r3) := H
          have A7 := Aside0.mk A70
          clear A70
          by_cases c8 : x5_2 ≥ t103
          · rw [if_pos c8] at H
            have c8b0 : decide (t103 ≤ x5_2) = true := decide_eq_true c8
            clear c8
            replace H := Option.bind_eq_some_iff.mp H
            obtain ⟨t104, A90, H⟩ := H
            replace H : (spec_DayOf.l1 k2 (wrap64 (x5_2 - t104)) x6_1 (wrap64 (x7_2 + 1))) = some (r1, r2, r3) := H
            have A9 := Aside0.mk A90
            clear A90
            have H' := Aside0.mk H
            clear H
            go_wp2_with (first | ((with_reducible refine gate_callee (f := 22) rfl ?_); refine goesL_ (some 24) rfl rfl Try.func22 (by kernel_rfl) rfl #[.int .i64 x6_1, .int .i64 x7_2] rfl (by (try simp only [List.map_toArray, List.map_cons, List.map_nil]); first | done | rfl | (simp only [List.length_drop, List.length_take]; rfl)) ?_; (with_reducible refine (spec_DayCount.calls k2 x6_1 x7_2 t103 _ A7.out).mono ?_); rintro e w' ⟨rfl, ⟨nd, rfl⟩⟩; refine ⟨_, rfl, ?_⟩) | ((with_reducible refine gate_callee (f := 22) rfl ?_); refine goesL_ (some 29) rfl rfl Try.func22 (by kernel_rfl) rfl #[.int .i64 x6_1, .int .i64 x7_2] rfl (by (try simp only [List.map_toArray, List.map_cons, List.map_nil]); first | done | rfl | (simp only [List.length_drop, List.length_take]; rfl)) ?_; (with_reducible refine (spec_DayCount.calls k2 x6_1 x7_2 t104 _ A9.out).mono ?_); rintro e w' ⟨rfl, ⟨nd, rfl⟩⟩; refine ⟨_, rfl, ?_⟩))
            go_roundg k2
            case measure => have := HJ1.out; have := HK2.out; omega
            case rel => exact ⟨(wrap64 (x5_2 - t104)), (wrap64 (x7_2 + 1)), (by first | rfl | (simp; done) | (simp [*]; done)), (by first | rfl | (simp; done) | (simp [*]; done)), H', ⟨by have := HJ1.out; have := HK2.out; omega⟩, by repeat (first | exact Drawn0.refl _ | apply Drawn0.step)⟩
          · rw [if_neg c8] at H
            have c8b0 : decide (t103 ≤ x5_2) = false := decide_eq_false c8
            clear c8
            simp only [Option.some.injEq, Prod.mk.injEq] at H
            obtain ⟨rfl, rfl, rfl⟩ := H
            go_wp2_with (first | ((with_reducible refine gate_callee (f := 22) rfl ?_); refine goesL_ (some 24) rfl rfl Try.func22 (by kernel_rfl) rfl #[.int .i64 x6_1, .int .i64 x7_2] rfl (by (try simp only [List.map_toArray, List.map_cons, List.map_nil]); first | done | rfl | (simp only [List.length_drop, List.length_take]; rfl)) ?_; (with_reducible refine (spec_DayCount.calls k2 x6_1 x7_2 t103 _ A7.out).mono ?_); rintro e w' ⟨rfl, ⟨nd, rfl⟩⟩; refine ⟨_, rfl, ?_⟩))
            go_ret3
            exact ⟨by first | rfl | (simp; done) | (simp [*]; done), by repeat (first | exact Drawn0.refl _ | apply Drawn0.step)⟩

/-! ### excelize_doTheFliegelAndVanFlandernAlgorithm: function 35 -/
def excelize_doTheFliegelAndVanFlandernAlgorithm.f (a0 : Int) : Option (Int × Int × Int) := some (wrap64 ((wrap64 ((wrap64 ((wrap64 ((wrap64 (a0 + 68569)) - (wrap64 (Int.tdiv (wrap64 ((wrap64 (146097 * (wrap64 (Int.tdiv (wrap64 (4 * (wrap64 (a0 + 68569)))) 146097)))) + 3)) 4)))) - (wrap64 (Int.tdiv (wrap64 (1461 * (wrap64 (Int.tdiv (wrap64 (4000 * (wrap64 ((wrap64 ((wrap64 (a0 + 68569)) - (wrap64 (Int.tdiv (wrap64 ((wrap64 (146097 * (wrap64 (Int.tdiv (wrap64 (4 * (wrap64 (a0 + 68569)))) 146097)))) + 3)) 4)))) + 1)))) 1461001)))) 4)))) + 31)) - (wrap64 (Int.tdiv (wrap64 (2447 * (wrap64 (Int.tdiv (wrap64 (80 * (wrap64 ((wrap64 ((wrap64 ((wrap64 (a0 + 68569)) - (wrap64 (Int.tdiv (wrap64 ((wrap64 (146097 * (wrap64 (Int.tdiv (wrap64 (4 * (wrap64 (a0 + 68569)))) 146097)))) + 3)) 4)))) - (wrap64 (Int.tdiv (wrap64 (1461 * (wrap64 (Int.tdiv (wrap64 (4000 * (wrap64 ((wrap64 ((wrap64 (a0 + 68569)) - (wrap64 (Int.tdiv (wrap64 ((wrap64 (146097 * (wrap64 (Int.tdiv (wrap64 (4 * (wrap64 (a0 + 68569)))) 146097)))) + 3)) 4)))) + 1)))) 1461001)))) 4)))) + 31)))) 2447)))) 80))), wrap64 ((wrap64 ((wrap64 (Int.tdiv (wrap64 (80 * (wrap64 ((wrap64 ((wrap64 ((wrap64 (a0 + 68569)) - (wrap64 (Int.tdiv (wrap64 ((wrap64 (146097 * (wrap64 (Int.tdiv (wrap64 (4 * (wrap64 (a0 + 68569)))) 146097)))) + 3)) 4)))) - (wrap64 (Int.tdiv (wrap64 (1461 * (wrap64 (Int.tdiv (wrap64 (4000 * (wrap64 ((wrap64 ((wrap64 (a0 + 68569)) - (wrap64 (Int.tdiv (wrap64 ((wrap64 (146097 * (wrap64 (Int.tdiv (wrap64 (4 * (wrap64 (a0 + 68569)))) 146097)))) + 3)) 4)))) + 1)))) 1461001)))) 4)))) + 31)))) 2447)) + 2)) - (wrap64 (12 * (wrap64 (Int.tdiv (wrap64 (Int.tdiv (wrap64 (80 * (wrap64 ((wrap64 ((wrap64 ((wrap64 (a0 + 68569)) - (wrap64 (Int.tdiv (wrap64 ((wrap64 (146097 * (wrap64 (Int.tdiv (wrap64 (4 * (wrap64 (a0 + 68569)))) 146097)))) + 3)) 4)))) - (wrap64 (Int.tdiv (wrap64 (1461 * (wrap64 (Int.tdiv (wrap64 (4000 * (wrap64 ((wrap64 ((wrap64 (a0 + 68569)) - (wrap64 (Int.tdiv (wrap64 ((wrap64 (146097 * (wrap64 (Int.tdiv (wrap64 (4 * (wrap64 (a0 + 68569)))) 146097)))) + 3)) 4)))) + 1)))) 1461001)))) 4)))) + 31)))) 2447)) 11))))), wrap64 ((wrap64 ((wrap64 (100 * (wrap64 ((wrap64 (Int.tdiv (wrap64 (4 * (wrap64 (a0 + 68569)))) 146097)) - 49)))) + (wrap64 (Int.tdiv (wrap64 (4000 * (wrap64 ((wrap64 ((wrap64 (a0 + 68569)) - (wrap64 (Int.tdiv (wrap64 ((wrap64 (146097 * (wrap64 (Int.tdiv (wrap64 (4 * (wrap64 (a0 + 68569)))) 146097)))) + 3)) 4)))) + 1)))) 1461001)))) + (wrap64 (Int.tdiv (wrap64 (Int.tdiv (wrap64 (80 * (wrap64 ((wrap64 ((wrap64 ((wrap64 (a0 + 68569)) - (wrap64 (Int.tdiv (wrap64 ((wrap64 (146097 * (wrap64 (Int.tdiv (wrap64 (4 * (wrap64 (a0 + 68569)))) 146097)))) + 3)) 4)))) - (wrap64 (Int.tdiv (wrap64 (1461 * (wrap64 (Int.tdiv (wrap64 (4000 * (wrap64 ((wrap64 ((wrap64 (a0 + 68569)) - (wrap64 (Int.tdiv (wrap64 ((wrap64 (146097 * (wrap64 (Int.tdiv (wrap64 (4 * (wrap64 (a0 + 68569)))) 146097)))) + 3)) 4)))) + 1)))) 1461001)))) 4)))) + 31)))) 2447)) 11))))
set_option maxHeartbeats 8000000 in
set_option maxRecDepth 100000 in
theorem excelize_doTheFliegelAndVanFlandernAlgorithm.calls (a0 : Int) (r1 : Int) (r2 : Int) (r3 : Int) (w : World) (h : excelize_doTheFliegelAndVanFlandernAlgorithm.f a0 = some (r1, r2, r3)) :
    Calls Try.prog 35 #[.int .i64 a0] w fun e w' => e = .returned (.tuple #[.int .i64 r1, .int .i64 r2, .int .i64 r3]) ∧ Drawn0 w w' := by
  have H : (some (wrap64 ((wrap64 ((wrap64 ((wrap64 ((wrap64 (a0 + 68569)) - (wrap64 (Int.tdiv (wrap64 ((wrap64 (146097 * (wrap64 (Int.tdiv (wrap64 (4 * (wrap64 (a0 + 68569)))) 146097)))) + 3)) 4)))) - (wrap64 (Int.tdiv (wrap64 (1461 * (wrap64 (Int.tdiv (wrap64 (4000 * (wrap64 ((wrap64 ((wrap64 (a0 + 68569)) - (wrap64 (Int.tdiv (wrap64 ((wrap64 (146097 * (wrap64 (Int.tdiv (wrap64 (4 * (wrap64 (a0 + 68569)))) 146097)))) + 3)) 4)))) + 1)))) 1461001)))) 4)))) + 31)) - (wrap64 (Int.tdiv (wrap64 (2447 * (wrap64 (Int.tdiv (wrap64 (80 * (wrap64 ((wrap64 ((wrap64 ((wrap64 (a0 + 68569)) - (wrap64 (Int.tdiv (wrap64 ((wrap64 (146097 * (wrap64 (Int.tdiv (wrap64 (4 * (wrap64 (a0 + 68569)))) 146097)))) + 3)) 4)))) - (wrap64 (Int.tdiv (wrap64 (1461 * (wrap64 (Int.tdiv (wrap64 (4000 * (wrap64 ((wrap64 ((wrap64 (a0 + 68569)) - (wrap64 (Int.tdiv (wrap64 ((wrap64 (146097 * (wrap64 (Int.tdiv (wrap64 (4 * (wrap64 (a0 + 68569)))) 146097)))) + 3)) 4)))) + 1)))) 1461001)))) 4)))) + 31)))) 2447)))) 80))), wrap64 ((wrap64 ((wrap64 (Int.tdiv (wrap64 (80 * (wrap64 ((wrap64 ((wrap64 ((wrap64 (a0 + 68569)) - (wrap64 (Int.tdiv (wrap64 ((wrap64 (146097 * (wrap64 (Int.tdiv (wrap64 (4 * (wrap64 (a0 + 68569)))) 146097)))) + 3)) 4)))) - (wrap64 (Int.tdiv (wrap64 (1461 * (wrap64 (Int.tdiv (wrap64 (4000 * (wrap64 ((wrap64 ((wrap64 (a0 + 68569)) - (wrap64 (Int.tdiv (wrap64 ((wrap64 (146097 * (wrap64 (Int.tdiv (wrap64 (4 * (wrap64 (a0 + 68569)))) 146097)))) + 3)) 4)))) + 1)))) 1461001)))) 4)))) + 31)))) 2447)) + 2)) - (wrap64 (12 * (wrap64 (Int.tdiv (wrap64 (Int.tdiv (wrap64 (80 * (wrap64 ((wrap64 ((wrap64 ((wrap64 (a0 + 68569)) - (wrap64 (Int.tdiv (wrap64 ((wrap64 (146097 * (wrap64 (Int.tdiv (wrap64 (4 * (wrap64 (a0 + 68569)))) 146097)))) + 3)) 4)))) - (wrap64 (Int.tdiv (wrap64 (1461 * (wrap64 (Int.tdiv (wrap64 (4000 * (wrap64 ((wrap64 ((wrap64 (a0 + 68569)) - (wrap64 (Int.tdiv (wrap64 ((wrap64 (146097 * (wrap64 (Int.tdiv (wrap64 (4 * (wrap64 (a0 + 68569)))) 146097)))) + 3)) 4)))) + 1)))) 1461001)))) 4)))) + 31)))) 2447)) 11))))), wrap64 ((wrap64 ((wrap64 (100 * (wrap64 ((wrap64 (Int.tdiv (wrap64 (4 * (wrap64 (a0 + 68569)))) 146097)) - 49)))) + (wrap64 (Int.tdiv (wrap64 (4000 * (wrap64 ((wrap64 ((wrap64 (a0 + 68569)) - (wrap64 (Int.tdiv (wrap64 ((wrap64 (146097 * (wrap64 (Int.tdiv (wrap64 (4 * (wrap64 (a0 + 68569)))) 146097)))) + 3)) 4)))) + 1)))) 1461001)))) + (wrap64 (Int.tdiv (wrap64 (Int.tdiv (wrap64 (80 * (wrap64 ((wrap64 ((wrap64 ((wrap64 (a0 + 68569)) - (wrap64 (Int.tdiv (wrap64 ((wrap64 (146097 * (wrap64 (Int.tdiv (wrap64 (4 * (wrap64 (a0 + 68569)))) 146097)))) + 3)) 4)))) - (wrap64 (Int.tdiv (wrap64 (1461 * (wrap64 (Int.tdiv (wrap64 (4000 * (wrap64 ((wrap64 ((wrap64 (a0 + 68569)) - (wrap64 (Int.tdiv (wrap64 ((wrap64 (146097 * (wrap64 (Int.tdiv (wrap64 (4 * (wrap64 (a0 + 68569)))) 146097)))) + 3)) 4)))) + 1)))) 1461001)))) 4)))) + 31)))) 2447)) 11))))) = some (r1, r2, r3) := h
  clear h
  simp only [Option.some.injEq, Prod.mk.injEq] at H
  obtain ⟨rfl, rfl, rfl⟩ := H
  go_enter Try.func35, Try.ntmps35
  go_wp2
  go_ret3
  exact ⟨by first | rfl | (simp; done) | (simp [*]; done), by repeat (first | exact Drawn0.refl _ | apply Drawn0.step)⟩

/-! ### excelize_DoorJulian: function 30 -/
def excelize_DoorJulian.f (a0 : Int) : Option (Int × Int × Int) := (excelize_doTheFliegelAndVanFlandernAlgorithm.f a0).bind fun bt105 => (some (bt105.1, bt105.2.1, bt105.2.2))
set_option maxHeartbeats 8000000 in
set_option maxRecDepth 100000 in
theorem excelize_DoorJulian.calls (a0 : Int) (r1 : Int) (r2 : Int) (r3 : Int) (w : World) (h : excelize_DoorJulian.f a0 = some (r1, r2, r3)) :
    Calls Try.prog 30 #[.int .i64 a0] w fun e w' => e = .returned (.tuple #[.int .i64 r1, .int .i64 r2, .int .i64 r3]) ∧ Drawn0 w w' := by
  have H : ((excelize_doTheFliegelAndVanFlandernAlgorithm.f a0).bind fun bt105 => (some (bt105.1, bt105.2.1, bt105.2.2))) = some (r1, r2, r3) := h
  clear h
  replace H := Option.bind_eq_some_iff.mp H
  obtain ⟨⟨t105, t106, t107⟩, A20, H⟩ := H
  replace H : (some (t105, t106, t107)) = some (r1, r2, r3) := H
  have A2 := Aside0.mk A20
  clear A20
  simp only [Option.some.injEq, Prod.mk.injEq] at H
  obtain ⟨rfl, rfl, rfl⟩ := H
  go_enter Try.func30, Try.ntmps30
  go_wp2_with (first | ((with_reducible refine gate_callee (f := 35) rfl ?_); refine goesL_ (some 6) rfl rfl Try.func35 (by kernel_rfl) rfl #[.int .i64 a0] rfl (by (try simp only [List.map_toArray, List.map_cons, List.map_nil]); first | done | rfl | (simp only [List.length_drop, List.length_take]; rfl)) ?_; (with_reducible refine (excelize_doTheFliegelAndVanFlandernAlgorithm.calls a0 t105 t106 t107 _ A2.out).mono ?_); rintro e w' ⟨rfl, ⟨nd, rfl⟩⟩; refine ⟨_, rfl, ?_⟩))
  go_ret3
  exact ⟨by first | rfl | (simp; done) | (simp [*]; done), by repeat (first | exact Drawn0.refl _ | apply Drawn0.step)⟩

/-! ### impl_Julian: function 23 -/
def impl_Julian.f (a0 : Int) : Option (Int × Int × Int) := (excelize_DoorJulian.f a0).bind fun bt108 => (some (bt108.1, bt108.2.1, bt108.2.2))
set_option maxHeartbeats 8000000 in
set_option maxRecDepth 100000 in
theorem impl_Julian.calls (a0 : Int) (r1 : Int) (r2 : Int) (r3 : Int) (w : World) (h : impl_Julian.f a0 = some (r1, r2, r3)) :
    Calls Try.prog 23 #[.int .i64 a0] w fun e w' => e = .returned (.tuple #[.int .i64 r1, .int .i64 r2, .int .i64 r3]) ∧ Drawn0 w w' := by
  have H : ((excelize_DoorJulian.f a0).bind fun bt108 => (some (bt108.1, bt108.2.1, bt108.2.2))) = some (r1, r2, r3) := h
  clear h
  replace H := Option.bind_eq_some_iff.mp H
  obtain ⟨⟨t108, t109, t110⟩, A20, H⟩ := H
  replace H : (some (t108, t109, t110)) = some (r1, r2, r3) := H
  have A2 := Aside0.mk A20
  clear A20
  simp only [Option.some.injEq, Prod.mk.injEq] at H
  obtain ⟨rfl, rfl, rfl⟩ := H
  go_enter Try.func23, Try.ntmps23
  go_wp2_with (first | ((with_reducible refine gate_callee (f := 30) rfl ?_); refine goesL_ (some 6) rfl rfl Try.func30 (by kernel_rfl) rfl #[.int .i64 a0] rfl (by (try simp only [List.map_toArray, List.map_cons, List.map_nil]); first | done | rfl | (simp only [List.length_drop, List.length_take]; rfl)) ?_; (with_reducible refine (excelize_DoorJulian.calls a0 t108 t109 t110 _ A2.out).mono ?_); rintro e w' ⟨rfl, ⟨nd, rfl⟩⟩; refine ⟨_, rfl, ?_⟩))
  go_ret3
  exact ⟨by first | rfl | (simp; done) | (simp [*]; done), by repeat (first | exact Drawn0.refl _ | apply Drawn0.step)⟩

/-! ### laws_dayIs: function 13 -/
def laws_dayIs.f (a0 : Int) (a1 : Int) (a2 : Int) (a3 : Int) : Option (Bool) := (impl_Julian.f a0).bind fun bt111 => (if bt111.1 = a1 then (if bt111.2.1 = a2 then (some (bt111.2.2 == a3)) else (some false)) else (some false))
set_option maxHeartbeats 8000000 in
set_option maxRecDepth 100000 in
theorem laws_dayIs.calls (a0 : Int) (a1 : Int) (a2 : Int) (a3 : Int) (r : Bool) (w : World) (h : laws_dayIs.f a0 a1 a2 a3 = some r) :
    Calls Try.prog 13 #[.int .i64 a0, .int .i64 a1, .int .i64 a2, .int .i64 a3] w fun e w' => e = .returned (.bool r) ∧ Drawn0 w w' := by
  have H : ((impl_Julian.f a0).bind fun bt111 => (if bt111.1 = a1 then (if bt111.2.1 = a2 then (some (bt111.2.2 == a3)) else (some false)) else (some false))) = some r := h
  clear h
  replace H := Option.bind_eq_some_iff.mp H
  obtain ⟨⟨t111, t112, t113⟩, A50, H⟩ := H
  replace H : (if t111 = a1 then (if t112 = a2 then (some (t113 == a3)) else (some false)) else (some false)) = some r := H
  have A5 := Aside0.mk A50
  clear A50
  by_cases c6 : t111 = a1
  · rw [if_pos c6] at H
    have c6b0 : (t111 == a1) = true := beq_iff_eq.mpr c6
    have c6b1 : (t111 != a1) = false := bne_eq_false_iff_eq.mpr c6
    clear c6
    by_cases c7 : t112 = a2
    · rw [if_pos c7] at H
      have c7b0 : (t112 == a2) = true := beq_iff_eq.mpr c7
      have c7b1 : (t112 != a2) = false := bne_eq_false_iff_eq.mpr c7
      clear c7
      obtain rfl := Option.some.inj H
      go_enter Try.func13, Try.ntmps13
      go_wp2_with (first | ((with_reducible refine gate_callee (f := 23) rfl ?_); refine goesL_ (some 14) rfl rfl Try.func23 (by kernel_rfl) rfl #[.int .i64 a0] rfl (by (try simp only [List.map_toArray, List.map_cons, List.map_nil]); first | done | rfl | (simp only [List.length_drop, List.length_take]; rfl)) ?_; (with_reducible refine (impl_Julian.calls a0 t111 t112 t113 _ A5.out).mono ?_); rintro e w' ⟨rfl, ⟨nd, rfl⟩⟩; refine ⟨_, rfl, ?_⟩))
      go_ret
      exact ⟨by first | rfl | (simp; done) | (simp [*]; done), by repeat (first | exact Drawn0.refl _ | apply Drawn0.step)⟩
    · rw [if_neg c7] at H
      have c7b0 : (t112 == a2) = false := beq_eq_false_iff_ne.mpr c7
      have c7b1 : (t112 != a2) = true := bne_iff_ne.mpr c7
      obtain rfl := Option.some.inj H
      go_enter Try.func13, Try.ntmps13
      go_wp2_with (first | ((with_reducible refine gate_callee (f := 23) rfl ?_); refine goesL_ (some 14) rfl rfl Try.func23 (by kernel_rfl) rfl #[.int .i64 a0] rfl (by (try simp only [List.map_toArray, List.map_cons, List.map_nil]); first | done | rfl | (simp only [List.length_drop, List.length_take]; rfl)) ?_; (with_reducible refine (impl_Julian.calls a0 t111 t112 t113 _ A5.out).mono ?_); rintro e w' ⟨rfl, ⟨nd, rfl⟩⟩; refine ⟨_, rfl, ?_⟩))
      go_ret
      exact ⟨by first | rfl | (simp; done) | (simp [*]; done), by repeat (first | exact Drawn0.refl _ | apply Drawn0.step)⟩
  · rw [if_neg c6] at H
    have c6b0 : (t111 == a1) = false := beq_eq_false_iff_ne.mpr c6
    have c6b1 : (t111 != a1) = true := bne_iff_ne.mpr c6
    obtain rfl := Option.some.inj H
    go_enter Try.func13, Try.ntmps13
    go_wp2_with (first | ((with_reducible refine gate_callee (f := 23) rfl ?_); refine goesL_ (some 14) rfl rfl Try.func23 (by kernel_rfl) rfl #[.int .i64 a0] rfl (by (try simp only [List.map_toArray, List.map_cons, List.map_nil]); first | done | rfl | (simp only [List.length_drop, List.length_take]; rfl)) ?_; (with_reducible refine (impl_Julian.calls a0 t111 t112 t113 _ A5.out).mono ?_); rintro e w' ⟨rfl, ⟨nd, rfl⟩⟩; refine ⟨_, rfl, ?_⟩))
    go_ret
    exact ⟨by first | rfl | (simp; done) | (simp [*]; done), by repeat (first | exact Drawn0.refl _ | apply Drawn0.step)⟩

/-! ### laws_FnJulian: function 5 -/
def laws_FnJulian.f (k : Nat) (a0 : Int) : Option (Bool) := (laws_combSmall.f a0 110000).bind fun t114 => ((spec_DayOf.f k (wrap64 (2451545 + t114))).bind fun bt115 => ((laws_dayIs.f (wrap64 (2451545 + t114)) bt115.1 bt115.2.1 bt115.2.2).bind fun t118 => (some t118)))
theorem laws_FnJulian.mono : ∀ a0 k, LeO (laws_FnJulian.f k a0) (laws_FnJulian.f (k + 1) a0) := by
  intro a0 k
  unfold laws_FnJulian.f
  repeat' first
      | (with_reducible exact spec_DayOf.mono _ _)
      | (with_reducible exact LeO.refl _)
      | (with_reducible exact LeO.none _)
      | (with_reducible refine LeO.ite ?_ ?_)
      | (with_reducible refine LeO.bind ?_ (fun _ => ?_))
      | exact spec_DayOf.mono _ _
      | exact LeO.none _
      | refine LeO.ite ?_ ?_
      | refine LeO.bind ?_ (fun _ => ?_)
set_option maxHeartbeats 8000000 in
set_option maxRecDepth 100000 in
theorem laws_FnJulian.calls (k : Nat) (a0 : Int) (r : Bool) (w : World) (h : laws_FnJulian.f k a0 = some r) :
    Calls Try.prog 5 #[.int .i64 a0] w fun e w' => e = .returned (.bool r) ∧ Drawn0 w w' := by
  have H : ((laws_combSmall.f a0 110000).bind fun t114 => ((spec_DayOf.f k (wrap64 (2451545 + t114))).bind fun bt115 => ((laws_dayIs.f (wrap64 (2451545 + t114)) bt115.1 bt115.2.1 bt115.2.2).bind fun t118 => (some t118)))) = some r := h
  clear h
  replace H := Option.bind_eq_some_iff.mp H
  obtain ⟨t114, A20, H⟩ := H
  replace H : ((spec_DayOf.f k (wrap64 (2451545 + t114))).bind fun bt115 => ((laws_dayIs.f (wrap64 (2451545 + t114)) bt115.1 bt115.2.1 bt115.2.2).bind fun t118 => (some t118))) = some r := H
  have A2 := Aside0.mk A20
  clear A20
  replace H := Option.bind_eq_some_iff.mp H
  obtain ⟨⟨t115, t116, t117⟩, A30, H⟩ := H
  replace H : ((laws_dayIs.f (wrap64 (2451545 + t114)) t115 t116 t117).bind fun t118 => (some t118)) = some r := H
  have A3 := Aside0.mk A30
  clear A30
  replace H := Option.bind_eq_some_iff.mp H
  obtain ⟨t118, A40, H⟩ := H
  replace H : (some t118) = some r := H
  have A4 := Aside0.mk A40
  clear A40
  obtain rfl := Option.some.inj H
  go_enter Try.func5, Try.ntmps5
  go_wp2_with (first | ((with_reducible refine gate_callee (f := 10) rfl ?_); refine goesL_ (some 8) rfl rfl Try.func10 (by kernel_rfl) rfl #[.int .i64 a0, .int .i64 110000] rfl (by (try simp only [List.map_toArray, List.map_cons, List.map_nil]); first | done | rfl | (simp only [List.length_drop, List.length_take]; rfl)) ?_; (with_reducible refine (laws_combSmall.calls a0 110000 t114 _ A2.out).mono ?_); rintro e w' ⟨rfl, ⟨nd, rfl⟩⟩; refine ⟨_, rfl, ?_⟩) | ((with_reducible refine gate_callee (f := 12) rfl ?_); refine goesL_ (some 12) rfl rfl Try.func12 (by kernel_rfl) rfl #[.int .i64 (wrap64 (2451545 + t114))] rfl (by (try simp only [List.map_toArray, List.map_cons, List.map_nil]); first | done | rfl | (simp only [List.length_drop, List.length_take]; rfl)) ?_; (with_reducible refine (spec_DayOf.calls k (wrap64 (2451545 + t114)) t115 t116 t117 _ A3.out).mono ?_); rintro e w' ⟨rfl, ⟨nd, rfl⟩⟩; refine ⟨_, rfl, ?_⟩) | ((with_reducible refine gate_callee (f := 13) rfl ?_); refine goesL_ (some 20) rfl rfl Try.func13 (by kernel_rfl) rfl #[.int .i64 (wrap64 (2451545 + t114)), .int .i64 t115, .int .i64 t116, .int .i64 t117] rfl (by (try simp only [List.map_toArray, List.map_cons, List.map_nil]); first | done | rfl | (simp only [List.length_drop, List.length_take]; rfl)) ?_; (with_reducible refine (laws_dayIs.calls (wrap64 (2451545 + t114)) t115 t116 t117 t118 _ A4.out).mono ?_); rintro e w' ⟨rfl, ⟨nd, rfl⟩⟩; refine ⟨_, rfl, ?_⟩))
  go_ret
  exact ⟨by first | rfl | (simp; done) | (simp [*]; done), by repeat (first | exact Drawn0.refl _ | apply Drawn0.step)⟩

/-- THE ONE PURE STATEMENT of laws_FnJulian: yours. -/
def laws_FnJulian.Pure : Prop := ∀ (a0 : Int), (Lit.int .i64 a0).wf = true → ∃ k, laws_FnJulian.f k a0 = some true
theorem laws_FnJulian.walk (P : laws_FnJulian.Pure) (a0 : Int) (w : World) (w0 : (Lit.int .i64 a0).wf = true) :
    Calls Try.prog 5 #[.int .i64 a0] w fun e w' => e = .returned (.bool true) ∧ Below w.heap.size w w' := by
  obtain ⟨k, h⟩ := P a0 w0
  refine (laws_FnJulian.calls k a0 true w h).mono ?_
  rintro e w' ⟨rfl, hd⟩
  exact ⟨rfl, hd.below⟩

end Go.Proofs.Ytdobgmeibccjnaa.PFnJulian
