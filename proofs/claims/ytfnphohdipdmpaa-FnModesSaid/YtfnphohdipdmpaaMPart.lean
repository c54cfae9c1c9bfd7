/- The library's partition puts the elements in another order. -/
import Derived.Test.YtfnphohdipdmpaaMPartEq
namespace Go.Proofs.Ytfnphohdipdmpaa.Rg
open Go.RowKit

set_option maxHeartbeats 6400000 in
set_option maxRecDepth 100000 in
theorem partition_any (blk n cap a b pivot : Nat) (X : List Nat) (w : World) (hX : RowF w blk X) (hn : X.length = n) (hs : n ≤ 1000000) (hb : b ≤ n) (hab : a < b) (hp2 : pivot < b) :
    Calls Try.prog 58 #[.slice (some ⟨blk, 0, none⟩) n cap, .int .i64 a, .int .i64 b, .int .i64 pivot] w (PartPost w blk a b X) := by
  have HS := Lib.hid (St.refl hX)
  have hst := store_float Try.prog
  have HN := Lib.hid hn
  clear hX hn
  go_enter Try.func58, Try.ntmps58
  obtain ⟨x, y, ⟨cx, fx⟩, ⟨cy, fy⟩, HQ, HW⟩ := HS.out.pair HN.out (i := a) (j := pivot) (by omega) (by omega)
  have e0 : (0 : Int) ≤ (a : Int) := by omega
  have e1 : (a : Int) < (n : Int) := by omega
  have e2 : (0 : Int) ≤ (pivot : Int) := by omega
  have e3 : (pivot : Int) < (n : Int) := by omega
  have o1 := cell_over (i := a) cy
  have o2 := cell_over (i := pivot) cx
  clear HS HQ
  go_wp2_with fail
  go_region
  have HS := Lib.hid (HW.out 1)
  clear cx cy fx fy e0 e1 e2 e3 o1 o2 HW
  have HI : a < a + 1 ∧ a + 1 ≤ b ∧ a ≤ b - 1 ∧ b - 1 < b := by omega
  obtain ⟨i, hi⟩ : ∃ i : Nat, i = a + 1 := ⟨_, rfl⟩
  obtain ⟨j, hj⟩ : ∃ j : Nat, j = b - 1 := ⟨_, rfl⟩
  have hii : (a : Int) + 1 = (i : Int) := by omega
  have hjj : (b : Int) - 1 = (j : Int) := by omega
  rw [← hi, ← hj] at HI
  clear hi hj
  obtain ⟨hi1, hi2, hj1, hj2⟩ := HI
  go_upto_block 0 with fail
  go_cut [10] from 12 to 167 (fun u wx => ∃ i2 : Nat, u = .int .i64 i2 ∧ i ≤ i2 ∧ i2 ≤ b ∧ Hid (St w blk X wx))
  case first =>
    go_wp2_with fail
    go_loopw [10] (fun u wr => ∃ i2 : Nat, u = .int .i64 i2 ∧ i ≤ i2 ∧ i2 ≤ b ∧ Hid (St w blk X wr)) (fun u _ => b - (intOf u).toNat)
    case atStart => exact ⟨i, rfl, by omega, by omega, HS⟩
    clear HS
    case round =>
      obtain ⟨i2, rfl, h1, h2, HS⟩ := hrel
      by_cases hij : i2 ≤ j
      · obtain ⟨x, y, ⟨cx, fx⟩, ⟨cy, fy⟩, HQ, HW⟩ := HS.out.pair HN.out (i := i2) (j := a) (by omega) (by omega)
        have LS := fun w => less_any x y w
        generalize lessF x y = t at LS
        have d0 : decide (i2 ≤ j) = true := decide_eq_true hij
        have e0 : (0 : Int) ≤ (a : Int) := by omega
        have e1 : (a : Int) < (n : Int) := by omega
        have e2 : (0 : Int) ≤ (i2 : Int) := by omega
        have e3 : (i2 : Int) < (n : Int) := by omega
        clear HS HW
        cases t
        · go_wp2_with fail
          go_quiet (first | (go_at_call 56; refine Calls.quiet_of_same (LS _)))
          go_wp2
          go_meet
          case rel => exact ⟨i2, rfl, h1, h2, HQ.out nq⟩
        · go_wp2_with fail
          go_quiet (first | (go_at_call 56; refine Calls.quiet_of_same (LS _)))
          go_wp2
          go_roundw
          case rel => exact ⟨i2 + 1, by go_num, by omega, by omega, HQ.out nq⟩
          case measure => simp [intOf]; omega
      · have d0 : decide (i2 ≤ j) = false := decide_eq_false hij
        go_wp2_with fail
        go_quiet (fail)
        go_wp2
        go_meet
        case rel => exact ⟨i2, rfl, h1, h2, HS.out.drewN nq⟩
  clear HS
  obtain ⟨i2, rfl, h1, h2, HS⟩ := hcut
  clear hii
  go_upto_block 2 with fail
  go_cut [11] from 12 to 167 (fun u wx => ∃ j2 : Nat, u = .int .i64 j2 ∧ a ≤ j2 ∧ j2 ≤ j ∧ Hid (St w blk X wx))
  case first =>
    go_wp2_with fail
    go_loopw [11] (fun u wr => ∃ j2 : Nat, u = .int .i64 j2 ∧ a ≤ j2 ∧ j2 ≤ j ∧ Hid (St w blk X wr)) (fun u _ => (intOf u).toNat)
    case atStart => exact ⟨j, rfl, by omega, by omega, HS⟩
    clear HS
    case round =>
      obtain ⟨j2, rfl, h3, h4, HS⟩ := hrel
      by_cases hij : i2 ≤ j2
      · obtain ⟨x, y, ⟨cx, fx⟩, ⟨cy, fy⟩, HQ, HW⟩ := HS.out.pair HN.out (i := j2) (j := a) (by omega) (by omega)
        have LS := fun w => less_any x y w
        generalize lessF x y = t at LS
        have d0 : decide (i2 ≤ j2) = true := decide_eq_true hij
        have e0 : (0 : Int) ≤ (a : Int) := by omega
        have e1 : (a : Int) < (n : Int) := by omega
        have e2 : (0 : Int) ≤ (j2 : Int) := by omega
        have e3 : (j2 : Int) < (n : Int) := by omega
        clear HS HW
        cases t
        · go_wp2_with fail
          go_quiet (first | (go_at_call 56; refine Calls.quiet_of_same (LS _)))
          go_wp2
          go_roundw
          case rel => exact ⟨j2 - 1, by go_num, by omega, by omega, HQ.out nq⟩
          case measure => simp [intOf]; omega
        · go_wp2_with fail
          go_quiet (first | (go_at_call 56; refine Calls.quiet_of_same (LS _)))
          go_wp2
          go_meet
          case rel => exact ⟨j2, rfl, h3, h4, HQ.out nq⟩
      · have d0 : decide (i2 ≤ j2) = false := decide_eq_false hij
        go_wp2_with fail
        go_quiet (fail)
        go_wp2
        go_meet
        case rel => exact ⟨j2, rfl, h3, h4, HS.out.drewN nq⟩
  clear HS
  obtain ⟨j2, rfl, h3, h4, HS⟩ := hcut
  clear hjj
  by_cases hgt : j2 < i2
  · obtain ⟨x, y, ⟨cx, fx⟩, ⟨cy, fy⟩, HQ, HW⟩ := HS.out.pair HN.out (i := j2) (j := a) (by omega) (by omega)
    have e0 : (0 : Int) ≤ (j2 : Int) := by omega
    have e1 : (j2 : Int) < (n : Int) := by omega
    have e2 : (0 : Int) ≤ (a : Int) := by omega
    have e3 : (a : Int) < (n : Int) := by omega
    have o1 := cell_over (i := j2) cy
    have o2 := cell_over (i := a) cx
    clear HS HQ
    go_wp2_with fail
    go_region
    have HS := Lib.hid (HW.out 1)
    clear cx cy fx fy e0 e1 e2 e3 o1 o2 HW
    go_wp2
    go_ret2
    exact ⟨j2, true, rfl, by omega, by omega, HS.out⟩
  · obtain ⟨x, y, ⟨cx, fx⟩, ⟨cy, fy⟩, HQ, HW⟩ := HS.out.pair HN.out (i := i2) (j := j2) (by omega) (by omega)
    have e0 : (0 : Int) ≤ (i2 : Int) := by omega
    have e1 : (i2 : Int) < (n : Int) := by omega
    have e2 : (0 : Int) ≤ (j2 : Int) := by omega
    have e3 : (j2 : Int) < (n : Int) := by omega
    have o1 := cell_over (i := i2) cy
    have o2 := cell_over (i := j2) cx
    clear HS HQ
    go_wp2_with fail
    go_region
    have HS := Lib.hid (HW.out 1)
    clear cx cy fx fy e0 e1 e2 e3 o1 o2 HW
    go_wp2
    go_loopw [10, 11] (fun u v wr => ∃ i j : Nat, u = .int .i64 i ∧ v = .int .i64 j ∧ a < i ∧ i ≤ b ∧ a ≤ j ∧ j < b ∧ Hid (St w blk X wr)) (fun u _ _ => b + 1 - (intOf u).toNat)
    case atStart => exact ⟨i2 + 1, j2 - 1, by go_num, by go_num, by omega, by omega, by omega, by omega, HS⟩
    clear HS
    case round =>
      clear hi1 hi2 hj1 hj2 h1 h2 h3 h4 hgt
      obtain ⟨i, j, rfl, rfl, hi1, hi2, hj1, hj2, HS⟩ := hrel
      go_upto_block 6 with fail
      go_cut [10] from 99 to 152 (fun u wx => ∃ i3 : Nat, u = .int .i64 i3 ∧ i ≤ i3 ∧ i3 ≤ b ∧ Hid (St w blk X wx))
      case first =>
        go_wp2_with fail
        go_loopw [10] (fun u wr => ∃ i3 : Nat, u = .int .i64 i3 ∧ i ≤ i3 ∧ i3 ≤ b ∧ Hid (St w blk X wr)) (fun u _ => b - (intOf u).toNat)
        case atStart => exact ⟨i, rfl, by omega, by omega, HS⟩
        clear HS
        case round =>
          obtain ⟨i3, rfl, h1, h2, HS⟩ := hrel
          by_cases hij : i3 ≤ j
          · obtain ⟨x, y, ⟨cx, fx⟩, ⟨cy, fy⟩, HQ, HW⟩ := HS.out.pair HN.out (i := i3) (j := a) (by omega) (by omega)
            have LS := fun w => less_any x y w
            generalize lessF x y = t at LS
            have d0 : decide (i3 ≤ j) = true := decide_eq_true hij
            have e0 : (0 : Int) ≤ (a : Int) := by omega
            have e1 : (a : Int) < (n : Int) := by omega
            have e2 : (0 : Int) ≤ (i3 : Int) := by omega
            have e3 : (i3 : Int) < (n : Int) := by omega
            clear HS HW
            cases t
            · go_wp2_with fail
              go_quiet (first | (go_at_call 56; refine Calls.quiet_of_same (LS _)))
              go_wp2
              go_meet
              case rel => exact ⟨i3, rfl, h1, h2, HQ.out nq⟩
            · go_wp2_with fail
              go_quiet (first | (go_at_call 56; refine Calls.quiet_of_same (LS _)))
              go_wp2
              go_roundw
              case rel => exact ⟨i3 + 1, by go_num, by omega, by omega, HQ.out nq⟩
              case measure => simp [intOf]; omega
          · have d0 : decide (i3 ≤ j) = false := decide_eq_false hij
            go_wp2_with fail
            go_quiet (fail)
            go_wp2
            go_meet
            case rel => exact ⟨i3, rfl, h1, h2, HS.out.drewN nq⟩
      clear HS
      obtain ⟨i3, rfl, h1, h2, HS⟩ := hcut
      go_upto_block 8 with fail
      go_cut [11] from 99 to 152 (fun u wx => ∃ j3 : Nat, u = .int .i64 j3 ∧ a ≤ j3 ∧ j3 ≤ j ∧ Hid (St w blk X wx))
      case first =>
        go_wp2_with fail
        go_loopw [11] (fun u wr => ∃ j3 : Nat, u = .int .i64 j3 ∧ a ≤ j3 ∧ j3 ≤ j ∧ Hid (St w blk X wr)) (fun u _ => (intOf u).toNat)
        case atStart => exact ⟨j, rfl, by omega, by omega, HS⟩
        clear HS
        case round =>
          obtain ⟨j3, rfl, h3, h4, HS⟩ := hrel
          by_cases hij : i3 ≤ j3
          · obtain ⟨x, y, ⟨cx, fx⟩, ⟨cy, fy⟩, HQ, HW⟩ := HS.out.pair HN.out (i := j3) (j := a) (by omega) (by omega)
            have LS := fun w => less_any x y w
            generalize lessF x y = t at LS
            have d0 : decide (i3 ≤ j3) = true := decide_eq_true hij
            have e0 : (0 : Int) ≤ (a : Int) := by omega
            have e1 : (a : Int) < (n : Int) := by omega
            have e2 : (0 : Int) ≤ (j3 : Int) := by omega
            have e3 : (j3 : Int) < (n : Int) := by omega
            clear HS HW
            cases t
            · go_wp2_with fail
              go_quiet (first | (go_at_call 56; refine Calls.quiet_of_same (LS _)))
              go_wp2
              go_roundw
              case rel => exact ⟨j3 - 1, by go_num, by omega, by omega, HQ.out nq⟩
              case measure => simp [intOf]; omega
            · go_wp2_with fail
              go_quiet (first | (go_at_call 56; refine Calls.quiet_of_same (LS _)))
              go_wp2
              go_meet
              case rel => exact ⟨j3, rfl, h3, h4, HQ.out nq⟩
          · have d0 : decide (i3 ≤ j3) = false := decide_eq_false hij
            go_wp2_with fail
            go_quiet (fail)
            go_wp2
            go_meet
            case rel => exact ⟨j3, rfl, h3, h4, HS.out.drewN nq⟩
      clear HS
      obtain ⟨j3, rfl, h3, h4, HS⟩ := hcut
      by_cases hgt : j3 < i3
      · go_wp2_with fail
        obtain ⟨x, y, ⟨cx, fx⟩, ⟨cy, fy⟩, HQ, HW⟩ := HS.out.pair HN.out (i := j3) (j := a) (by omega) (by omega)
        have e0 : (0 : Int) ≤ (j3 : Int) := by omega
        have e1 : (j3 : Int) < (n : Int) := by omega
        have e2 : (0 : Int) ≤ (a : Int) := by omega
        have e3 : (a : Int) < (n : Int) := by omega
        have o1 := cell_over (i := j3) cy
        have o2 := cell_over (i := a) cx
        clear HS HQ
        go_region
        have HS := Lib.hid (HW.out 1)
        clear cx cy fx fy e0 e1 e2 e3 o1 o2 HW
        go_wp2
        go_ret2
        exact ⟨j3, false, rfl, by omega, by omega, HS.out⟩
      · obtain ⟨x, y, ⟨cx, fx⟩, ⟨cy, fy⟩, HQ, HW⟩ := HS.out.pair HN.out (i := i3) (j := j3) (by omega) (by omega)
        have e0 : (0 : Int) ≤ (i3 : Int) := by omega
        have e1 : (i3 : Int) < (n : Int) := by omega
        have e2 : (0 : Int) ≤ (j3 : Int) := by omega
        have e3 : (j3 : Int) < (n : Int) := by omega
        have o1 := cell_over (i := i3) cy
        have o2 := cell_over (i := j3) cx
        clear HS HQ
        go_wp2_with fail
        go_region
        have HS := Lib.hid (HW.out 1)
        clear cx cy fx fy e0 e1 e2 e3 o1 o2 HW
        go_wp2
        go_roundw
        case rel => exact ⟨i3 + 1, j3 - 1, by go_num, by go_num, by omega, by omega, by omega, by omega, HS⟩
        case measure => simp [intOf]; omega

end Go.Proofs.Ytfnphohdipdmpaa.Rg
