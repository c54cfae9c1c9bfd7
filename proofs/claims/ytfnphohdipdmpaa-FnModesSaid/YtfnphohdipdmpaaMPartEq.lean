/- The library's partitions put the elements in another order. -/
import Derived.Test.YtfnphohdipdmpaaMRow
import Derived.Deep.CutBlock
namespace Go.Proofs.Ytfnphohdipdmpaa.Rg
open Go.RowKit

def EqPost (w : World) (blk a b : Nat) (X : List Nat) (e : Ending) (w' : World) : Prop := ∃ m : Nat, e = .returned (.int .i64 m) ∧ a < m ∧ m ≤ b ∧ St w blk X w'
def PartPost (w : World) (blk a b : Nat) (X : List Nat) (e : Ending) (w' : World) : Prop := ∃ (m : Nat) (t : Bool), e = .returned (.tuple #[.int .i64 m, .bool t]) ∧ a ≤ m ∧ m < b ∧ St w blk X w'

set_option maxHeartbeats 6400000 in
set_option maxRecDepth 100000 in
theorem parteq_any (blk n cap a b pivot : Nat) (X : List Nat) (w : World) (hX : RowF w blk X) (hn : X.length = n) (hs : n ≤ 1000000) (hb : b ≤ n) (hab : a < b) (hp1 : a ≤ pivot) (hp2 : pivot < b) :
    Calls Try.prog 57 #[.slice (some ⟨blk, 0, none⟩) n cap, .int .i64 a, .int .i64 b, .int .i64 pivot] w (EqPost w blk a b X) := by
  have HS := Lib.hid (St.refl hX)
  have hst := store_float Try.prog
  have HN := Lib.hid hn
  clear hX hn
  go_enter Try.func57, Try.ntmps57
  obtain ⟨x, y, ⟨cx, fx⟩, ⟨cy, fy⟩, HQ, HW⟩ := HS.out.pair HN.out (i := a) (j := pivot) (by omega) (by omega)
  have e0 : (0 : Int) ≤ (a : Int) := by omega
  have e1 : (a : Int) < (n : Int) := by omega
  have e2 : (0 : Int) ≤ (pivot : Int) := by omega
  have e3 : (pivot : Int) < (n : Int) := by omega
  have o1 := cell_over (i := a) cy
  have o2 := cell_over (i := pivot) cx
  clear HS HQ
  go_wp2_with fail
  go_region
  have HS := Lib.hid (HW.out 1)
  clear cx cy fx fy e0 e1 e2 e3 o1 o2 HW
  go_wp2
  go_loopw [9, 10] (fun u v wr => ∃ i j : Nat, u = .int .i64 i ∧ v = .int .i64 j ∧ a < i ∧ i ≤ b ∧ a ≤ j ∧ j < b ∧ Hid (St w blk X wr)) (fun u _ _ => b + 1 - (intOf u).toNat)
  case atStart => exact ⟨a + 1, b - 1, by go_num, by go_num, by omega, by omega, by omega, by omega, HS⟩
  clear HS
  case round =>
    obtain ⟨i, j, rfl, rfl, hi1, hi2, hj1, hj2, HS⟩ := hrel
    go_upto_block 2 with fail
    go_cut [9] from 29 to 82 (fun u wx => ∃ i2 : Nat, u = .int .i64 i2 ∧ i ≤ i2 ∧ i2 ≤ b ∧ Hid (St w blk X wx))
    case first =>
      go_wp2_with fail
      go_loopw [9] (fun u wr => ∃ i2 : Nat, u = .int .i64 i2 ∧ i ≤ i2 ∧ i2 ≤ b ∧ Hid (St w blk X wr)) (fun u _ => b - (intOf u).toNat)
      case atStart => exact ⟨i, rfl, by omega, by omega, HS⟩
      clear HS
      case round =>
        obtain ⟨i2, rfl, h1, h2, HS⟩ := hrel
        by_cases hij : i2 ≤ j
        · obtain ⟨x, y, ⟨cx, fx⟩, ⟨cy, fy⟩, HQ, HW⟩ := HS.out.pair HN.out (i := a) (j := i2) (by omega) (by omega)
          have LS := fun w => less_any x y w
          generalize lessF x y = t at LS
          have d0 : decide (i2 ≤ j) = true := decide_eq_true hij
          have e0 : (0 : Int) ≤ (a : Int) := by omega
          have e1 : (a : Int) < (n : Int) := by omega
          have e2 : (0 : Int) ≤ (i2 : Int) := by omega
          have e3 : (i2 : Int) < (n : Int) := by omega
          clear HS HW
          cases t
          · go_wp2_with fail
            go_quiet (first | (go_at_call 56; refine Calls.quiet_of_same (LS _)))
            go_wp2
            go_roundw
            case rel => exact ⟨i2 + 1, by go_num, by omega, by omega, HQ.out nq⟩
            case measure => simp [intOf]; omega
          · go_wp2_with fail
            go_quiet (first | (go_at_call 56; refine Calls.quiet_of_same (LS _)))
            go_wp2
            go_meet
            case rel => exact ⟨i2, rfl, h1, h2, HQ.out nq⟩
        · have d0 : decide (i2 ≤ j) = false := decide_eq_false hij
          go_wp2_with fail
          go_quiet (fail)
          go_wp2
          go_meet
          case rel => exact ⟨i2, rfl, h1, h2, HS.out.drewN nq⟩
    clear HS
    obtain ⟨i2, rfl, h1, h2, HS⟩ := hcut
    go_upto_block 4 with fail
    go_cut [10] from 29 to 82 (fun u wx => ∃ j2 : Nat, u = .int .i64 j2 ∧ a ≤ j2 ∧ j2 ≤ j ∧ Hid (St w blk X wx))
    case first =>
      go_wp2_with fail
      go_loopw [10] (fun u wr => ∃ j2 : Nat, u = .int .i64 j2 ∧ a ≤ j2 ∧ j2 ≤ j ∧ Hid (St w blk X wr)) (fun u _ => (intOf u).toNat)
      case atStart => exact ⟨j, rfl, by omega, by omega, HS⟩
      clear HS
      case round =>
        obtain ⟨j2, rfl, h3, h4, HS⟩ := hrel
        by_cases hij : i2 ≤ j2
        · obtain ⟨x, y, ⟨cx, fx⟩, ⟨cy, fy⟩, HQ, HW⟩ := HS.out.pair HN.out (i := a) (j := j2) (by omega) (by omega)
          have LS := fun w => less_any x y w
          generalize lessF x y = t at LS
          have d0 : decide (i2 ≤ j2) = true := decide_eq_true hij
          have e0 : (0 : Int) ≤ (a : Int) := by omega
          have e1 : (a : Int) < (n : Int) := by omega
          have e2 : (0 : Int) ≤ (j2 : Int) := by omega
          have e3 : (j2 : Int) < (n : Int) := by omega
          clear HS HW
          cases t
          · go_wp2_with fail
            go_quiet (first | (go_at_call 56; refine Calls.quiet_of_same (LS _)))
            go_wp2
            go_meet
            case rel => exact ⟨j2, rfl, h3, h4, HQ.out nq⟩
          · go_wp2_with fail
            go_quiet (first | (go_at_call 56; refine Calls.quiet_of_same (LS _)))
            go_wp2
            go_roundw
            case rel => exact ⟨j2 - 1, by go_num, by omega, by omega, HQ.out nq⟩
            case measure => simp [intOf]; omega
        · have d0 : decide (i2 ≤ j2) = false := decide_eq_false hij
          go_wp2_with fail
          go_quiet (fail)
          go_wp2
          go_meet
          case rel => exact ⟨j2, rfl, h3, h4, HS.out.drewN nq⟩
    clear HS
    obtain ⟨j2, rfl, h3, h4, HS⟩ := hcut
    by_cases hgt : j2 < i2
    · go_wp2
      go_ret
      exact ⟨i2, rfl, by omega, by omega, HS.out⟩
    · obtain ⟨x, y, ⟨cx, fx⟩, ⟨cy, fy⟩, HQ, HW⟩ := HS.out.pair HN.out (i := i2) (j := j2) (by omega) (by omega)
      have e0 : (0 : Int) ≤ (i2 : Int) := by omega
      have e1 : (i2 : Int) < (n : Int) := by omega
      have e2 : (0 : Int) ≤ (j2 : Int) := by omega
      have e3 : (j2 : Int) < (n : Int) := by omega
      have o1 := cell_over (i := i2) cy
      have o2 := cell_over (i := j2) cx
      clear HS HQ
      go_wp2_with fail
      go_region
      have HS := Lib.hid (HW.out 1)
      clear cx cy fx fy e0 e1 e2 e3 o1 o2 HW
      go_wp2
      go_roundw
      case rel => exact ⟨i2 + 1, j2 - 1, by go_num, by go_num, by omega, by omega, by omega, by omega, HS⟩
      case measure => simp [intOf]; omega

end Go.Proofs.Ytfnphohdipdmpaa.Rg
