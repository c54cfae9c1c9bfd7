/- The library's insertion sort and its reversal put the elements in another order. -/
import Derived.Test.YtfnphohdipdmpaaMRow
namespace Go.Proofs.Ytfnphohdipdmpaa.Rg
open Go.RowKit

set_option maxHeartbeats 3200000 in
set_option maxRecDepth 100000 in
theorem insertion_any (blk n cap a b : Nat) (X : List Nat) (w : World) (hX : RowF w blk X) (hn : X.length = n) (hs : n ≤ 1000000) (hb : b ≤ n) (hab : a ≤ b) :
    Calls Try.prog 50 #[.slice (some ⟨blk, 0, none⟩) n cap, .int .i64 a, .int .i64 b] w (StPost w blk X) := by
  have HS := Lib.hid (St.refl hX)
  have hst := store_float Try.prog
  have HN := Lib.hid hn
  clear hX hn
  go_enter Try.func50, Try.ntmps50
  go_wp2
  go_loopw [6] (fun u wr => ∃ i : Nat, u = .int .i64 i ∧ a < i ∧ i ≤ b + 1 ∧ Hid (St w blk X wr)) (fun u _ => b + 1 - (intOf u).toNat)
  case atStart => exact ⟨a + 1, by go_num, by omega, by omega, HS⟩
  clear HS
  case round =>
    obtain ⟨i, rfl, hai, hib, HS⟩ := hrel
    by_cases hlt : i < b
    · go_wp2
      go_loopw [7] (fun u wr => ∃ j : Nat, u = .int .i64 j ∧ a ≤ j ∧ j ≤ i ∧ Hid (St w blk X wr)) (fun u _ => (intOf u).toNat)
      case atStart => exact ⟨i, rfl, by omega, by omega, HS⟩
      clear HS
      case round =>
        obtain ⟨j, rfl, haj, hji, HS⟩ := hrel
        by_cases hja : a < j
        · obtain ⟨x, y, ⟨cx, fx⟩, ⟨cy, fy⟩, HQ, HW⟩ := HS.out.pair HN.out (i := j) (j := j - 1) (by omega) (by omega)
          have LS := fun w => less_any x y w
          have d0 : decide (a < j) = true := decide_eq_true hja
          have j0 : (0 : Int) ≤ (j : Int) := by omega
          have j1 : (j : Int) < (n : Int) := by omega
          have j2 : (0 : Int) ≤ (j : Int) - 1 := by omega
          have j3 : (j : Int) - 1 < (n : Int) := by omega
          have j4 : ((j : Int) - 1).toNat = j - 1 := by omega
          generalize lessF x y = t at LS
          clear HS
          cases t
          · go_wp2_with fail
            go_quiet (first | (go_at_call 56; refine Calls.quiet_of_same (LS _)))
            go_wp2
            go_roundw
            case rel => exact ⟨i + 1, by go_num, by omega, by omega, HQ.out nq⟩
            case measure => simp [intOf]; omega
          · go_wp2_with fail
            go_quiet (first | (go_at_call 56; refine Calls.quiet_of_same (LS _)))
            clear LS
            go_wp2_with fail
            go_region
            all_goals go_wp2
            go_roundw
            case rel => exact ⟨j - 1, by go_num, by omega, by omega, HW.out (nq + 1)⟩
            case measure => simp [intOf]; omega
        · have d0 : decide (a < j) = false := decide_eq_false hja
          go_wp2_with fail
          go_quiet (fail)
          go_wp2
          go_roundw
          case rel => exact ⟨i + 1, by go_num, by omega, by omega, HS.out.drewN nq⟩
          case measure => simp [intOf]; omega
    · go_wp2
      go_end0
      exact ⟨rfl, HS.out⟩

set_option maxHeartbeats 3200000 in
set_option maxRecDepth 100000 in
theorem reverse_any (blk n cap a b : Nat) (X : List Nat) (w : World) (hX : RowF w blk X) (hn : X.length = n) (hs : n ≤ 1000000) (hb : b ≤ n) (hab : a < b) :
    Calls Try.prog 54 #[.slice (some ⟨blk, 0, none⟩) n cap, .int .i64 a, .int .i64 b] w (StPost w blk X) := by
  have HS := Lib.hid (St.refl hX)
  have hst := store_float Try.prog
  have HN := Lib.hid hn
  clear hX hn
  go_enter Try.func54, Try.ntmps54
  go_wp2
  go_loopw [6, 7] (fun u v wr => ∃ i j : Nat, u = .int .i64 i ∧ v = .int .i64 ((j : Int) - 1) ∧ j ≤ b ∧ i ≤ b ∧ Hid (St w blk X wr)) (fun u _ _ => b - (intOf u).toNat)
  case atStart => exact ⟨a, b, rfl, by go_num, by omega, by omega, HS⟩
  clear HS
  case round =>
    obtain ⟨i, j, rfl, rfl, hjb, hib, HS⟩ := hrel
    by_cases hij : (i : Int) < (j : Int) - 1
    · obtain ⟨x, y, ⟨cx, fx⟩, ⟨cy, fy⟩, HQ, HW⟩ := HS.out.pair HN.out (i := i) (j := j - 1) (by omega) (by omega)
      have j0 : (0 : Int) ≤ (i : Int) := by omega
      have j1 : (i : Int) < (n : Int) := by omega
      have j2 : (0 : Int) ≤ (j : Int) - 1 := by omega
      have j3 : (j : Int) - 1 < (n : Int) := by omega
      have j4 : ((j : Int) - 1).toNat = j - 1 := by omega
      clear HS HQ
      go_wp2_with fail
      go_region
      all_goals go_wp2
      go_roundw
      case rel => exact ⟨i + 1, j - 1, by go_num, by go_num, by omega, by omega, HW.out 1⟩
      case measure => simp [intOf]; omega
    · go_wp2
      go_end0
      exact ⟨rfl, HS.out⟩
end Go.Proofs.Ytfnphohdipdmpaa.Rg
