/- The library's partial insertion sort puts the elements in another order. -/
import Derived.Test.YtfnphohdipdmpaaMPart
namespace Go.Proofs.Ytfnphohdipdmpaa.Rg
open Go.RowKit

def BoolPost (w : World) (blk : Nat) (X : List Nat) (e : Ending) (w' : World) : Prop := ∃ t : Bool, e = .returned (.bool t) ∧ St w blk X w'

set_option maxHeartbeats 6400000 in
set_option maxRecDepth 100000 in
theorem partial_any (blk n cap a b : Nat) (X : List Nat) (w : World) (hX : RowF w blk X) (hn : X.length = n) (hs : n ≤ 1000000) (hb : b ≤ n) (hab : a < b) :
    Calls Try.prog 55 #[.slice (some ⟨blk, 0, none⟩) n cap, .int .i64 a, .int .i64 b] w (BoolPost w blk X) := by
  have HS := Lib.hid (St.refl hX)
  have hst := store_float Try.prog
  have HN := Lib.hid hn
  clear hX hn
  go_enter Try.func55, Try.ntmps55
  go_wp2
  go_loopw [7, 8] (fun u v wr => ∃ i k : Nat, u = .int .i64 i ∧ v = .int .i64 k ∧ a < i ∧ i ≤ b ∧ k ≤ 5 ∧ Hid (St w blk X wr)) (fun _ v _ => 5 - (intOf v).toNat)
  case atStart => exact ⟨a + 1, 0, by go_num, rfl, by omega, by omega, by omega, HS⟩
  clear HS
  case round =>
    obtain ⟨i, k, rfl, rfl, hi1, hi2, hk, HS⟩ := hrel
    by_cases hk5 : k < 5
    · have hk5I : (k : Int) < 5 := by omega
      go_upto_block 2 with fail
      go_cut [7] from 13 to 132 (fun u wx => ∃ i2 : Nat, u = .int .i64 i2 ∧ a < i2 ∧ i2 ≤ b ∧ Hid (St w blk X wx))
      case first =>
        go_wp2_with fail
        go_loopw [7] (fun u wr => ∃ i2 : Nat, u = .int .i64 i2 ∧ a < i2 ∧ i2 ≤ b ∧ Hid (St w blk X wr)) (fun u _ => b - (intOf u).toNat)
        case atStart => exact ⟨i, rfl, by omega, by omega, HS⟩
        clear HS
        case round =>
          obtain ⟨i2, rfl, h1, h2, HS⟩ := hrel
          by_cases hij : i2 < b
          · obtain ⟨x, y, ⟨cx, fx⟩, ⟨cy, fy⟩, HQ, HW⟩ := HS.out.pair HN.out (i := i2) (j := i2 - 1) (by omega) (by omega)
            have LS := fun w => less_any x y w
            generalize lessF x y = t at LS
            have d0 : decide (i2 < b) = true := decide_eq_true hij
            have e0 : (0 : Int) ≤ (i2 : Int) := by omega
            have e1 : (i2 : Int) < (n : Int) := by omega
            have e2 : (0 : Int) ≤ (i2 : Int) - 1 := by omega
            have e3 : (i2 : Int) - 1 < (n : Int) := by omega
            have e4 : ((i2 : Int) - 1).toNat = i2 - 1 := by omega
            clear HS HW
            cases t
            · go_wp2_with fail
              go_quiet (first | (go_at_call 56; refine Calls.quiet_of_same (LS _)))
              go_wp2
              go_roundw
              case rel => exact ⟨i2 + 1, by go_num, by omega, by omega, HQ.out nq⟩
              case measure => simp [intOf]; omega
            · go_wp2_with fail
              go_quiet (first | (go_at_call 56; refine Calls.quiet_of_same (LS _)))
              go_wp2
              go_meet
              case rel => exact ⟨i2, rfl, h1, h2, HQ.out nq⟩
          · have d0 : decide (i2 < b) = false := decide_eq_false hij
            go_wp2_with fail
            go_quiet (fail)
            go_wp2
            go_meet
            case rel => exact ⟨i2, rfl, h1, h2, HS.out.drewN nq⟩
      clear HS
      obtain ⟨i2, rfl, h1, h2, HS⟩ := hcut
      by_cases heq : i2 = b
      · have hbq : ((i2 : Int) == (b : Int)) = true := by simp [heq]
        have HEQ := Lib.hid heq
        clear heq
        go_wp2
        go_ret
        exact ⟨true, rfl, HS.out⟩
      · have hbq : ((i2 : Int) == (b : Int)) = false := beq_false_of_ne (by omega)
        have hi2b : i2 < b := by omega
        by_cases h50 : (b : Int) - (a : Int) < 50
        · go_wp2
          go_ret
          exact ⟨false, rfl, HS.out⟩
        · obtain ⟨x, y, ⟨cx, fx⟩, ⟨cy, fy⟩, HQ, HW⟩ := HS.out.pair HN.out (i := i2) (j := i2 - 1) (by omega) (by omega)
          have e0 : (0 : Int) ≤ (i2 : Int) := by omega
          have e1 : (i2 : Int) < (n : Int) := by omega
          have e2 : (0 : Int) ≤ (i2 : Int) - 1 := by omega
          have e3 : (i2 : Int) - 1 < (n : Int) := by omega
          have e4 : ((i2 : Int) - 1).toNat = i2 - 1 := by omega
          clear HS HQ
          go_wp2_with fail
          go_region
          have HS : Hid (St w blk X (((wc.setCell ⟨blk, i2, none⟩ (.float .f64 y)).setCell ⟨blk, i2 - 1, none⟩ (.float .f64 x)).drew)) := HW.out 1
          generalize ((wc.setCell ⟨blk, i2, none⟩ (.float .f64 y)).setCell ⟨blk, i2 - 1, none⟩ (.float .f64 x)).drew = wz at HS ⊢
          clear cx cy fx fy e0 e1 e2 e3 e4 HW heq
          go_upto_if 61 with fail
          go_cut [7] from 13 to 132 (fun u wx => u = .int .i64 i2 ∧ Hid (St w blk X wx))
          case first =>
            by_cases h3 : (2 : Int) ≤ (i2 : Int) - (a : Int)
            · go_wp2_with fail
              go_loopw [9] (fun u wr => ∃ j3 : Nat, u = .int .i64 j3 ∧ j3 < b ∧ Hid (St w blk X wr)) (fun u _ => (intOf u).toNat)
              case atStart => exact ⟨i2 - 1, by go_num, by omega, HS⟩
              clear HS
              case round =>
                obtain ⟨j3, rfl, hj3, HS⟩ := hrel
                by_cases hc : 1 ≤ j3
                · have hcI : (1 : Int) ≤ (j3 : Int) := by omega
                  have hjb : j3 < n := by omega
                  obtain ⟨x, y, ⟨cx, fx⟩, ⟨cy, fy⟩, HQ, HW⟩ := HS.out.pair HN.out (i := j3) (j := j3 - 1) (by omega) (by omega)
                  have LS := fun w => less_any x y w
                  generalize lessF x y = t at LS
                  have e0 : (0 : Int) ≤ (j3 : Int) := by omega
                  have e1 : (j3 : Int) < (n : Int) := by omega
                  have e2 : (0 : Int) ≤ (j3 : Int) - 1 := by omega
                  have e3 : (j3 : Int) - 1 < (n : Int) := by omega
                  have e4 : ((j3 : Int) - 1).toNat = j3 - 1 := by omega
                  clear HS
                  cases t
                  · go_wp2_with fail
                    go_quiet (first | (go_at_call 56; refine Calls.quiet_of_same (LS _)))
                    go_wp2
                    go_meet
                    case rel => exact ⟨rfl, HQ.out nq⟩
                  · go_wp2_with fail
                    go_quiet (first | (go_at_call 56; refine Calls.quiet_of_same (LS _)))
                    clear LS
                    go_wp2_with fail
                    go_region
                    all_goals go_wp2
                    go_roundw
                    case rel => exact ⟨j3 - 1, by go_num, by omega, HW.out (nq + 1)⟩
                    case measure => simp [intOf]; omega
                · have hcI : ¬ (1 : Int) ≤ (j3 : Int) := by omega
                  go_wp2
                  go_meet
                  case rel => exact ⟨rfl, HS⟩
            · go_wp2
              go_meet
              case rel => exact ⟨rfl, HS⟩
          clear HS
          obtain ⟨rfl, HS⟩ := hcut
          have RR : ∀ wz, Hid (St w blk X wz) → ∃ i' k' : Nat, Value.int IntKind.i64 (i2 : Int) = .int .i64 i' ∧ Value.int IntKind.i64 ((k : Int) + 1) = .int .i64 k' ∧ a < i' ∧ i' ≤ b ∧ k' ≤ 5 ∧ Hid (St w blk X wz) := fun wz h => ⟨i2, k + 1, rfl, by go_num, by omega, by omega, by omega, h⟩
          have RRH := Lib.hid RR
          clear RR
          by_cases h3 : (2 : Int) ≤ (b : Int) - (i2 : Int)
          · go_wp2_with fail
            go_loopw [10] (fun u wr => ∃ j3 : Nat, u = .int .i64 j3 ∧ 1 ≤ j3 ∧ j3 ≤ b ∧ Hid (St w blk X wr)) (fun u _ => b - (intOf u).toNat)
            case atStart => exact ⟨i2 + 1, by go_num, by omega, by omega, HS⟩
            clear HS
            case round =>
              obtain ⟨j3, rfl, hj1, hj3, HS⟩ := hrel
              by_cases hc : j3 < b
              · have hcI : (j3 : Int) < (b : Int) := by omega
                skip
                obtain ⟨x, y, ⟨cx, fx⟩, ⟨cy, fy⟩, HQ, HW⟩ := HS.out.pair HN.out (i := j3) (j := j3 - 1) (by omega) (by omega)
                have LS := fun w => less_any x y w
                generalize lessF x y = t at LS
                have e0 : (0 : Int) ≤ (j3 : Int) := by omega
                have e1 : (j3 : Int) < (n : Int) := by omega
                have e2 : (0 : Int) ≤ (j3 : Int) - 1 := by omega
                have e3 : (j3 : Int) - 1 < (n : Int) := by omega
                have e4 : ((j3 : Int) - 1).toNat = j3 - 1 := by omega
                clear HS
                cases t
                · go_wp2_with fail
                  go_quiet (first | (go_at_call 56; refine Calls.quiet_of_same (LS _)))
                  go_wp2
                  go_roundw
                  case rel => exact RRH.out _ (HQ.out nq)
                  case measure => simp [intOf]; omega
                · go_wp2_with fail
                  go_quiet (first | (go_at_call 56; refine Calls.quiet_of_same (LS _)))
                  clear LS
                  go_wp2_with fail
                  go_region
                  all_goals go_wp2
                  go_roundw
                  case rel => exact ⟨j3 + 1, by go_num, by omega, by omega, HW.out (nq + 1)⟩
                  case measure => simp [intOf]; omega
              · have hcI : ¬ (j3 : Int) < (b : Int) := by omega
                go_wp2
                go_roundw
                case rel => exact RRH.out _ HS
                case measure => simp [intOf]; omega
          · go_wp2
            go_roundw
            case rel => exact RRH.out _ HS
            case measure => simp [intOf]; omega
    · have hk5I : ¬ (k : Int) < 5 := by omega
      go_wp2
      go_ret
      exact ⟨false, rfl, HS.out⟩
end Go.Proofs.Ytfnphohdipdmpaa.Rg
