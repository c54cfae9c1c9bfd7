/- The library's heap sort puts the elements in another order. -/
import Derived.Test.YtfnphohdipdmpaaMInsert
namespace Go.Proofs.Ytfnphohdipdmpaa.Rg
open Go.RowKit

set_option maxHeartbeats 3200000 in
set_option maxRecDepth 100000 in
theorem sift_any (blk n cap lo hi first : Nat) (X : List Nat) (w : World) (hX : RowF w blk X) (hn : X.length = n) (hs : n ≤ 1000000) (hb : first + hi ≤ n) (hlo : lo ≤ n) :
    Calls Try.prog 61 #[.slice (some ⟨blk, 0, none⟩) n cap, .int .i64 lo, .int .i64 hi, .int .i64 first] w (StPost w blk X) := by
  have HS := Lib.hid (St.refl hX)
  have hst := store_float Try.prog
  have HN := Lib.hid hn
  clear hX hn
  go_enter Try.func61, Try.ntmps61
  go_wp2
  go_loopw [8] (fun u wr => ∃ r : Nat, u = .int .i64 r ∧ r ≤ n ∧ Hid (St w blk X wr)) (fun u _ => n - (intOf u).toNat)
  case atStart => exact ⟨lo, rfl, hlo, HS⟩
  clear HS
  case round =>
    obtain ⟨r, rfl, hr, HS⟩ := hrel
    obtain ⟨k, hk⟩ : ∃ k : Nat, k = 2 * r + 1 := ⟨_, rfl⟩
    have hki : 2 * (r : Int) + 1 = (k : Int) := by omega
    have HK := Lib.hid hk
    have hrk : r < k := by omega
    have hkn : k ≤ 2000001 := by omega
    clear hk
    by_cases hch : k < hi
    · by_cases hd : k + 1 < hi
      · obtain ⟨m, hm⟩ : ∃ m : Nat, m = k + 1 := ⟨_, rfl⟩
        have hmi : (k : Int) + 1 = (m : Int) := by omega
        have HM := Lib.hid hm
        have hmh : m < hi := by omega
        have hkm : k < m := by omega
        obtain ⟨x, y, ⟨cx, fx⟩, ⟨cy, fy⟩, HQ, HW⟩ := HS.out.pair HN.out (i := first + k) (j := first + m) (by omega) (by omega)
        have LS := fun w => less_any x y w
        generalize lessF x y = t at LS
        have s0 : (0 : Int) ≤ (first : Int) + (k : Int) := by omega
        have s1 : (first : Int) + (k : Int) < (n : Int) := by omega
        have s2 : ((first : Int) + (k : Int)).toNat = first + k := by omega
        have s6 : (first : Int) + (k : Int) + 1 = (first : Int) + (m : Int) := by omega
        have s3 : (0 : Int) ≤ (first : Int) + (m : Int) := by omega
        have s4 : (first : Int) + (m : Int) < (n : Int) := by omega
        have s5 : ((first : Int) + (m : Int)).toNat = first + m := by omega
        have d0 : decide (m < hi) = true := decide_eq_true hmh
        clear hm HS HW hd
        cases t
        · go_wp2_with fail
          go_quiet (first | (go_at_call 56; refine Calls.quiet_of_same (LS _)))
          have HS := Lib.hid (HQ.out nq)
          generalize wr.drewN nq = wr at HS ⊢
          clear LS cx fx cy fy HQ s0 s1 s2 s3 s4 s5 s6 hmi d0
          obtain ⟨x, y, ⟨cx, fx⟩, ⟨cy, fy⟩, HQ, HW⟩ := HS.out.pair HN.out (i := first + r) (j := first + k) (by omega) (by omega)
          have LS := fun w => less_any x y w
          generalize lessF x y = t at LS
          have s0 : (0 : Int) ≤ (first : Int) + (r : Int) := by omega
          have s1 : (first : Int) + (r : Int) < (n : Int) := by omega
          have s2 : ((first : Int) + (r : Int)).toNat = first + r := by omega
          have s3 : (0 : Int) ≤ (first : Int) + (k : Int) := by omega
          have s4 : (first : Int) + (k : Int) < (n : Int) := by omega
          have s5 : ((first : Int) + (k : Int)).toNat = first + k := by omega
          clear HS
          cases t
          · go_wp2_with fail
            go_quiet (first | (go_at_call 56; refine Calls.quiet_of_same (LS _)))
            go_wp2
            go_end0
            exact ⟨rfl, HQ.out nq⟩
          · go_wp2_with fail
            go_quiet (first | (go_at_call 56; refine Calls.quiet_of_same (LS _)))
            clear LS
            go_wp2_with fail
            go_region
            all_goals go_wp2
            go_roundw
            case rel => exact ⟨k, rfl, by omega, HW.out (nq + 1)⟩
            case measure => simp [intOf]; omega
        · go_wp2_with fail
          go_quiet (first | (go_at_call 56; refine Calls.quiet_of_same (LS _)))
          have HS := Lib.hid (HQ.out nq)
          generalize wr.drewN nq = wr at HS ⊢
          clear LS cx fx cy fy HQ s0 s1 s2 s3 s4 s5 s6 d0
          obtain ⟨x, y, ⟨cx, fx⟩, ⟨cy, fy⟩, HQ, HW⟩ := HS.out.pair HN.out (i := first + r) (j := first + m) (by omega) (by omega)
          have LS := fun w => less_any x y w
          generalize lessF x y = t at LS
          have s0 : (0 : Int) ≤ (first : Int) + (r : Int) := by omega
          have s1 : (first : Int) + (r : Int) < (n : Int) := by omega
          have s2 : ((first : Int) + (r : Int)).toNat = first + r := by omega
          have s3 : (0 : Int) ≤ (first : Int) + (m : Int) := by omega
          have s4 : (first : Int) + (m : Int) < (n : Int) := by omega
          have s5 : ((first : Int) + (m : Int)).toNat = first + m := by omega
          clear HS
          cases t
          · go_wp2_with fail
            go_quiet (first | (go_at_call 56; refine Calls.quiet_of_same (LS _)))
            go_wp2
            go_end0
            exact ⟨rfl, HQ.out nq⟩
          · go_wp2_with fail
            go_quiet (first | (go_at_call 56; refine Calls.quiet_of_same (LS _)))
            clear LS
            go_wp2_with fail
            go_region
            all_goals go_wp2
            go_roundw
            case rel => exact ⟨m, rfl, by omega, HW.out (nq + 1)⟩
            case measure => simp [intOf]; omega
      · have d0 : decide (k + 1 < hi) = false := decide_eq_false hd
        have d1 : decide ((k : Int) + 1 < (hi : Int)) = false := decide_eq_false (by omega)
        go_wp2_with fail
        go_quiet (fail)
        have HS := Lib.hid (HS.out.drewN nq)
        generalize wr.drewN nq = wr at HS ⊢
        clear d0 d1
        obtain ⟨x, y, ⟨cx, fx⟩, ⟨cy, fy⟩, HQ, HW⟩ := HS.out.pair HN.out (i := first + r) (j := first + k) (by omega) (by omega)
        have LS := fun w => less_any x y w
        generalize lessF x y = t at LS
        have s0 : (0 : Int) ≤ (first : Int) + (r : Int) := by omega
        have s1 : (first : Int) + (r : Int) < (n : Int) := by omega
        have s2 : ((first : Int) + (r : Int)).toNat = first + r := by omega
        have s3 : (0 : Int) ≤ (first : Int) + (k : Int) := by omega
        have s4 : (first : Int) + (k : Int) < (n : Int) := by omega
        have s5 : ((first : Int) + (k : Int)).toNat = first + k := by omega
        clear HS
        cases t
        · go_wp2_with fail
          go_quiet (first | (go_at_call 56; refine Calls.quiet_of_same (LS _)))
          go_wp2
          go_end0
          exact ⟨rfl, HQ.out nq⟩
        · go_wp2_with fail
          go_quiet (first | (go_at_call 56; refine Calls.quiet_of_same (LS _)))
          clear LS
          go_wp2_with fail
          go_region
          all_goals go_wp2
          go_roundw
          case rel => exact ⟨k, rfl, by omega, HW.out (nq + 1)⟩
          case measure => simp [intOf]; omega
    · have hge : ¬ (k : Int) < (hi : Int) := by omega
      go_wp2
      go_end0
      exact ⟨rfl, HS.out⟩

set_option maxHeartbeats 3200000 in
set_option maxRecDepth 100000 in
theorem heap_any (blk n cap a b : Nat) (X : List Nat) (w : World) (hX : RowF w blk X) (hn : X.length = n) (hs : n ≤ 1000000) (hb : b ≤ n) (hab : a < b) :
    Calls Try.prog 51 #[.slice (some ⟨blk, 0, none⟩) n cap, .int .i64 a, .int .i64 b] w (StPost w blk X) := by
  have HS := Lib.hid (St.refl hX)
  have hst := store_float Try.prog
  have HN := Lib.hid hn
  obtain ⟨h, hh⟩ : ∃ h : Nat, h = b - a := ⟨_, rfl⟩
  have hhi : (b : Int) - (a : Int) = (h : Int) := by omega
  have hah : a + h ≤ n := by omega
  have hh1 : 1 ≤ h := by omega
  clear hX hn hh
  go_enter Try.func51, Try.ntmps51
  go_wp2
  go_loopw [9] (fun u wr => ∃ i : Nat, u = .int .i64 ((i : Int) - 1) ∧ i ≤ h ∧ Hid (St w blk X wr)) (fun u _ => (intOf u + 1).toNat)
  case atStart =>
    refine ⟨(h - 1) / 2 + 1, ?_, by omega, HS⟩
    go_num
  clear HS
  case round =>
    obtain ⟨i, rfl, hi, HS⟩ := hrel
    by_cases h0 : 1 ≤ i
    · obtain ⟨k, hk⟩ : ∃ k : Nat, i = k + 1 := ⟨i - 1, by omega⟩
      have hki : (i : Int) - 1 = (k : Int) := by omega
      obtain ⟨X1, hr1, hl1, HC⟩ := HS.out.call HN.out
      have SF := Lib.hid (sift_any blk n cap k h a X1 wr hr1 hl1 hs (by omega) (by omega))
      have g0 : (0 : Int) ≤ (k : Int) := by omega
      clear hr1 hl1 HS
      go_wp2_with fail
      refine SF.out.mono ?_
      rintro e w1 ⟨rfl, hst1⟩
      have HS := Lib.hid (HC.out w1 hst1)
      clear SF hst1 HC
      go_wp2
      go_roundw
      case rel => exact ⟨k, by go_num, by omega, HS⟩
      case measure => simp [intOf]; omega
    · obtain ⟨z, hz⟩ : ∃ z : Int, (i : Int) - 1 = z := ⟨_, rfl⟩
      rw [hz]
      have hzn : ¬ (0 : Int) ≤ z := by omega
      clear hz h0
      go_wp2
      go_loopw [10] (fun u wr => ∃ i : Nat, u = .int .i64 ((i : Int) - 1) ∧ i ≤ h ∧ Hid (St w blk X wr)) (fun u _ => (intOf u + 1).toNat)
      case atStart => exact ⟨h, by go_num, by omega, HS⟩
      clear HS
      case round =>
        obtain ⟨i, rfl, hi, HS⟩ := hrel
        by_cases h0 : 1 ≤ i
        · obtain ⟨k, hk⟩ : ∃ k : Nat, i = k + 1 := ⟨i - 1, by omega⟩
          have hki : (i : Int) - 1 = (k : Int) := by omega
          obtain ⟨x, y, ⟨cx, fx⟩, ⟨cy, fy⟩, HQ, HW⟩ := HS.out.pair HN.out (i := a) (j := a + k) (by omega) (by omega)
          have g0 : (0 : Int) ≤ (k : Int) := by omega
          have s0 : (0 : Int) ≤ (a : Int) := by omega
          have s1 : (a : Int) < (n : Int) := by omega
          have s3 : (0 : Int) ≤ (a : Int) + (k : Int) := by omega
          have s4 : (a : Int) + (k : Int) < (n : Int) := by omega
          have s5 : ((a : Int) + (k : Int)).toNat = a + k := by omega
          have o1 := cell_over (i := a) cy
          have o2 := cell_over (i := a + k) cx
          clear HS HQ
          go_wp2_with fail
          go_region
          have HS := Lib.hid (HW.out 1)
          clear cx cy fx fy s0 s1 s3 s4 s5 o1 o2 HW
          obtain ⟨X1, hr1, hl1, HC⟩ := HS.out.call HN.out
          have SF := Lib.hid (sift_any blk n cap 0 k a X1 _ hr1 hl1 hs (by omega) (by omega))
          clear hr1 hl1 HS
          go_wp2_with fail
          refine SF.out.mono ?_
          rintro e w1 ⟨rfl, hst1⟩
          have HS := Lib.hid (HC.out w1 hst1)
          clear SF hst1 HC
          go_wp2
          go_roundw
          case rel => exact ⟨k, by go_num, by omega, HS⟩
          case measure => simp [intOf]; omega
        · obtain rfl : i = 0 := by omega
          go_wp2
          go_end0
          exact ⟨rfl, HS.out⟩
end Go.Proofs.Ytfnphohdipdmpaa.Rg
