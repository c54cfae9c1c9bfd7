/- The doors to the range's four numbers, the laws' own range that must be read, and a number made one from 1 to a limit. -/
import Derived.Test.YtokooampmhcfeaaGreatDoorRRange
import Derived.BigQuiet
namespace Go.Proofs.YtokooampmhcfeaaGreatDoor.Rg
open Go.RowKit

/-- What a door to a row of four gives. -/
def FourYes (w0 : World) (p q r s : Int) (e : Ending) (w : World) : Prop :=
  ∃ b, e = .returned (.tuple #[.slice (some ⟨b, 0, none⟩) 4 4, .bool true]) ∧ Four w0 w b p q r s

set_option maxHeartbeats 1000000 in
theorem door_range (t : ByteArray) (p q x y : Int) (w : World) (h : IsRange t p q x y) :
    Calls Tryz.prog 30 #[.string t] w fun e w' => FourYes w p q x y e w' := by
  go_enter Tryz.func30, Tryz.ntmps30
  go_wp2_with fail
  refine (range_any t p q x y _ h).mono ?_
  rintro e w1 ⟨b, rfl, hF⟩
  go_wp2_with fail
  go_quiet (fail)
  go_wp2
  go_ret2
  exact ⟨b, rfl, hF.later (by constructor <;> first | rfl | exact Nat.le_refl _ | (intros; rfl))⟩

set_option maxHeartbeats 1000000 in
theorem impl_range (t : ByteArray) (p q x y : Int) (w : World) (h : IsRange t p q x y) :
    Calls Tryz.prog 22 #[.string t] w fun e w' => FourYes w p q x y e w' := by
  go_enter Tryz.func22, Tryz.ntmps22
  go_wp2_with fail
  refine (door_range t p q x y _ h).mono ?_
  rintro e w1 ⟨b, rfl, hF⟩
  go_wp2
  go_ret2
  exact ⟨b, rfl, hF⟩

theorem cell_b2 : IsCell ⟨[66, 50].toArray⟩ 1 2 2 := by
  refine ⟨⟨by decide, by decide, by decide, ?_, ?_⟩, by decide, by rfl, by decide, by kernel_rfl, by decide, by decide, by decide⟩
  · intro k h hk
    obtain rfl : k = 0 := by omega
    clear hk
    revert h
    unfold Up
    decide
  · intro k h hk
    have h' : k < 2 := h
    obtain rfl : k = 1 := by omega
    clear h' hk
    revert h
    unfold Dig
    decide
theorem cell_c5 : IsCell ⟨[67, 53].toArray⟩ 1 3 5 := by
  refine ⟨⟨by decide, by decide, by decide, ?_, ?_⟩, by decide, by rfl, by decide, by kernel_rfl, by decide, by decide, by decide⟩
  · intro k h hk
    obtain rfl : k = 0 := by omega
    clear hk
    revert h
    unfold Up
    decide
  · intro k h hk
    have h' : k < 2 := h
    obtain rfl : k = 1 := by omega
    clear h' hk
    revert h
    unfold Dig
    decide
theorem range_lives : IsRange ⟨#[66, 50, 58, 67, 53]⟩ 2 2 3 5 := ⟨[66, 50], [67, 53], 1, 1, by decide, cell_b2, cell_c5, by decide⟩

set_option maxHeartbeats 1000000 in
theorem lives_any (w : World) : Calls Tryz.prog 10 #[] w fun e w' => e = .returned (.bool true) ∧ Below w.heap.size w w' := by
  go_enter Tryz.func10, Tryz.ntmps10
  go_wp2_with fail
  refine (impl_range _ 2 2 3 5 _ range_lives).mono ?_
  rintro e w1 ⟨b, rfl, hF⟩
  have c0 := hF.c0
  have c1 := hF.c1
  have c2 := hF.c2
  have c3 := hF.c3
  have hb := hF.below
  clear hF
  go_wp2
  go_ret
  exact ⟨rfl, hb⟩

/-- A number made one from 1 to a limit. -/
def gn (n most : Int) : Int := n % most + 1

theorem gn_range (n most : Int) (h : 1 ≤ most) : 1 ≤ gn n most ∧ gn n most ≤ most := by
  unfold gn
  have h1 := Int.emod_nonneg n (show most ≠ 0 by omega)
  have h2 := Int.emod_lt_of_pos n (show 0 < most by omega)
  omega

theorem gn_pos (n most : Int) (h0 : 0 ≤ n.tmod most) : gn n most = n.tmod most + 1 := by
  unfold gn
  congr 1
  rw [Int.emod_eq_tmod]
  by_cases hn : 0 ≤ n
  · simp [hn]
  · have hd : most ∣ n := by
      rw [Int.dvd_iff_tmod_eq_zero]
      have := Int.tmod_nonneg most (show 0 ≤ -n by omega)
      rw [Int.neg_tmod] at this
      omega
    simp [hd]
theorem gn_neg (n most : Int) (h : 1 ≤ most) (h0 : n.tmod most < 0) : gn n most = n.tmod most + most + 1 := by
  unfold gn
  congr 1
  rw [Int.emod_eq_tmod]
  have hn : ¬ 0 ≤ n := fun hn => by
    have := Int.tmod_nonneg most hn
    omega
  have hd : ¬ most ∣ n := fun hd => by
    have := Int.tmod_eq_zero_of_dvd hd
    omega
  simp [hn, hd]
  omega

set_option maxHeartbeats 400000 in
theorem grid_any (n most : Int) (w : World) (h1 : 1 ≤ most) (h2 : most ≤ 2000000) :
    Calls Tryz.prog 11 #[.int .i64 n, .int .i64 most] w fun e w' => e = .returned (.int .i64 (gn n most)) ∧ w = w' := by
  have t1 := Int.lt_tmod_of_pos n (show 0 < most by omega)
  have t2 := Int.tmod_lt_of_pos n (show 0 < most by omega)
  have h0 : (most == 0) = false := by simp; omega
  by_cases hs : n.tmod most < 0
  · have HG := Lib.hid (gn_neg n most h1 hs)
    go_enter Tryz.func11, Tryz.ntmps11
    go_wp2
    go_ret
    exact ⟨by rw [HG.out]; rfl, rfl⟩
  · have HG := Lib.hid (gn_pos n most (by omega))
    go_enter Tryz.func11, Tryz.ntmps11
    go_wp2
    go_ret
    exact ⟨by rw [HG.out]; rfl, rfl⟩
end Go.Proofs.YtokooampmhcfeaaGreatDoor.Rg
