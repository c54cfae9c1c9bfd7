/- A year is a leap year of the package exactly if it is one of the reference, for every whole number of 64 bits; 2000 is one and 1900 is none. -/
import Derived.Test.YtdobgmeibccjnaaPFnLeapx1
namespace Go.Proofs.Ytdobgmeibccjnaa.Pure
open Go.RowKit Go.Proofs.Ytdobgmeibccjnaa.PFnLeap Go.Proofs.YtdobgmeibccjnaaW.PrintWords Go.Proofs.YtdobgmeibccjnaaW.PrintLast

theorem bounds64 {n : Int} (h : (Lit.int .i64 n).wf = true) : -9223372036854775808 ≤ n ∧ n ≤ 9223372036854775807 := by
  simp only [Lit.wf, IntKind.min, IntKind.max, IntKind.signed, IntKind.bits, Bool.and_eq_true, decide_eq_true_eq] at h
  simpa using h

theorem tdiv_cases (a b : Int) : a.tdiv b = if 0 ≤ a then a / b else -((-a) / b) := by
  by_cases h : 0 ≤ a
  · rw [if_pos h, Int.tdiv_eq_ediv_of_nonneg h]
  · rw [if_neg h]
    have e : a = -(-a) := by omega
    rw [e, Int.neg_tdiv, Int.tdiv_eq_ediv_of_nonneg (by omega)]
    simp

theorem leap_code (y : Int) (h : (Lit.int .i64 y).wf = true) :
    excelize_isLeapYear.f y = some (decide (y % 4 = 0 ∧ (y % 100 ≠ 0 ∨ y % 400 = 0))) := by
  have h' := bounds64 h
  unfold excelize_isLeapYear.f
  have e1 : wrap64 (wrap64 (Int.tdiv y 400) * 400) = Int.tdiv y 400 * 400 := by
    rw [tdiv_cases]; unfold wrap64; split <;> omega
  have e2 : wrap64 (wrap64 (Int.tdiv y 100) * 100) = Int.tdiv y 100 * 100 := by
    rw [tdiv_cases]; unfold wrap64; split <;> omega
  have e3 : wrap64 (wrap64 (Int.tdiv y 4) * 4) = Int.tdiv y 4 * 4 := by
    rw [tdiv_cases]; unfold wrap64; split <;> omega
  rw [e1, e2, e3, tdiv_cases, tdiv_cases, tdiv_cases]
  by_cases hp : 0 ≤ y
  · simp only [if_pos hp]
    by_cases a : y = y / 400 * 400
    · rw [if_pos a]; congr 1; symm; rw [decide_eq_true_iff]; omega
    · rw [if_neg a]
      by_cases b : y = y / 100 * 100
      · rw [if_pos b]; congr 1; symm; rw [decide_eq_false_iff_not]; omega
      · rw [if_neg b]; congr 1; rw [Bool.eq_iff_iff, decide_eq_true_iff, beq_iff_eq]; omega
  · simp only [if_neg hp]
    by_cases a : y = -(-y / 400) * 400
    · rw [if_pos a]; congr 1; symm; rw [decide_eq_true_iff]; omega
    · rw [if_neg a]
      by_cases b : y = -(-y / 100) * 100
      · rw [if_pos b]; congr 1; symm; rw [decide_eq_false_iff_not]; omega
      · rw [if_neg b]; congr 1; rw [Bool.eq_iff_iff, decide_eq_true_iff, beq_iff_eq]; omega

theorem tmod_zero (a b : Int) : Int.tmod a b = 0 ↔ a % b = 0 := by
  rw [← Int.dvd_iff_tmod_eq_zero, ← Int.dvd_iff_emod_eq_zero]

theorem leap_spec (y : Int) : spec_DayLeap.f y = some (decide (y % 4 = 0 ∧ (y % 100 ≠ 0 ∨ y % 400 = 0))) := by
  unfold spec_DayLeap.f
  by_cases a : Int.tmod y 4 = 0
  · rw [if_pos a]
    by_cases b : Int.tmod y 100 = 0
    · rw [if_pos b]; congr 1
      rw [Bool.eq_iff_iff, decide_eq_true_iff, beq_iff_eq, tmod_zero]
      rw [tmod_zero] at a b
      omega
    · rw [if_neg b]; congr 1; symm
      rw [decide_eq_true_iff]
      rw [tmod_zero] at a b
      omega
  · rw [if_neg a]; congr 1; symm
    rw [decide_eq_false_iff_not]
    rw [tmod_zero] at a
    omega

/-- The statement of 'FnLeap' over numbers. -/
theorem FnLeap : laws_FnLeap.Pure := by
  intro y h
  have k : ∀ z, (Lit.int .i64 z).wf = true → impl_Leap.f z = some (decide (z % 4 = 0 ∧ (z % 100 ≠ 0 ∨ z % 400 = 0))) := by
    intro z hz
    unfold impl_Leap.f excelize_DoorLeap.f
    rw [leap_code z hz]; rfl
  unfold laws_FnLeap.f
  rw [k y h, leap_spec, k 2000 (by decide), k 1900 (by decide)]
  simp

end Go.Proofs.Ytdobgmeibccjnaa.Pure
