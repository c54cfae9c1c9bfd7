/- A year of two digits is in the years from 1930 to 2029, and a year from 1900 to 9999 is itself, for every whole number of 64 bits (made one from 0 to 9999). -/
import Derived.Test.YtdobgmeibccjnaaPFnYearx1
namespace Go.Proofs.Ytdobgmeibccjnaa.Pure
open Go.RowKit Go.Proofs.Ytdobgmeibccjnaa.PFnYear Go.Proofs.YtdobgmeibccjnaaW.PrintWords Go.Proofs.YtdobgmeibccjnaaW.PrintLast

theorem small_year (y : Int) : ∃ z, laws_combSmall.f y 9999 = some z ∧ 0 ≤ z ∧ z ≤ 9999 := by
  have hp : wrap64 (9999 + 1) = 10000 := by unfold wrap64; omega
  have h1 : -10000 < Int.tmod y 10000 := by
    have := Int.lt_tmod_of_pos y (show (0 : Int) < 10000 by omega)
    simpa using this
  have h2 : Int.tmod y 10000 < 10000 := Int.tmod_lt_of_pos y (by omega)
  unfold laws_combSmall.f
  simp only [hp]
  rw [if_neg (by omega)]
  generalize Int.tmod y 10000 = r at h1 h2
  have e : wrap64 (wrap64 (r + 9999) + 1) = r + 10000 := by unfold wrap64; omega
  rw [e]
  refine ⟨_, rfl, ?_, ?_⟩
  · exact Int.tmod_nonneg _ (by omega)
  · have := Int.tmod_lt_of_pos (r + 10000) (show (0 : Int) < 10000 by omega)
    omega

theorem year_code (y : Int) (h0 : 0 ≤ y) (h1 : y ≤ 9999) : impl_Year.f y = some (if y < 1900 then (if y < 30 then y + 2000 else y + 1900) else y) := by
  have e1 : wrap64 (y + 2000) = y + 2000 := by unfold wrap64; omega
  have e2 : wrap64 (y + 1900) = y + 1900 := by unfold wrap64; omega
  unfold impl_Year.f excelize_DoorYear.f excelize_formatYear.f
  rw [e1, e2]
  by_cases a : y < 1900
  · rw [if_pos a, if_pos a]
    by_cases b : y < 30
    · rw [if_pos b, if_pos b]; rfl
    · rw [if_neg b, if_neg b]; rfl
  · rw [if_neg a, if_neg a]; rfl

/-- The statement of 'FnYear' over numbers. -/
theorem FnYear : laws_FnYear.Pure := by
  intro y _
  obtain ⟨z, hz, z0, z1⟩ := small_year y
  have h5 : impl_Year.f 5 = some 2005 := by rw [year_code 5 (by omega) (by omega)]; rfl
  have e1 : wrap64 (2000 + z) = 2000 + z := by unfold wrap64; omega
  have e2 : wrap64 (1900 + z) = 1900 + z := by unfold wrap64; omega
  unfold laws_FnYear.f
  rw [hz]
  simp only [Option.bind_some]
  rw [h5, year_code z z0 z1, e1, e2]
  simp only [Option.bind_some]
  by_cases a : z < 30
  · rw [if_pos a, if_pos a, if_pos (by omega)]
    congr 1
    rw [beq_iff_eq]
    omega
  · rw [if_neg a]
    by_cases b : z < 100
    · rw [if_pos b, if_neg a, if_pos (by omega)]
      congr 1
      rw [beq_iff_eq]
      omega
    · rw [if_neg b]
      by_cases c : z < 1900
      · rw [if_pos c]; rfl
      · rw [if_neg c, if_neg c, if_pos rfl]; rfl

end Go.Proofs.Ytdobgmeibccjnaa.Pure
