/- The package's date of a Julian day number is the date that the reference counts, for each of the 110001 days from January 1, 2000 on. -/
import Derived.Test.YtdobgmeibccjnaaPFnJulianx1
namespace Go.Proofs.Ytdobgmeibccjnaa.Pure
open Go.RowKit Go.Proofs.Ytdobgmeibccjnaa.PFnJulian Go.Proofs.YtdobgmeibccjnaaW.PrintWords Go.Proofs.YtdobgmeibccjnaaW.PrintLast

def Sy (y : Int) : Int := 365*(y-2000) + (y-1997)/4 - (y-1901)/100 + (y-1601)/400
def lp (y : Int) : Int := if y % 4 = 0 ∧ (y % 100 ≠ 0 ∨ y % 400 = 0) then 1 else 0
def cum (y m : Int) : Int := if m = 1 then 0 else if m = 2 then 31 else lp y + (if m = 3 then 59 else if m = 4 then 90 else if m = 5 then 120 else if m = 6 then 151 else if m = 7 then 181 else if m = 8 then 212 else if m = 9 then 243 else if m = 10 then 273 else if m = 11 then 304 else 334)
def dim (y m : Int) : Int := if m = 2 then 28 + lp y else if m = 4 ∨ m = 6 ∨ m = 9 ∨ m = 11 then 30 else 31

theorem lp_01 (y : Int) : lp y = 0 ∨ lp y = 1 := by unfold lp; split <;> simp


theorem dayTable : ∀ a : Fin 5, ∀ b : Fin 100,
    (146097 * (68 + (a.val : Int)) + 3) / 4 - 2520114 + 1461 * (b.val : Int) / 4 = Sy (100 * (68 + (a.val : Int) - 49) + b.val) + 59 + lp (100 * (68 + (a.val : Int) - 49) + b.val) ∧
    Sy (100 * (68 + (a.val : Int) - 49) + b.val + 1) = Sy (100 * (68 + (a.val : Int) - 49) + b.val) + 365 + lp (100 * (68 + (a.val : Int) - 49) + b.val) ∧
    min ((146097 * (68 + (a.val : Int) + 1) + 3) / 4 - (146097 * (68 + (a.val : Int)) + 3) / 4 - 1) ((1461001 * ((b.val : Int) + 1) - 1) / 4000 - 1) < 1461 * (b.val : Int) / 4 + 365 + lp (100 * (68 + (a.val : Int) - 49) + b.val + 1) := by
  decide +kernel

theorem dayFacts (n i : Int) (hn1 : 68 ≤ n) (hn2 : n ≤ 72) (hi0 : 0 ≤ i) (hi1 : i ≤ 99) :
    (146097 * n + 3) / 4 - 2520114 + 1461 * i / 4 = Sy (100 * (n - 49) + i) + 59 + lp (100 * (n - 49) + i) ∧
    Sy (100 * (n - 49) + i + 1) = Sy (100 * (n - 49) + i) + 365 + lp (100 * (n - 49) + i) ∧
    min ((146097 * (n + 1) + 3) / 4 - (146097 * n + 3) / 4 - 1) ((1461001 * (i + 1) - 1) / 4000 - 1) < 1461 * i / 4 + 365 + lp (100 * (n - 49) + i + 1) := by
  have h := dayTable ⟨(n - 68).toNat, by omega⟩ ⟨i.toNat, by omega⟩
  have e1 : (68 : Int) + (((n - 68).toNat : Nat) : Int) = n := by omega
  have e2 : ((i.toNat : Nat) : Int) = i := by omega
  simp only [e1, e2] at h
  exact h

theorem alg (t : Int) (h0 : 0 ≤ t) (h1 : t ≤ 110000) (n L1 i L2 j d l : Int)
  (hn : n = 4 * (t + 2520114) / 146097) (hL1 : L1 = t + 2520114 - (146097 * n + 3) / 4)
  (hi : i = 4000 * (L1 + 1) / 1461001) (hL2 : L2 = L1 - 1461 * i / 4 + 31) (hj : j = 80 * L2 / 2447) (hd : d = L2 - 2447 * j / 80) (hl : l = j / 11) :
  2000 ≤ 100 * (n - 49) + i + l ∧ 1 ≤ j + 2 - 12 * l ∧ j + 2 - 12 * l ≤ 12 ∧ 1 ≤ d ∧ d ≤ dim (100 * (n - 49) + i + l) (j + 2 - 12 * l) ∧
    t = Sy (100 * (n - 49) + i + l) + cum (100 * (n - 49) + i + l) (j + 2 - 12 * l) + d - 1 := by
  have hn1 : 68 ≤ n := by omega
  have hn2 : n ≤ 72 := by omega
  have hj1 : 0 ≤ L1 := by omega
  have hj2 : L1 ≤ 36524 := by omega
  have hi0 : 0 ≤ i := by omega
  have hi1 : i ≤ 99 := by omega
  have hL0 : 31 ≤ L2 := by omega
  have hL3 : L2 ≤ 396 := by omega
  have hjl : 1 ≤ j := by omega
  have hjh : j ≤ 12 := by omega
  have hY : 2000 ≤ 100 * (n - 49) + i + l := by
    by_cases e : n = 68
    · subst e
      have e1 : i = 99 := by omega
      subst e1
      omega
    · omega
  have hc1 : L1 ≤ (146097 * (n + 1) + 3) / 4 - (146097 * n + 3) / 4 - 1 := by omega
  have hc2 : L1 ≤ (1461001 * (i + 1) - 1) / 4000 - 1 := by omega
  obtain ⟨f1, f2, f3⟩ := dayFacts n i hn1 hn2 hi0 hi1
  have hlo : Sy (100 * (n - 49) + i) + 59 + lp (100 * (n - 49) + i) + L2 = t + 31 := by omega
  have hhi : L2 < 396 + lp (100 * (n - 49) + i + 1) := by omega
  clear hn hL1 hi hL2 hn1 hn2 hj1 hj2 hi0 hi1 hc1 hc2 f1 f3
  refine ⟨hY, ?_⟩
  clear hY
  generalize 100 * (n - 49) + i = Y at *
  have hlp := lp_01 Y
  have hlp1 := lp_01 (Y + 1)
  have hjc : j = 1 ∨ j = 2 ∨ j = 3 ∨ j = 4 ∨ j = 5 ∨ j = 6 ∨ j = 7 ∨ j = 8 ∨ j = 9 ∨ j = 10 ∨ j = 11 ∨ j = 12 := by omega
  rcases hjc with rfl | rfl | rfl | rfl | rfl | rfl | rfl | rfl | rfl | rfl | rfl | rfl
  iterate 10
    · have e : l = 0 := by omega
      subst e
      simp only [cum, dim, Int.add_zero]
      simp
      omega
  iterate 2
    · have e : l = 1 := by omega
      subst e
      simp only [cum, dim]
      simp
      omega

theorem tmod_zero' (a b : Int) : Int.tmod a b = 0 ↔ a % b = 0 := by
  rw [← Int.dvd_iff_tmod_eq_zero, ← Int.dvd_iff_emod_eq_zero]

theorem leap_spec' (y : Int) : spec_DayLeap.f y = some (decide (lp y = 1)) := by
  have e : (lp y = 1) ↔ (y % 4 = 0 ∧ (y % 100 ≠ 0 ∨ y % 400 = 0)) := by unfold lp; split <;> simp_all
  unfold spec_DayLeap.f
  by_cases a : Int.tmod y 4 = 0
  · rw [if_pos a]
    by_cases b : Int.tmod y 100 = 0
    · rw [if_pos b]; congr 1
      rw [Bool.eq_iff_iff, decide_eq_true_iff, beq_iff_eq, tmod_zero', e]
      rw [tmod_zero'] at a b
      omega
    · rw [if_neg b]; congr 1; symm
      rw [decide_eq_true_iff, e]
      rw [tmod_zero'] at a b
      omega
  · rw [if_neg a]; congr 1; symm
    rw [decide_eq_false_iff_not, e]
    rw [tmod_zero'] at a
    omega

theorem count_spec (k : Nat) (y m : Int) (h1 : 1 ≤ m) (h2 : m ≤ 12) : spec_DayCount.f (k + 2) y m = some (dim y m) := by
  have hlp := lp_01 y
  unfold spec_DayCount.f
  rw [if_neg (by omega), decide_eq_false (by omega)]
  simp only [spec_DayCount.j0]
  rw [if_neg (by simp)]
  by_cases e : m = 2
  · subst e
    rw [if_pos rfl, leap_spec']
    simp only [Option.bind_some, spec_DayCount.j1, dim]
    rcases hlp with h | h <;> simp [h]
  · rw [if_neg e]
    simp only [spec_DayCount.j1]
    rw [if_neg (by simp), if_neg e]
    unfold dim
    rw [if_neg e]
    by_cases a : m = 4
    · rw [if_pos a, if_pos (by omega)]
    · rw [if_neg a]
      by_cases b : m = 6
      · rw [if_pos b, if_pos (by omega)]
      · rw [if_neg b]
        by_cases c : m = 9
        · rw [if_pos c, if_pos (by omega)]
        · rw [if_neg c]
          by_cases d : m = 11
          · rw [if_pos d, if_pos (by omega)]
          · rw [if_neg d, if_neg (by omega)]

theorem month_cases {m : Int} (h1 : 1 ≤ m) (h2 : m ≤ 12) : m = 1 ∨ m = 2 ∨ m = 3 ∨ m = 4 ∨ m = 5 ∨ m = 6 ∨ m = 7 ∨ m = 8 ∨ m = 9 ∨ m = 10 ∨ m = 11 ∨ m = 12 := by omega

theorem cum_step (y m : Int) (h1 : 1 ≤ m) (h2 : m ≤ 11) : cum y (m + 1) = cum y m + dim y m := by
  rcases month_cases h1 (by omega) with rfl | rfl | rfl | rfl | rfl | rfl | rfl | rfl | rfl | rfl | rfl | rfl <;> simp only [cum, dim] <;> simp <;> omega

theorem dim_pos (y m : Int) : 28 ≤ dim y m ∧ dim y m ≤ 31 := by
  have hlp := lp_01 y
  unfold dim
  split
  · omega
  · split <;> omega

theorem cum_mono (y m : Int) (n : Nat) : 1 ≤ m → m + n ≤ 12 → cum y m ≤ cum y (m + n) := by
  induction n with
  | zero => intro _ _; simp
  | succ n ih =>
    intro h1 h2
    have h3 := ih h1 (by omega)
    have h4 := cum_step y (m + n) (by omega) (by omega)
    have h5 := dim_pos y (m + n)
    have e : m + ((n + 1 : Nat) : Int) = m + n + 1 := by omega
    rw [e]
    omega

theorem cum_le (y m : Int) (h1 : 1 ≤ m) (h2 : m ≤ 12) : 0 ≤ cum y m ∧ cum y m ≤ 335 := by
  have hlp := lp_01 y
  rcases month_cases h1 h2 with rfl | rfl | rfl | rfl | rfl | rfl | rfl | rfl | rfl | rfl | rfl | rfl <;> simp only [cum] <;> simp <;> omega

/-- The loop over the months. -/
theorem months (y d m : Int) (hd1 : 1 ≤ d) (hd2 : d ≤ dim y m) (hm : m ≤ 12) (n : Nat) : ∀ (k : Nat) (m0 : Int), 1 ≤ m0 → m0 + n = m → n + 3 ≤ k → spec_DayOf.l1 k (cum y m - cum y m0 + d - 1) y m0 = some (d, m, y) := by
  induction n with
  | zero =>
    intro k m0 h1 h2 h3
    obtain ⟨k, rfl⟩ : ∃ k', k = k' + 3 := ⟨k - 3, by omega⟩
    obtain rfl : m0 = m := by omega
    have hdm := dim_pos y m0
    simp only [spec_DayOf.l1, count_spec k y m0 h1 hm, Option.bind_some]
    rw [if_neg (by omega)]
    have e : wrap64 (cum y m0 - cum y m0 + d - 1 + 1) = d := by unfold wrap64; omega
    rw [e]
  | succ n ih =>
    intro k m0 h1 h2 h3
    obtain ⟨k, rfl⟩ : ∃ k', k = k' + 3 := ⟨k - 3, by omega⟩
    have hs := cum_step y m0 h1 (by omega)
    have hmo := cum_mono y (m0 + 1) n (by omega) (by omega)
    have e0 : m0 + 1 + (n : Int) = m := by omega
    rw [e0] at hmo
    have hb := cum_le y m (by omega) hm
    have hb0 := cum_le y m0 (by omega) (by omega)
    have hdm := dim_pos y m0
    have hdm' := dim_pos y m
    simp only [spec_DayOf.l1, count_spec k y m0 h1 (by omega), Option.bind_some]
    rw [if_pos (by omega)]
    have e1 : wrap64 (cum y m - cum y m0 + d - 1 - dim y m0) = cum y m - cum y (m0 + 1) + d - 1 := by unfold wrap64; omega
    have e2 : wrap64 (m0 + 1) = m0 + 1 := by unfold wrap64; omega
    rw [e1, e2]
    exact ih (k + 2) (m0 + 1) (by omega) (by omega) (by omega)

theorem Sy_step (y : Int) : Sy (y + 1) = Sy y + 365 + lp y := by
  unfold Sy lp
  split <;> omega

theorem Sy_mono (y : Int) (n : Nat) : Sy y + 365 * n ≤ Sy (y + n) := by
  induction n with
  | zero => simp
  | succ n ih =>
    have h4 := Sy_step (y + n)
    have h5 := lp_01 (y + n)
    have e : y + ((n + 1 : Nat) : Int) = y + n + 1 := by omega
    rw [e]
    omega

/-- The loop over the years. -/
theorem years (y d m : Int) (hd1 : 1 ≤ d) (hd2 : d ≤ dim y m) (hm1 : 1 ≤ m) (hm : m ≤ 12) (hb : Sy y ≤ 200000) (hy2 : y ≤ 5000) (n : Nat) : ∀ (k : Nat) (y0 : Int), 2000 ≤ y0 → y0 + n = y → n + 20 ≤ k →
    spec_DayOf.l0 k (Sy y - Sy y0 + cum y m + d - 1) y0 1 = some (d, m, y) := by
  have hc := cum_le y m hm1 hm
  have hdm := dim_pos y m
  have htop : cum y m + d ≤ 365 + lp y := by
    by_cases e : m = 12
    · subst e
      have : cum y 12 = lp y + 334 := by simp [cum]
      have : dim y 12 = 31 := by simp [dim]
      omega
    · have h1 := cum_step y m hm1 (by omega)
      obtain ⟨q, hq⟩ : ∃ q : Nat, m + 1 + q = 12 := ⟨(11 - m).toNat, by omega⟩
      have h2 := cum_mono y (m + 1) q (by omega) (by omega)
      rw [hq] at h2
      have : cum y 12 = lp y + 334 := by simp [cum]
      omega
  have hlp := lp_01 y
  induction n with
  | zero =>
    intro k y0 h1 h2 h3
    obtain ⟨k, rfl⟩ : ∃ k', k = k' + 2 := ⟨k - 2, by omega⟩
    obtain rfl : y0 = y := by omega
    have hmm := months y0 d m hd1 hd2 hm (m - 1).toNat k 1 (by omega) (by omega) (by omega)
    have e : cum y0 m - cum y0 1 + d - 1 = Sy y0 - Sy y0 + cum y0 m + d - 1 := by
      have : cum y0 1 = 0 := by simp [cum]
      omega
    rw [e] at hmm
    simp only [spec_DayOf.l0, leap_spec', Option.bind_some, decide_eq_true_eq]
    by_cases a : lp y0 = 1
    · rw [if_pos a, if_pos (by omega)]
      simp only [spec_DayOf.j1]
      exact hmm
    · rw [if_neg a, if_pos (by omega)]
      simp only [spec_DayOf.j1]
      exact hmm
  | succ n ih =>
    intro k y0 h1 h2 h3
    obtain ⟨k, rfl⟩ : ∃ k', k = k' + 1 := ⟨k - 1, by omega⟩
    have hs := Sy_step y0
    have hmo := Sy_mono (y0 + 1) n
    have e0 : y0 + 1 + (n : Int) = y := by omega
    rw [e0] at hmo
    have h0 : 0 ≤ Sy y0 := by
      have := Sy_mono 2000 (y0 - 2000).toNat
      have e : (2000 : Int) + (((y0 - 2000).toNat : Nat) : Int) = y0 := by omega
      rw [e] at this
      have : Sy 2000 = 0 := by decide
      omega
    have hl0 := lp_01 y0
    simp only [spec_DayOf.l0, leap_spec', Option.bind_some, decide_eq_true_eq]
    have e2 : wrap64 (y0 + 1) = y0 + 1 := by unfold wrap64; omega
    have hi := ih k (y0 + 1) (by omega) (by omega) (by omega)
    by_cases a : lp y0 = 1
    · rw [if_pos a, if_neg (by omega)]
      have e1 : wrap64 (Sy y - Sy y0 + cum y m + d - 1 - 366) = Sy y - Sy (y0 + 1) + cum y m + d - 1 := by unfold wrap64; omega
      rw [e1, e2]
      exact hi
    · rw [if_neg a, if_neg (by omega)]
      have e1 : wrap64 (Sy y - Sy y0 + cum y m + d - 1 - 365) = Sy y - Sy (y0 + 1) + cum y m + d - 1 := by unfold wrap64; omega
      rw [e1, e2]
      exact hi

theorem div_nn {a b : Int} (h : 0 ≤ a) : Int.tdiv a b = a / b := Int.tdiv_eq_ediv_of_nonneg h
theorem w_in {x : Int} (h1 : -9223372036854775808 ≤ x) (h2 : x ≤ 9223372036854775807) : wrap64 x = x := by unfold wrap64; omega

/-- What the package computes. -/
theorem julian_code (t : Int) (h0 : 0 ≤ t) (h1 : t ≤ 110000) (n L1 i L2 j d l : Int)
  (hn : n = 4 * (t + 2520114) / 146097) (hL1 : L1 = t + 2520114 - (146097 * n + 3) / 4)
  (hi : i = 4000 * (L1 + 1) / 1461001) (hL2 : L2 = L1 - 1461 * i / 4 + 31) (hj : j = 80 * L2 / 2447) (hd : d = L2 - 2447 * j / 80) (hl : l = j / 11) :
    excelize_doTheFliegelAndVanFlandernAlgorithm.f (2451545 + t) = some (d, j + 2 - 12 * l, 100 * (n - 49) + i + l) := by
  have hn1 : 68 ≤ n := by omega
  have hn2 : n ≤ 72 := by omega
  have hj1 : 0 ≤ L1 := by omega
  have hj2 : L1 ≤ 36524 := by omega
  have hi0 : 0 ≤ i := by omega
  have hi1 : i ≤ 99 := by omega
  have hL0 : 31 ≤ L2 := by omega
  have hL3 : L2 ≤ 396 := by omega
  have hjl : 1 ≤ j := by omega
  have hjh : j ≤ 12 := by omega
  have hl0 : 0 ≤ l := by omega
  have hl1 : l ≤ 1 := by omega
  have hd0 : -1000 ≤ d := by omega
  have hd1 : d ≤ 1000 := by omega
  have s1 : wrap64 (2451545 + t + 68569) = t + 2520114 := by rw [w_in (by omega) (by omega)]; omega
  have s2 : wrap64 (4 * (t + 2520114)) = 4 * (t + 2520114) := w_in (by omega) (by omega)
  have s3 : wrap64 (Int.tdiv (4 * (t + 2520114)) 146097) = n := by rw [div_nn (by omega), w_in (by omega) (by omega), hn]
  have s4 : wrap64 (146097 * n) = 146097 * n := w_in (by omega) (by omega)
  have s5 : wrap64 (146097 * n + 3) = 146097 * n + 3 := w_in (by omega) (by omega)
  have s6 : wrap64 (Int.tdiv (146097 * n + 3) 4) = (146097 * n + 3) / 4 := by rw [div_nn (by omega), w_in (by omega) (by omega)]
  have s7 : wrap64 (t + 2520114 - (146097 * n + 3) / 4) = L1 := by rw [w_in (by omega) (by omega), hL1]
  have s8 : wrap64 (L1 + 1) = L1 + 1 := w_in (by omega) (by omega)
  have s9 : wrap64 (4000 * (L1 + 1)) = 4000 * (L1 + 1) := w_in (by omega) (by omega)
  have s10 : wrap64 (Int.tdiv (4000 * (L1 + 1)) 1461001) = i := by rw [div_nn (by omega), w_in (by omega) (by omega), hi]
  have s11 : wrap64 (1461 * i) = 1461 * i := w_in (by omega) (by omega)
  have s12 : wrap64 (Int.tdiv (1461 * i) 4) = 1461 * i / 4 := by rw [div_nn (by omega), w_in (by omega) (by omega)]
  have s13 : wrap64 (L1 - 1461 * i / 4) = L1 - 1461 * i / 4 := w_in (by omega) (by omega)
  have s14 : wrap64 (L1 - 1461 * i / 4 + 31) = L2 := by rw [w_in (by omega) (by omega), hL2]
  have s15 : wrap64 (80 * L2) = 80 * L2 := w_in (by omega) (by omega)
  have s16 : wrap64 (Int.tdiv (80 * L2) 2447) = j := by rw [div_nn (by omega), w_in (by omega) (by omega), hj]
  have s17 : wrap64 (2447 * j) = 2447 * j := w_in (by omega) (by omega)
  have s18 : wrap64 (Int.tdiv (2447 * j) 80) = 2447 * j / 80 := by rw [div_nn (by omega), w_in (by omega) (by omega)]
  have s19 : wrap64 (L2 - 2447 * j / 80) = d := by rw [w_in (by omega) (by omega), hd]
  have s20 : wrap64 (Int.tdiv j 11) = l := by rw [div_nn (by omega), w_in (by omega) (by omega), hl]
  have s21 : wrap64 (j + 2) = j + 2 := w_in (by omega) (by omega)
  have s22 : wrap64 (12 * l) = 12 * l := w_in (by omega) (by omega)
  have s23 : wrap64 (j + 2 - 12 * l) = j + 2 - 12 * l := w_in (by omega) (by omega)
  have s24 : wrap64 (n - 49) = n - 49 := w_in (by omega) (by omega)
  have s25 : wrap64 (100 * (n - 49)) = 100 * (n - 49) := w_in (by omega) (by omega)
  have s26 : wrap64 (100 * (n - 49) + i) = 100 * (n - 49) + i := w_in (by omega) (by omega)
  have s27 : wrap64 (100 * (n - 49) + i + l) = 100 * (n - 49) + i + l := w_in (by omega) (by omega)
  unfold excelize_doTheFliegelAndVanFlandernAlgorithm.f
  rw [s1, s2, s3, s4, s5, s6, s7, s8, s9, s10, s11, s12, s13, s14, s15, s16, s17, s18, s19, s20, s21, s22, s23, s24, s25, s26, s27]

theorem small_day (y : Int) : ∃ z, laws_combSmall.f y 110000 = some z ∧ 0 ≤ z ∧ z ≤ 110000 := by
  have hp : wrap64 (110000 + 1) = 110001 := by unfold wrap64; omega
  have h1 : -110001 < Int.tmod y 110001 := by
    have := Int.lt_tmod_of_pos y (show (0 : Int) < 110001 by omega)
    simpa using this
  have h2 : Int.tmod y 110001 < 110001 := Int.tmod_lt_of_pos y (by omega)
  unfold laws_combSmall.f
  simp only [hp]
  rw [if_neg (by omega)]
  generalize Int.tmod y 110001 = r at h1 h2
  have e : wrap64 (wrap64 (r + 110000) + 1) = r + 110001 := by unfold wrap64; omega
  rw [e]
  refine ⟨_, rfl, ?_, ?_⟩
  · exact Int.tmod_nonneg _ (by omega)
  · have := Int.tmod_lt_of_pos (r + 110001) (show (0 : Int) < 110001 by omega)
    omega

/-- The statement of 'FnJulian' over numbers. -/
theorem FnJulian : laws_FnJulian.Pure := by
  intro a _
  obtain ⟨t, ht, t0, t1⟩ := small_day a
  obtain ⟨n, hn⟩ : ∃ n, n = 4 * (t + 2520114) / 146097 := ⟨_, rfl⟩
  obtain ⟨L1, hL1⟩ : ∃ x, x = t + 2520114 - (146097 * n + 3) / 4 := ⟨_, rfl⟩
  obtain ⟨i, hi⟩ : ∃ x, x = 4000 * (L1 + 1) / 1461001 := ⟨_, rfl⟩
  obtain ⟨L2, hL2⟩ : ∃ x, x = L1 - 1461 * i / 4 + 31 := ⟨_, rfl⟩
  obtain ⟨j, hj⟩ : ∃ x, x = 80 * L2 / 2447 := ⟨_, rfl⟩
  obtain ⟨d, hd⟩ : ∃ x, x = L2 - 2447 * j / 80 := ⟨_, rfl⟩
  obtain ⟨l, hl⟩ : ∃ x, x = j / 11 := ⟨_, rfl⟩
  obtain ⟨a1, a2, a3, a4, a5, a6⟩ := alg t t0 t1 n L1 i L2 j d l hn hL1 hi hL2 hj hd hl
  have hc := julian_code t t0 t1 n L1 i L2 j d l hn hL1 hi hL2 hj hd hl
  have hy : 100 * (n - 49) + i + l ≤ 5000 := by
    have : n ≤ 72 := by omega
    have : i ≤ 99 := by omega
    have : l ≤ 1 := by omega
    omega
  clear hn hL1 hi hL2 hj hd hl
  generalize 100 * (n - 49) + i + l = y at *
  generalize j + 2 - 12 * l = m at *
  have hcu := cum_le y m a2 a3
  have hyy := years y d m a4 a5 a2 a3 (by omega) hy (y - 2000).toNat ((y - 2000).toNat + 20) 2000 (by omega) (by omega) (by omega)
  have h2 : Sy 2000 = 0 := by decide
  have e1 : wrap64 (2451545 + t) = 2451545 + t := by unfold wrap64; omega
  have e2 : wrap64 (2451545 + t - 2451545) = t := by unfold wrap64; omega
  have e3 : Sy y - Sy 2000 + cum y m + d - 1 = t := by omega
  rw [e3] at hyy
  refine ⟨(y - 2000).toNat + 20, ?_⟩
  unfold laws_FnJulian.f spec_DayOf.f laws_dayIs.f impl_Julian.f excelize_DoorJulian.f
  rw [ht]
  simp only [Option.bind_some]
  rw [e1, e2, hyy, hc]
  simp

end Go.Proofs.Ytdobgmeibccjnaa.Pure
