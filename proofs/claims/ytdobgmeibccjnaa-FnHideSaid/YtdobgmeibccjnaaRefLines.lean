/- The statements' own list of runs of columns is a list of at most 6 runs that do not overlap, in order, for every list of numbers. -/
import Derived.Test.YtdobgmeibccjnaaDoors
import Derived.Deep.RegionHeld3
import Derived.IntWalk
namespace Go.Proofs.Ytdobgmeibccjnaa.Ln
open Go.RowKit
attribute [local go_sem] run_store_float

/-- A number made one from 1 to a limit. -/
def gn (n most : Int) : Int := n % most + 1

theorem gn_range (n most : Int) (h : 1 ≤ most) : 1 ≤ gn n most ∧ gn n most ≤ most := by
  unfold gn
  have h1 := Int.emod_nonneg n (show most ≠ 0 by omega)
  have h2 := Int.emod_lt_of_pos n (show 0 < most by omega)
  omega

theorem gn_pos (n most : Int) (h0 : 0 ≤ n.tmod most) : gn n most = n.tmod most + 1 := by
  unfold gn
  congr 1
  rw [Int.emod_eq_tmod]
  by_cases hn : 0 ≤ n
  · simp [hn]
  · have hd : most ∣ n := by
      rw [Int.dvd_iff_tmod_eq_zero]
      have := Int.tmod_nonneg most (show 0 ≤ -n by omega)
      rw [Int.neg_tmod] at this
      omega
    simp [hd]
theorem gn_neg (n most : Int) (h : 1 ≤ most) (h0 : n.tmod most < 0) : gn n most = n.tmod most + most + 1 := by
  unfold gn
  congr 1
  rw [Int.emod_eq_tmod]
  have hn : ¬ 0 ≤ n := fun hn => by
    have := Int.tmod_nonneg most hn
    omega
  have hd : ¬ most ∣ n := fun hd => by
    have := Int.tmod_eq_zero_of_dvd hd
    omega
  simp [hn, hd]
  omega

set_option maxHeartbeats 400000 in
theorem grid_any (n most : Int) (w : World) (h1 : 1 ≤ most) (h2 : most ≤ 2000000) :
    Calls Try.prog 15 #[.int .i64 n, .int .i64 most] w fun e w' => e = .returned (.int .i64 (gn n most)) ∧ w = w' := by
  have t1 := Int.lt_tmod_of_pos n (show 0 < most by omega)
  have t2 := Int.tmod_lt_of_pos n (show 0 < most by omega)
  have h0 : (most == 0) = false := by simp; omega
  by_cases hs : n.tmod most < 0
  · have HG := Lib.hid (gn_neg n most h1 hs)
    go_enter Try.func15, Try.ntmps15
    go_wp2
    go_ret
    exact ⟨by rw [HG.out]; rfl, rfl⟩
  · have HG := Lib.hid (gn_pos n most (by omega))
    go_enter Try.func15, Try.ntmps15
    go_wp2
    go_ret
    exact ⟨by rw [HG.out]; rfl, rfl⟩

/-- Runs of columns that do not overlap, in order; the last of them ends at 'at'. -/
structure OkRuns (X : List Run) (z : Int) : Prop where
  lo : 0 ≤ z
  hi : z ≤ 7 * (X.length : Int)
  each : ∀ r ∈ X, 1 ≤ r.mn ∧ r.mn ≤ r.mx ∧ r.mx ≤ z
  apart : X.Pairwise (fun a b => a.mx < b.mn)

theorem OkRuns.nil : OkRuns [] 0 := ⟨by omega, by simp, by simp, List.Pairwise.nil⟩

theorem OkRuns.snoc {X : List Run} {z : Int} (h : OkRuns X z) (r : Run) (h1 : z + 1 ≤ r.mn) (h2 : r.mn ≤ z + 4) (h3 : r.mn ≤ r.mx) (h4 : r.mx ≤ r.mn + 3) : OkRuns (X ++ [r]) r.mx := by
  have hlo := h.lo
  have hhi := h.hi
  refine ⟨by omega, ?_, ?_, ?_⟩
  · rw [List.length_append]; simp; omega
  · intro q hq
    rw [List.mem_append] at hq
    rcases hq with hq | hq
    · have := h.each q hq; omega
    · simp at hq; subst hq; omega
  · rw [List.pairwise_append]
    refine ⟨h.apart, by simp, fun a ha b hb => ?_⟩
    simp at hb
    subst hb
    have := h.each a ha
    omega

/-- What the statement's own list of runs is: at most 6 runs that do not overlap, in order. -/
def LinesPost (w : World) (e : Ending) (w' : World) : Prop := ∃ (A : Option Addr) (m c : Nat) (X : List Run) (z : Int), e = .returned (.slice A m c) ∧ OwnsA w' w.heap.size 34 A m c X ∧ OkRuns X z ∧ m ≤ 6 ∧ Below w.heap.size w w'

set_option maxHeartbeats 1600000 in
set_option maxRecDepth 100000 in
theorem refLines_any (A : Option Addr) (n c : Nat) (zs : List Int) (w : World) (hn : n ≤ 2147483647)
    (hA : 0 < n → ∃ b off, A = some ⟨b, off, none⟩ ∧ b < w.heap.size ∧ ∀ j, j < n → w.cell? ⟨b, off + j, none⟩ = some (.int .i64 (zs.getD j 0))) (hw : ∀ j, -9223372036854775808 ≤ zs.getD j 0 ∧ zs.getD j 0 ≤ 9223372036854775807) :
    Calls Try.prog 14 #[.slice A n c] w (LinesPost w) := by
  obtain ⟨i0, hi, hz0, hz1, hz2⟩ := info_parts infoA
  go_enter Try.func14, Try.ntmps14
  go_wp2
  go_loopw [3, 4, 5] (fun u t i wr => ∃ (k : Nat) (X : List Run) (z : Int), k ≤ 12 ∧ i = .int .i64 k ∧ t = .int .i64 z ∧ Hid (k = 2 * X.length) ∧ OkRuns X z ∧ wr.ownsRow w.heap.size 34 7 u X.length (X.flatMap cA) ∧ Below w.heap.size w wr)
    (fun _ _ i _ => 12 - (intOf i).toNat)
  case atStart => exact ⟨0, [], 0, by omega, rfl, rfl, rfl, OkRuns.nil, World.ownsRow_nil _ _ _ _, Below.refl _ _⟩
  case round =>
    obtain ⟨k, X, z, hk, rfl, rfl, HX, hok, hown, hnx⟩ := hrel
    by_cases hlt : k + 1 < n
    · by_cases hk6 : k < 12
      · obtain ⟨b, off, rfl, hb, hc⟩ := hA (by omega)
        have c0 : wr.cell? ⟨b, off + k, none⟩ = some (.int .i64 (zs.getD k 0)) := (hnx.cell (p := ⟨b, _, none⟩) hb).trans (hc k (by omega))
        have c1 : wr.cell? ⟨b, off + (k + 1), none⟩ = some (.int .i64 (zs.getD (k + 1) 0)) := (hnx.cell (p := ⟨b, _, none⟩) hb).trans (hc (k + 1) (by omega))
        have p0 := hw k
        have p1 := hw (k + 1)
        have hbz : b < wr.heap.size := by have := hnx.size; omega
        generalize zs.getD k 0 = p at c0 p0
        generalize zs.getD (k + 1) 0 = q at c1 p1
        have g0 := gn_range p 4 (by omega)
        have g1 := gn_range q 4 (by omega)
        have z0 := hok.lo
        have z1 := hok.hi
        have z2 : z ≤ 42 := by have := HX.out; omega
        have hlt' : (k : Int) + 1 < (n : Int) := by omega
        have hi0 : (0 : Int) ≤ (k : Int) := by omega
        have hi2 : (k : Int) < (n : Int) := by omega
        have hi1 : (0 : Int) ≤ (k : Int) + 1 := by omega
        clear hc z1 hA
        go_wp2_with fail
        have s1 : IntKind.i64.wrap ((k : Int) + 1) = (k : Int) + 1 := IntWalk.i64_in _ (by omega)
        have s2 : ((k : Int) + 1).toNat = k + 1 := by omega
        have s3 : IntKind.i64.wrap (z + gn p 4) = z + gn p 4 := IntWalk.i64_in _ (by omega)
        go_region_held3 (fun w' => w'.cell? ⟨b, off + k, none⟩ = some (.int .i64 p) ∧ w'.cell? ⟨b, off + (k + 1), none⟩ = some (.int .i64 q))
          (first | go_keep | exact ⟨c0, c1⟩)
          (first | (go_at_call 15; refine (grid_any _ _ _ (by omega) (by omega)).mono ?_; rintro e w' ⟨rfl, rfl⟩))
        all_goals
          generalize IntKind.i64.wrap (gn (IntKind.i64.wrap (q.tdiv 5)) 4 - 1) = lv
          generalize IntKind.i64.wrap (gn (IntKind.i64.wrap (q.tdiv 25)) 3 - 1) = st
          generalize (bits BinOp.and IntKind.i64 q 1 == 1) = hd
          have s4 : IntKind.i64.wrap (z + gn p 4 + gn q 4) = z + gn p 4 + gn q 4 := IntWalk.i64_in _ (by omega)
          have s5 : IntKind.i64.wrap (z + gn p 4 + gn q 4 - 1) = z + gn p 4 + gn q 4 - 1 := IntWalk.i64_in _ (by omega)
          go_wp2_with fail
          go_region_held3 (fun w' => w'.cell? ⟨wr.heap.size, 0, none⟩ = some (.int .i64 (z + gn p 4)) ∧ w'.cell? ⟨b, off + (k + 1), none⟩ = some (.int .i64 q))
            (first | go_keep)
            (first | (go_at_call 15; refine (grid_any _ _ _ (by omega) (by omega)).mono ?_; rintro e w' ⟨rfl, rfl⟩))
          obtain ⟨r, hr⟩ : ∃ r : Run, r = { mn := z + gn p 4, mx := z + gn p 4 + gn q 4 - 1, lv := lv, st := st, wd := 0, hd := hd, cu := false } := ⟨_, rfl⟩
          have HN := Lib.hid (hok.snoc r (by rw [hr]; show z + 1 ≤ z + gn p 4; omega) (by rw [hr]; show z + gn p 4 ≤ z + 4; omega) (by rw [hr]; show z + gn p 4 ≤ z + gn p 4 + gn q 4 - 1; omega) (by rw [hr]; show z + gn p 4 + gn q 4 - 1 ≤ z + gn p 4 + 3; omega))
          have HR := Lib.hid hr; clear hr
          have hX6 : X.length < 6 := by have := HX.out; omega
          have hs := hnx.size
          clear s1 s2 s3 c0 c1
          go_wp2_with (at_builtin; refine wpList_append_own _ rfl _ _ 29 rfl w.heap.size 34 i0 _ 7 48 Try.underlying29 hi hz0 hz1 hz2 rfl (by decide) _ _ _ rfl ((hown.alloc _).alloc _) ⟨wr.heap.size + 1, 0, none⟩ 1 1 (cA r) rfl rfl ?c1 ?c2 ?c3 ?c4 ?c5 ?_)
          case c1 => rw [HR.out]; exact newAt _ _ _ _ (by simp)
          case c2 => exact cA_one r
          case c3 => unfold maxLen; omega
          case c4 => omega
          case c5 => simp; omega
          intro v' w1 hown' hgrow _
          have hb1 := ((hnx.alloc hs _).alloc (by simp; omega) _).drew.drew.grown hgrow (by simp; omega) (fun j hj => (hown.lt j hj).1)
          have HO := Lib.hid hown'
          have HB := Lib.hid hb1
          clear hgrow hown' hb1
          go_wp2
          go_roundw
          case rel => exact ⟨k + 2, X ++ [r], r.mx, by have := HX.out; omega, by go_num, by rw [HR.out], by have := HX.out; show k + 2 = 2 * (X ++ [r]).length; simp; omega, HN.out, by simpa using HO.out, HB.out⟩
          case measure => simp [intOf]; omega
      · have e : k = 12 := by omega
        subst e
        have hX6 : X.length = 6 := by have := HX.out; omega
        have H6 := Lib.hid hX6; clear hX6
        go_wp2
        go_ret
        obtain ⟨A', c', he⟩ := own_slice hown
        rw [he] at hown
        exact ⟨A', X.length, c', X, z, by rw [← he]; rfl, ⟨hown, rfl⟩, hok, by rw [H6.out]; omega, hnx⟩
    · have hX6 : X.length ≤ 6 := by have := HX.out; omega
      have hlt' : ¬ ((k : Int) + 1 < (n : Int)) := by omega
      go_wp2
      go_ret
      obtain ⟨A', c', he⟩ := own_slice hown
      rw [he] at hown
      exact ⟨A', X.length, c', X, z, by rw [← he]; rfl, ⟨hown, rfl⟩, hok, hX6, hnx⟩
end Go.Proofs.Ytdobgmeibccjnaa.Ln
