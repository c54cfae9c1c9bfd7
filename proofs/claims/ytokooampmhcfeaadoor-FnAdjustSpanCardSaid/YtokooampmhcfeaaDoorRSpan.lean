/- A span's two ends behind an insertion, by the package and by the specification. -/
import Derived.Test.YtokooampmhcfeaaDoorRLives
namespace Go.Proofs.YtokooampmhcfeaaDoor.Rg
open Go.RowKit

/-- Where an index goes when n are put in before num. -/
def moved (num n i : Int) : Int := if i < num then i else i + n

theorem moved_lo {num n i : Int} (h : i < num) : moved num n i = i := if_pos h
theorem moved_hi {num n i : Int} (h : num ≤ i) : moved num n i = i + n := if_neg (by omega)

set_option maxHeartbeats 800000 in
theorem helper_any (v : Value) (p1 p2 num n : Int) (w : World) (h1 : 1 ≤ p1) (h2 : p1 ≤ p2) (h3 : p2 ≤ 1000) (_h4 : 1 ≤ num) (_h5 : num ≤ 1000) (h6 : 1 ≤ n) (h7 : n ≤ 1000) :
    Calls Tryd.prog 36 #[v, .int .i64 p1, .int .i64 p2, .int .i64 num, .int .i64 n] w fun e w' => e = .returned (.tuple #[.int .i64 (moved num n p1), .int .i64 (moved num n p2)]) ∧ w = w' := by
  have e1 : IntKind.i64.wrap (p1 + n) = p1 + n := by rw [IntKind.wrap_i64]; omega
  have e2 : IntKind.i64.wrap (p2 + n) = p2 + n := by rw [IntKind.wrap_i64]; omega
  by_cases ha : num ≤ p1
  · have HA := Lib.hid (moved_hi (n := n) ha)
    have HB := Lib.hid (moved_hi (n := n) (show num ≤ p2 by omega))
    go_enter Tryd.func36, Tryd.ntmps36
    go_wp2
    go_ret2
    exact ⟨by rw [HA.out, HB.out]; rfl, rfl⟩
  · have HA := Lib.hid (moved_lo (n := n) (show p1 < num by omega))
    by_cases hb : num ≤ p2
    · have HB := Lib.hid (moved_hi (n := n) hb)
      go_enter Tryd.func36, Tryd.ntmps36
      go_wp2
      go_ret2
      exact ⟨by rw [HA.out, HB.out]; rfl, rfl⟩
    · have HB := Lib.hid (moved_lo (n := n) (show p2 < num by omega))
      go_enter Tryd.func36, Tryd.ntmps36
      go_wp2
      go_ret2
      exact ⟨by rw [HA.out, HB.out]; rfl, rfl⟩

set_option maxHeartbeats 800000 in
theorem index_move (num n i : Int) (w : World) (h1 : 1 ≤ i) (h3 : i ≤ 1000) (_h4 : 1 ≤ num) (_h5 : num ≤ 1000) (h6 : 1 ≤ n) (h7 : n ≤ 1000) :
    Calls Tryd.prog 12 #[.agg #[.bool false, .int .i64 num, .int .i64 n], .int .i64 i] w fun e w' => e = .returned (.int .i64 (moved num n i)) ∧ Below w.heap.size w w' := by
  have e1 : IntKind.i64.wrap (i + n) = i + n := by rw [IntKind.wrap_i64]; omega
  by_cases ha : num ≤ i
  · have HM : Hid (max 1 (i + n) = moved num n i) := by
      show max 1 (i + n) = moved num n i
      rw [moved_hi ha]
      omega
    go_enter Tryd.func12, Tryd.ntmps12
    go_wp2
    go_ret
    exact ⟨by rw [← HM.out]; rfl, (Below.refl _ _).alloc (Nat.le_refl _) _⟩
  · have HM := Lib.hid (moved_lo (n := n) (show i < num by omega))
    go_enter Tryd.func12, Tryd.ntmps12
    go_wp2
    go_ret
    exact ⟨by rw [HM.out]; rfl, (Below.refl _ _).alloc (Nat.le_refl _) _⟩

set_option maxHeartbeats 800000 in
theorem door_span (p1 p2 num n : Int) (w : World) (h1 : 1 ≤ p1) (h2 : p1 ≤ p2) (h3 : p2 ≤ 1000) (h4 : 1 ≤ num) (h5 : num ≤ 1000) (h6 : 1 ≤ n) (h7 : n ≤ 1000) :
    Calls Tryd.prog 25 #[.int .i64 p1, .int .i64 p2, .int .i64 num, .int .i64 n] w fun e w' => e = .returned (.tuple #[.int .i64 (moved num n p1), .int .i64 (moved num n p2)]) ∧ Below w.heap.size w w' := by
  go_enter Tryd.func25, Tryd.ntmps25
  go_wp2_with fail
  refine (helper_any _ p1 p2 num n _ h1 h2 h3 h4 h5 h6 h7).mono ?_
  rintro e w1 ⟨rfl, rfl⟩
  go_wp2
  go_ret2
  exact ⟨rfl, (Below.refl _ _).alloc (Nat.le_refl _) _⟩

set_option maxHeartbeats 800000 in
theorem impl_span (p1 p2 num n : Int) (w : World) (h1 : 1 ≤ p1) (h2 : p1 ≤ p2) (h3 : p2 ≤ 1000) (h4 : 1 ≤ num) (h5 : num ≤ 1000) (h6 : 1 ≤ n) (h7 : n ≤ 1000) :
    Calls Tryd.prog 11 #[.int .i64 p1, .int .i64 p2, .int .i64 num, .int .i64 n] w fun e w' => e = .returned (.tuple #[.int .i64 (moved num n p1), .int .i64 (moved num n p2)]) ∧ Below w.heap.size w w' := by
  go_enter Tryd.func11, Tryd.ntmps11
  go_wp2_with fail
  refine (door_span p1 p2 num n _ h1 h2 h3 h4 h5 h6 h7).mono ?_
  rintro e w1 ⟨rfl, hb⟩
  go_wp2
  go_ret2
  exact ⟨rfl, hb⟩

set_option maxHeartbeats 1600000 in
set_option maxRecDepth 100000 in
/-- The law's call. -/
theorem span_law (a b c d : Int) (w : World) :
    Calls Tryd.prog 4 #[.int .i64 a, .int .i64 b, .int .i64 c, .int .i64 d] w fun e w' => e = .returned (.bool true) ∧ Below w.heap.size w w' := by
  obtain ⟨p, hp⟩ : ∃ p, p = gn a 1000 := ⟨_, rfl⟩
  obtain ⟨q, hq⟩ : ∃ q, q = gn b 1000 := ⟨_, rfl⟩
  obtain ⟨r, hr⟩ : ∃ r, r = gn c 1000 := ⟨_, rfl⟩
  obtain ⟨n, hn⟩ : ∃ n, n = gn d 1000 := ⟨_, rfl⟩
  have gp := gn_range a 1000 (by decide)
  have gq := gn_range b 1000 (by decide)
  have gr := gn_range c 1000 (by decide)
  have gk := gn_range d 1000 (by decide)
  rw [← hp] at gp
  rw [← hq] at gq
  rw [← hr] at gr
  rw [← hn] at gk
  have hmin1 : 1 ≤ min p q := by omega
  have hmin2 : min p q ≤ max p q := by omega
  have hmax : max p q ≤ 1000 := by omega
  have HP := Lib.hid hp.symm; clear hp
  have HQ := Lib.hid hq.symm; clear hq
  have HR := Lib.hid hr.symm; clear hr
  have HN := Lib.hid hn.symm; clear hn
  go_enter Tryd.func4, Tryd.ntmps4
  go_wp2_with fail
  refine (grid_any a 1000 _ (by decide) (by decide)).mono ?_
  rw [HP.out]
  rintro e w1 ⟨rfl, rfl⟩
  go_wp2_with fail
  refine (grid_any b 1000 _ (by decide) (by decide)).mono ?_
  rw [HQ.out]
  rintro e w1 ⟨rfl, rfl⟩
  go_wp2_with fail
  refine (grid_any c 1000 _ (by decide) (by decide)).mono ?_
  rw [HR.out]
  rintro e w1 ⟨rfl, rfl⟩
  go_wp2_with fail
  refine (grid_any d 1000 _ (by decide) (by decide)).mono ?_
  rw [HN.out]
  rintro e w1 ⟨rfl, rfl⟩
  clear HP HQ HR HN
  go_wp2_with fail
  refine (impl_span (min p q) (max p q) r n _ hmin1 hmin2 hmax gr.1 gr.2 gk.1 gk.2).mono ?_
  rintro e w1 ⟨rfl, hb1⟩
  have hnew : w.heap.size < (w.alloc (Obj.cells #[Value.bool false, Value.int IntKind.i64 r, Value.int IntKind.i64 n] 31)).heap.size := by simp [go_sem]
  have c0 : w1.cell? ⟨w.heap.size, 0, none⟩ = some (.bool false) := (hb1.cell (p := ⟨w.heap.size, 0, none⟩) hnew).trans (by simp [go_sem])
  have c1 : w1.cell? ⟨w.heap.size, 1, none⟩ = some (.int .i64 r) := (hb1.cell (p := ⟨w.heap.size, 1, none⟩) hnew).trans (by simp [go_sem])
  have c2 : w1.cell? ⟨w.heap.size, 2, none⟩ = some (.int .i64 n) := (hb1.cell (p := ⟨w.heap.size, 2, none⟩) hnew).trans (by simp [go_sem])
  have hB1 : Below w.heap.size w w1 := ((Below.refl _ _).alloc (Nat.le_refl _) _).trans (hb1.mono (Nat.le_of_lt hnew))
  have hl1 : w.heap.size < w1.heap.size := Nat.lt_of_lt_of_le hnew hb1.size
  clear hb1 hnew
  generalize hB : w.heap.size = B at *
  have hm1 : min p q ≤ 1000 := by omega
  have hm2 : 1 ≤ max p q := by omega
  go_wp2_with fail
  refine (index_move r n (min p q) _ hmin1 hm1 gr.1 gr.2 gk.1 gk.2).mono ?_
  rintro e w2 ⟨rfl, hb2⟩
  have d0 := (hb2.cell (p := ⟨B, 0, none⟩) hl1).trans c0
  have d1 := (hb2.cell (p := ⟨B, 1, none⟩) hl1).trans c1
  have d2 := (hb2.cell (p := ⟨B, 2, none⟩) hl1).trans c2
  have hB2 : Below B w w2 := hB1.trans (hb2.mono (Nat.le_of_lt hl1))
  clear hb2 c0 c1 c2
  go_wp2_with fail
  refine (index_move r n (max p q) _ hm2 hmax gr.1 gr.2 gk.1 gk.2).mono ?_
  rintro e w3 ⟨rfl, hb3⟩
  clear d0 d1 d2
  go_wp2_with fail
  refine (lives_any _).mono ?_
  rintro e w4 ⟨rfl, hb4⟩
  go_wp2
  go_ret
  have s2 : B ≤ w2.heap.size := by rw [← hB]; exact hB2.size
  have hB3 := hB2.trans (hb3.mono s2)
  have s3 : B ≤ w3.heap.size := by rw [← hB]; exact hB3.size
  refine ⟨rfl, ?_⟩
  rw [hB]
  exact hB3.trans (hb4.mono s3)
end Go.Proofs.YtokooampmhcfeaaDoor.Rg
