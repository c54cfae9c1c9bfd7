/- The four numbers of a range put in order: the package's own, the doors', and the laws' comparison of two rows of numbers. -/
import Derived.Test.YtokooampmhcfeaaGreatDoorRLives
import Derived.BigRegion
namespace Go.Proofs.YtokooampmhcfeaaGreatDoor.Rg
open Go.RowKit

theorem below_drewN (w : World) (n : Nat) : Below w.heap.size w (w.drewN n) := by constructor <;> first | rfl | exact Nat.le_refl _ | (intros; rfl)

theorem Four.of_own {w0 w : World} {v : Value} {p q r s : Int} (h : w.ownsRow w0.heap.size 3 1 v 4 [.int .i64 p, .int .i64 q, .int .i64 r, .int .i64 s]) (hb : Below w0.heap.size w0 w) : ∃ g c, v = .slice (some ⟨g, 0, none⟩) 4 c ∧ Four w0 w g p q r s := by
  have h' := h
  rcases h.2 with ⟨_, h0⟩ | ⟨g, cap, cur, rfl, hg, _⟩
  · simp at h0
  · have e0 := h'.cells (g := g) rfl 0 _ rfl
    have e1 := h'.cells (g := g) rfl 1 _ rfl
    have e2 := h'.cells (g := g) rfl 2 _ rfl
    have e3 := h'.cells (g := g) rfl 3 _ rfl
    rw [addAt] at e0 e1 e2 e3
    exact ⟨g, cap, rfl, hg, (h'.lt g rfl).2, e0, e1, e2, e3, fun i => h'.frozenAt i, hb⟩

theorem Four.news {w0 w : World} {b : Nat} {p q r s : Int} (h : Four w0 w b p q r s) : ∀ j u, [Value.int .i64 p, .int .i64 q, .int .i64 r, .int .i64 s][j]? = some u → w.cell? ((⟨b, 0, none⟩ : Addr).add j) = some u := by
  intro j u hu
  rw [addAt]
  rcases j with _ | _ | _ | _ | j
  · simp at hu; subst hu; exact h.c0
  · simp at hu; subst hu; exact h.c1
  · simp at hu; subst hu; exact h.c2
  · simp at hu; subst hu; exact h.c3
  · simp at hu

theorem four_one (p q r s : Int) : ∀ u ∈ [Value.int .i64 p, .int .i64 q, .int .i64 r, .int .i64 s], u.oneCell' = true := by
  intro u hu
  simp at hu
  rcases hu with rfl | rfl | rfl | rfl <;> rfl

set_option maxHeartbeats 1600000 in
set_option maxRecDepth 100000 in
theorem sort_any (b c : Nat) (p q r s : Int) (w0 w : World) (h : Four w0 w b p q r s) :
    Calls Tryz.prog 36 #[.slice (some ⟨b, 0, none⟩) 4 c] w fun e w' => e = .returned .nilIface ∧ Four w0 w' b (min p r) (min q s) (max p r) (max q s) := by
  have c0 := h.c0
  have c1 := h.c1
  have c2 := h.c2
  have c3 := h.c3
  have f0 := h.free 0
  have f1 := h.free 1
  have f2 := h.free 2
  have f3 := h.free 3
  by_cases hx : r < p
  · by_cases hy : s < q
    · have e0 : r = min p r := by omega
      have e2 : p = max p r := by omega
      have e1 : s = min q s := by omega
      have e3 : q = max q s := by omega
      have HE : Hid (r = min p r ∧ s = min q s ∧ p = max p r ∧ q = max q s) := ⟨e0, e1, e2, e3⟩
      clear e0 e1 e2 e3
      go_enter Tryz.func36, Tryz.ntmps36
      go_wp2_with fail
      go_quiet (fail)
      replace h := h.later (below_drewN w nq)
      generalize w.drewN nq = w1 at *
      clear nq
      clear c0 c1 c2 c3 f0 f1 f2 f3
      have c0 := h.c0
      have c1 := h.c1
      have c2 := h.c2
      have c3 := h.c3
      have f0 := h.free 0
      have f1 := h.free 1
      have f2 := h.free 2
      have f3 := h.free 3
      go_wp2_with fail
      go_region
      replace h := ((h.set2 p).set0 r).drew
      clear c0 c1 c2 c3 f0 f1 f2 f3
      generalize ((w1.setCell ⟨b, 2, none⟩ (.int .i64 p)).setCell ⟨b, 0, none⟩ (.int .i64 r)).drew = w2 at *
      have c0 := h.c0
      have c1 := h.c1
      have c2 := h.c2
      have c3 := h.c3
      have f0 := h.free 0
      have f1 := h.free 1
      have f2 := h.free 2
      have f3 := h.free 3
      go_wp2_with fail
      go_quiet (fail)
      replace h := h.later (below_drewN w2 nq)
      generalize w2.drewN nq = w3 at *
      clear nq
      clear c0 c1 c2 c3 f0 f1 f2 f3
      have c0 := h.c0
      have c1 := h.c1
      have c2 := h.c2
      have c3 := h.c3
      have f0 := h.free 0
      have f1 := h.free 1
      have f2 := h.free 2
      have f3 := h.free 3
      go_wp2_with fail
      go_region
      replace h := ((h.set3 q).set1 s).drew
      clear c0 c1 c2 c3 f0 f1 f2 f3
      generalize ((w3.setCell ⟨b, 3, none⟩ (.int .i64 q)).setCell ⟨b, 1, none⟩ (.int .i64 s)).drew = w4 at *
      go_wp2
      go_ret
      obtain ⟨e0, e1, e2, e3⟩ := HE.out
      rw [← e0, ← e1, ← e2, ← e3]
      exact ⟨rfl, h⟩
    · have e0 : r = min p r := by omega
      have e2 : p = max p r := by omega
      have e1 : q = min q s := by omega
      have e3 : s = max q s := by omega
      have HE : Hid (r = min p r ∧ q = min q s ∧ p = max p r ∧ s = max q s) := ⟨e0, e1, e2, e3⟩
      clear e0 e1 e2 e3
      go_enter Tryz.func36, Tryz.ntmps36
      go_wp2_with fail
      go_quiet (fail)
      replace h := h.later (below_drewN w nq)
      generalize w.drewN nq = w1 at *
      clear nq
      clear c0 c1 c2 c3 f0 f1 f2 f3
      have c0 := h.c0
      have c1 := h.c1
      have c2 := h.c2
      have c3 := h.c3
      have f0 := h.free 0
      have f1 := h.free 1
      have f2 := h.free 2
      have f3 := h.free 3
      go_wp2_with fail
      go_region
      replace h := ((h.set2 p).set0 r).drew
      clear c0 c1 c2 c3 f0 f1 f2 f3
      generalize ((w1.setCell ⟨b, 2, none⟩ (.int .i64 p)).setCell ⟨b, 0, none⟩ (.int .i64 r)).drew = w2 at *
      have c0 := h.c0
      have c1 := h.c1
      have c2 := h.c2
      have c3 := h.c3
      have f0 := h.free 0
      have f1 := h.free 1
      have f2 := h.free 2
      have f3 := h.free 3
      go_wp2_with fail
      go_quiet (fail)
      replace h := h.later (below_drewN w2 nq)
      generalize w2.drewN nq = w3 at *
      clear nq
      clear c0 c1 c2 c3 f0 f1 f2 f3
      have c0 := h.c0
      have c1 := h.c1
      have c2 := h.c2
      have c3 := h.c3
      have f0 := h.free 0
      have f1 := h.free 1
      have f2 := h.free 2
      have f3 := h.free 3
      go_wp2
      go_ret
      obtain ⟨e0, e1, e2, e3⟩ := HE.out
      rw [← e0, ← e1, ← e2, ← e3]
      exact ⟨rfl, h⟩
  · by_cases hy : s < q
    · have e0 : p = min p r := by omega
      have e2 : r = max p r := by omega
      have e1 : s = min q s := by omega
      have e3 : q = max q s := by omega
      have HE : Hid (p = min p r ∧ s = min q s ∧ r = max p r ∧ q = max q s) := ⟨e0, e1, e2, e3⟩
      clear e0 e1 e2 e3
      go_enter Tryz.func36, Tryz.ntmps36
      go_wp2_with fail
      go_quiet (fail)
      replace h := h.later (below_drewN w nq)
      generalize w.drewN nq = w1 at *
      clear nq
      clear c0 c1 c2 c3 f0 f1 f2 f3
      have c0 := h.c0
      have c1 := h.c1
      have c2 := h.c2
      have c3 := h.c3
      have f0 := h.free 0
      have f1 := h.free 1
      have f2 := h.free 2
      have f3 := h.free 3
      go_wp2_with fail
      go_quiet (fail)
      replace h := h.later (below_drewN w1 nq)
      generalize w1.drewN nq = w3 at *
      clear nq
      clear c0 c1 c2 c3 f0 f1 f2 f3
      have c0 := h.c0
      have c1 := h.c1
      have c2 := h.c2
      have c3 := h.c3
      have f0 := h.free 0
      have f1 := h.free 1
      have f2 := h.free 2
      have f3 := h.free 3
      go_wp2_with fail
      go_region
      replace h := ((h.set3 q).set1 s).drew
      clear c0 c1 c2 c3 f0 f1 f2 f3
      generalize ((w3.setCell ⟨b, 3, none⟩ (.int .i64 q)).setCell ⟨b, 1, none⟩ (.int .i64 s)).drew = w4 at *
      go_wp2
      go_ret
      obtain ⟨e0, e1, e2, e3⟩ := HE.out
      rw [← e0, ← e1, ← e2, ← e3]
      exact ⟨rfl, h⟩
    · have e0 : p = min p r := by omega
      have e2 : r = max p r := by omega
      have e1 : q = min q s := by omega
      have e3 : s = max q s := by omega
      have HE : Hid (p = min p r ∧ q = min q s ∧ r = max p r ∧ s = max q s) := ⟨e0, e1, e2, e3⟩
      clear e0 e1 e2 e3
      go_enter Tryz.func36, Tryz.ntmps36
      go_wp2_with fail
      go_quiet (fail)
      replace h := h.later (below_drewN w nq)
      generalize w.drewN nq = w1 at *
      clear nq
      clear c0 c1 c2 c3 f0 f1 f2 f3
      have c0 := h.c0
      have c1 := h.c1
      have c2 := h.c2
      have c3 := h.c3
      have f0 := h.free 0
      have f1 := h.free 1
      have f2 := h.free 2
      have f3 := h.free 3
      go_wp2_with fail
      go_quiet (fail)
      replace h := h.later (below_drewN w1 nq)
      generalize w1.drewN nq = w3 at *
      clear nq
      clear c0 c1 c2 c3 f0 f1 f2 f3
      have c0 := h.c0
      have c1 := h.c1
      have c2 := h.c2
      have c3 := h.c3
      have f0 := h.free 0
      have f1 := h.free 1
      have f2 := h.free 2
      have f3 := h.free 3
      go_wp2
      go_ret
      obtain ⟨e0, e1, e2, e3⟩ := HE.out
      rw [← e0, ← e1, ← e2, ← e3]
      exact ⟨rfl, h⟩

/-- What a door to a sorted row gives. -/
def FourYesC (w0 : World) (p q r s : Int) (e : Ending) (w : World) : Prop :=
  ∃ b c, e = .returned (.tuple #[.slice (some ⟨b, 0, none⟩) 4 c, .bool true]) ∧ Four w0 w b p q r s

theorem infoInt : (Tryz.prog.info? 3).map (fun i => (i.zero, i.size, i.bytes)) = some (some (.int .i64 0), 1, 8) := by kernel_rfl

/-- The numbers of a row of four, by their place. -/
def at4 (p q r s : Int) : Nat → Int
  | 0 => p
  | 1 => q
  | 2 => r
  | _ => s
theorem Four.at {w0 w : World} {b : Nat} {p q r s : Int} (h : Four w0 w b p q r s) : ∀ k, k < 4 → w.cell? ⟨b, k, none⟩ = some (.int .i64 (at4 p q r s k)) := by
  intro k hk
  rcases k with _ | _ | _ | _ | k
  · exact h.c0
  · exact h.c1
  · exact h.c2
  · exact h.c3
  · omega

set_option maxHeartbeats 1600000 in
set_option maxRecDepth 100000 in
theorem same_any (b c d k : Nat) (f : Nat → Int) (w : World) (hb : ∀ k, k < 4 → w.cell? ⟨b, k, none⟩ = some (.int .i64 (f k))) (hd : ∀ k, k < 4 → w.cell? ⟨d, k, none⟩ = some (.int .i64 (f k))) :
    Calls Tryz.prog 14 #[.slice (some ⟨b, 0, none⟩) 4 c, .slice (some ⟨d, 0, none⟩) 4 k] w fun e w' => e = .returned (.bool true) ∧ Below w.heap.size w w' := by
  have HB := Lib.hid hb; clear hb
  have HD := Lib.hid hd; clear hd
  go_enter Tryz.func14, Tryz.ntmps14
  go_wp2
  go_loopw [5] (fun u wr => ∃ k : Nat, u = .int .i64 k ∧ k ≤ 4 ∧ Below w.heap.size w wr ∧ Hid (∀ k, k < 4 → wr.cell? ⟨b, k, none⟩ = some (.int .i64 (f k))) ∧ Hid (∀ k, k < 4 → wr.cell? ⟨d, k, none⟩ = some (.int .i64 (f k))))
    (fun u _ => match u with | .int _ n => 4 - n.toNat | _ => 0)
  case atStart => exact ⟨0, rfl, by omega, Below.refl _ _, HB, HD⟩
  case round =>
    obtain ⟨k, rfl, hk, hbel, HB1, HD1⟩ := hrel
    by_cases hlt : k < 4
    · have c0 := HB1.out k hlt
      have c1 := HD1.out k hlt
      have hi0 : (0 : Int) ≤ (k : Int) := by omega
      have hi1 : (k : Int) < 4 := by omega
      have hw1 : IntKind.i64.wrap ((k : Int) + 1) = (k : Int) + 1 := by rw [IntKind.wrap_i64]; omega
      go_wp2_with fail
      go_quiet (fail)
      go_wp2
      go_roundw
      case rel => exact ⟨k + 1, by go_num, by omega, hbel.trans ((below_drewN _ _).mono hbel.size), HB1, HD1⟩
      case measure => simp; omega
    · have hge : ¬ ((k : Int) < 4) := by omega
      go_wp2
      go_ret
      exact ⟨rfl, hbel⟩
end Go.Proofs.YtokooampmhcfeaaGreatDoor.Rg
