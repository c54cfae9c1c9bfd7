/- The library's choice of a pivot: it reads, and counts in a block of its own. -/
import Derived.Test.YtfnphohdipdmpaaMRow
namespace Go.Proofs.Ytfnphohdipdmpaa.Rg
open Go.RowKit

/-- The row as it was, a count in block sw; all blocks else as they were. -/
structure Md (w : World) (blk sw : Nat) (X : List Nat) (w' : World) : Prop where
  row : RowF w' blk X
  cnt : ∃ z : Int, w'.cell? ⟨sw, 0, none⟩ = some (.int .i64 z)
  free : w'.frozen? ⟨sw, 0, none⟩ = false
  grown : w.grownBy w' (some sw)
  lt : sw < w'.heap.size

theorem Md.trans {w w1 w2 : World} {blk sw : Nat} {X : List Nat} (h : Md w blk sw X w1) (h' : Md w1 blk sw X w2) : Md w blk sw X w2 := ⟨h'.row, h'.cnt, h'.free, Lib.grownBy_trans h.grown h'.grown, h'.lt⟩
theorem Md.drewN {w w1 : World} {blk sw : Nat} {X : List Nat} (h : Md w blk sw X w1) (q : Nat) : Md w blk sw X (w1.drewN q) := ⟨h.row.drewN q, h.cnt, h.free, grownBy_drewN h.grown q, h.lt⟩
theorem Md.self {w w1 : World} {blk sw : Nat} {X : List Nat} (h : Md w blk sw X w1) : Md w1 blk sw X w1 := ⟨h.row, h.cnt, h.free, ⟨rfl, rfl, rfl, Nat.le_refl _, fun _ _ _ => rfl⟩, h.lt⟩
theorem Md.set {w w1 : World} {blk sw : Nat} {X : List Nat} (h : Md w blk sw X w1) (hne : blk ≠ sw) (z : Int) : Md w blk sw X (w1.setCell ⟨sw, 0, none⟩ (.int .i64 z)) := by
  have hg := Lib.grownBy_setCell w1 sw 0 (.int .i64 z)
  obtain ⟨y, hy⟩ := h.cnt
  refine ⟨h.row.keep hg.size (hg.block blk h.row.lt (fun e => hne (by cases e; rfl))), ⟨z, by simp [go_sem, hy]⟩, (World.frozen?_setCell _ _ _ _).trans h.free, Lib.grownBy_trans h.grown hg, by have := h.lt; simpa [World.setCell] using this⟩

def OrdPost (w : World) (blk sw p q : Nat) (X : List Nat) (e : Ending) (w' : World) : Prop := ∃ p' q' : Nat, e = .returned (.tuple #[.int .i64 p', .int .i64 q']) ∧ ((p' = p ∧ q' = q) ∨ (p' = q ∧ q' = p)) ∧ Md w blk sw X w'

set_option maxHeartbeats 3200000 in
set_option maxRecDepth 100000 in
theorem order2_any (blk sw n cap p q : Nat) (X : List Nat) (w : World) (hM : Md w blk sw X w) (hn : X.length = n) (hne : blk ≠ sw) (hp : p < n) (hq : q < n) :
    Calls Try.prog 67 #[.slice (some ⟨blk, 0, none⟩) n cap, .int .i64 p, .int .i64 q, .pointer (some ⟨sw, 0, none⟩)] w (OrdPost w blk sw p q X) := by
  obtain ⟨x, _, cx, _⟩ := hM.row.at (j := p) (by omega)
  obtain ⟨y, _, cy, _⟩ := hM.row.at (j := q) (by omega)
  obtain ⟨z, hz⟩ := hM.cnt
  have hfr := hM.free
  have LS := fun w => less_any y x w
  generalize lessF y x = t at LS
  have e0 : (0 : Int) ≤ (p : Int) := by omega
  have e1 : (p : Int) < (n : Int) := by omega
  have e2 : (0 : Int) ≤ (q : Int) := by omega
  have e3 : (q : Int) < (n : Int) := by omega
  have HM := Lib.hid hM
  clear hM hn
  cases t
  · go_enter Try.func67, Try.ntmps67
    go_wp2_with fail
    go_quiet (first | (go_at_call 56; refine Calls.quiet_of_same (LS _)))
    go_wp2
    go_ret2
    exact ⟨p, q, rfl, .inl ⟨rfl, rfl⟩, HM.out.drewN nq⟩
  · go_enter Try.func67, Try.ntmps67
    go_wp2_with fail
    go_quiet (first | (go_at_call 56; refine Calls.quiet_of_same (LS _)))
    go_wp2
    go_ret2
    exact ⟨q, p, rfl, .inr ⟨rfl, rfl⟩, (HM.out.drewN nq).set hne _⟩

def MedPost (w : World) (blk sw p q r : Nat) (X : List Nat) (e : Ending) (w' : World) : Prop := ∃ m : Nat, e = .returned (.int .i64 m) ∧ (m = p ∨ m = q ∨ m = r) ∧ Md w blk sw X w'

set_option maxHeartbeats 3200000 in
set_option maxRecDepth 100000 in
theorem median_any (blk sw n cap p q r : Nat) (X : List Nat) (w : World) (hM : Md w blk sw X w) (hn : X.length = n) (hne : blk ≠ sw) (hp : p < n) (hq : q < n) (hr : r < n) :
    Calls Try.prog 65 #[.slice (some ⟨blk, 0, none⟩) n cap, .int .i64 p, .int .i64 q, .int .i64 r, .pointer (some ⟨sw, 0, none⟩)] w (MedPost w blk sw p q r X) := by
  have O1 := Lib.hid (order2_any blk sw n cap p q X w hM hn hne hp hq)
  have HN := Lib.hid hn
  have HNE := Lib.hid hne
  clear hM hn hne
  go_enter Try.func65, Try.ntmps65
  go_wp2_with fail
  refine O1.out.mono ?_
  rintro e w1 ⟨p1, q1, rfl, h1, hm1⟩
  have O2 := Lib.hid (order2_any blk sw n cap q1 r X w1 hm1.self HN.out HNE.out (by omega) hr)
  have HM1 := Lib.hid hm1
  have H1 := Lib.hid h1
  have hp1 : p1 < n := by omega
  clear hm1 O1 h1
  go_wp2_with fail
  refine O2.out.mono ?_
  rintro e w2 ⟨q2, r2, rfl, h2, hm2⟩
  have hq2 : q2 < n := by have := H1.out; omega
  have O3 := Lib.hid (order2_any blk sw n cap p1 q2 X w2 hm2.self HN.out HNE.out hp1 hq2)
  have HM2 := Lib.hid (HM1.out.trans hm2)
  have H2 := Lib.hid h2
  clear hm2 O2 HM1 h2
  go_wp2_with fail
  refine O3.out.mono ?_
  rintro e w3 ⟨p3, q3, rfl, h3, hm3⟩
  have H3 := Lib.hid h3
  have HM3 := Lib.hid (HM2.out.trans hm3)
  clear hm3 O3 HM2 h3
  go_wp2
  go_ret
  refine ⟨q3, rfl, ?_, HM3.out⟩
  have := H1.out
  have := H2.out
  have := H3.out
  omega

set_option maxHeartbeats 3200000 in
set_option maxRecDepth 100000 in
theorem medadj_any (blk sw n cap p : Nat) (X : List Nat) (w : World) (hM : Md w blk sw X w) (hn : X.length = n) (hne : blk ≠ sw) (hs : n ≤ 1000000) (hp : 1 ≤ p) (hp2 : p + 1 < n) :
    Calls Try.prog 64 #[.slice (some ⟨blk, 0, none⟩) n cap, .int .i64 p, .pointer (some ⟨sw, 0, none⟩)] w (MedPost w blk sw (p - 1) p (p + 1) X) := by
  have M1 := Lib.hid (median_any blk sw n cap (p - 1) p (p + 1) X w hM hn hne (by omega) (by omega) (by omega))
  have e1 : (p : Int) - 1 = ((p - 1 : Nat) : Int) := by omega
  have e2 : (p : Int) + 1 = ((p + 1 : Nat) : Int) := by omega
  clear hM hn
  generalize p - 1 = p0 at *
  generalize p + 1 = p2 at *
  go_enter Try.func64, Try.ntmps64
  go_wp2_with fail
  refine M1.out.mono ?_
  rintro e w1 ⟨m, rfl, h1, hm1⟩
  have H1 := Lib.hid h1
  have HM := Lib.hid hm1
  clear h1 hm1
  go_wp2
  go_ret
  exact ⟨m, rfl, H1.out, HM.out⟩
end Go.Proofs.Ytfnphohdipdmpaa.Rg
