/- Numbers and columns as the package's formulas have them. -/
import Derived.Test.YtfnphohdipdmpaaMIn
import Derived.Test.YtfnphohdipdmpaaMList
namespace Go.Proofs.Ytfnphohdipdmpaa.Rg
open Go.RowKit

/-- The ten cells of a number of a formula. -/
def faCells (z : Int) : List Value := [.string ⟨#[]⟩, .float .f64 (fl z), .string ⟨#[]⟩, .slice none 0 0, .slice none 0 0, .bool false, .string ⟨#[]⟩, .int .u8 1, .pointer none, .pointer none]

set_option maxHeartbeats 1600000 in
theorem mathnan_any (a : Nat) (w : World) : Calls Try.prog 46 #[.float .f64 a] w fun e w' => e = .returned (.bool (nanF a)) ∧ w' = w := by
  go_enter Try.func46, Try.ntmps46
  go_wp2
  go_ret
  exact ⟨rfl, rfl⟩

theorem fl_nan {z : Int} (h1 : -9 ≤ z) (h2 : z ≤ 9) : nanF (fl z) = false := by
  have h := fl_eq h1 h2 h1 h2
  simp only [decide_true, beq_iff_eq] at h
  unfold nanF
  rw [h]
  rfl

set_option maxHeartbeats 3200000 in
set_option maxRecDepth 100000 in
theorem newnum_any (z : Int) (w : World) (h1 : -9 ≤ z) (h2 : z ≤ 9) :
    Calls Try.prog 37 #[.float .f64 (fl z)] w fun e w' => e = .returned (.agg (faCells z).toArray) ∧ Below w.heap.size w w' := by
  have hst := store_float Try.prog
  have NN := fun w => mathnan_any (fl z) w
  rw [fl_nan h1 h2] at NN
  have hz0 := fl_eq h1 h2 (show (-9 : Int) ≤ 0 by decide) (show (0 : Int) ≤ 9 by decide)
  rw [fl_zero] at hz0
  have hal : ∀ o, Below w.heap.size w (w.alloc o) := fun o => (Below.refl _ _).alloc (Nat.le_refl _) _
  by_cases hz : z = 0
  · have hq : fl z = 0 := by rw [hz]; exact fl_zero
    have HQ := Lib.hid hq
    rw [hq] at NN hz0 ⊢
    rw [decide_eq_true hz] at hz0
    clear hz hq
    go_enter Try.func37, Try.ntmps37
    go_wp2_with fail
    refine (NN _).mono ?_
    rintro e w1 ⟨rfl, rfl⟩
    go_wp2
    (try simp only [Exit.inBlock, Exit.then])
    exact bodyPost_ret (v := .agg #[.string ⟨#[]⟩, .float .f64 0, .string ⟨#[]⟩, .slice none 0 0, .slice none 0 0, .bool false, .string ⟨#[]⟩, .int .u8 1, .pointer none, .pointer none]) (by simp [results, Try.results37, go_sem]) rfl ⟨by unfold faCells; rw [HQ.out], hal _⟩
  · rw [decide_eq_false hz] at hz0
    obtain ⟨q, hqe⟩ : ∃ q, fl z = q := ⟨_, rfl⟩
    rw [hqe] at NN hz0 ⊢
    have HQ := Lib.hid hqe
    clear hz hqe
    go_enter Try.func37, Try.ntmps37
    go_wp2_with fail
    refine (NN _).mono ?_
    rintro e w1 ⟨rfl, rfl⟩
    go_wp2
    (try simp only [Exit.inBlock, Exit.then])
    exact bodyPost_ret (v := .agg #[.string ⟨#[]⟩, .float .f64 q, .string ⟨#[]⟩, .slice none 0 0, .slice none 0 0, .bool false, .string ⟨#[]⟩, .int .u8 1, .pointer none, .pointer none]) (by simp [results, Try.results37, go_sem]) rfl ⟨by unfold faCells; rw [HQ.out], hal _⟩
/-- The ten cells of a block. -/
theorem ten {w : World} {g : Nat} {t : TypeId} {a b c d e f h i j k : Value} (hh : w.heap[g]? = some (.cells #[a, b, c, d, e, f, h, i, j, k] t (0, 0))) :
    w.cell? ⟨g, 0, none⟩ = some a ∧ w.cell? ⟨g, 1, none⟩ = some b ∧ w.cell? ⟨g, 2, none⟩ = some c ∧ w.cell? ⟨g, 3, none⟩ = some d ∧ w.cell? ⟨g, 4, none⟩ = some e ∧
    w.cell? ⟨g, 5, none⟩ = some f ∧ w.cell? ⟨g, 6, none⟩ = some h ∧ w.cell? ⟨g, 7, none⟩ = some i ∧ w.cell? ⟨g, 8, none⟩ = some j ∧ w.cell? ⟨g, 9, none⟩ = some k ∧ ∀ q, w.frozen? ⟨g, q, none⟩ = false := by
  refine ⟨?_, ?_, ?_, ?_, ?_, ?_, ?_, ?_, ?_, ?_, fun q => ?_⟩ <;> simp [World.cell?, World.frozen?, hh]

def put10 (w : World) (g : Nat) (v0 v1 v2 v3 v4 v5 v6 v7 v8 v9 : Value) : World :=
  (((((((((w.setCell ⟨g, 0, none⟩ v0).setCell ⟨g, 1, none⟩ v1).setCell ⟨g, 2, none⟩ v2).setCell ⟨g, 3, none⟩ v3).setCell ⟨g, 4, none⟩ v4).setCell ⟨g, 5, none⟩ v5).setCell ⟨g, 6, none⟩ v6).setCell ⟨g, 7, none⟩ v7).setCell ⟨g, 8, none⟩ v8).setCell ⟨g, 9, none⟩ v9

theorem put10_below {w0 w : World} {g : Nat} (h : Below w0.heap.size w0 w) (hg : w0.heap.size ≤ g) (v0 v1 v2 v3 v4 v5 v6 v7 v8 v9 : Value) : Below w0.heap.size w0 (put10 w g v0 v1 v2 v3 v4 v5 v6 v7 v8 v9) :=
  (((((((((h.setCell (p := ⟨g, 0, none⟩) hg v0).setCell (p := ⟨g, 1, none⟩) hg v1).setCell (p := ⟨g, 2, none⟩) hg v2).setCell (p := ⟨g, 3, none⟩) hg v3).setCell (p := ⟨g, 4, none⟩) hg v4).setCell (p := ⟨g, 5, none⟩) hg v5).setCell (p := ⟨g, 6, none⟩) hg v6).setCell (p := ⟨g, 7, none⟩) hg v7).setCell (p := ⟨g, 8, none⟩) hg v8).setCell (p := ⟨g, 9, none⟩) hg v9

set_option maxHeartbeats 6400000 in
set_option maxRecDepth 100000 in
theorem inner_num (z : Int) (w : World) (h1 : -9 ≤ z) (h2 : z ≤ 9) :
    Calls Try.prog 32 #[iv z] w fun e w' => e = .returned (.agg (faCells z).toArray) ∧ Below w.heap.size w w' := by
  have hst := store_float Try.prog
  have NM := Lib.hid (fun w => newnum_any z w h1 h2)
  have hb0 : Below w.heap.size w ((w.alloc (.cells #[.int .i64 1, .float .f64 (fl z), .string ⟨#[]⟩, .slice none 0 0] 46)).alloc (.cells #[.string ⟨#[]⟩, .float .f64 0, .string ⟨#[]⟩, .slice none 0 0, .slice none 0 0, .bool false, .string ⟨#[]⟩, .int .u8 0, .pointer none, .pointer none] 60)) := ((Below.refl _ _).alloc (Nat.le_refl _) _).alloc (by simp) _
  have hbx : ((w.alloc (.cells #[.int .i64 1, .float .f64 (fl z), .string ⟨#[]⟩, .slice none 0 0] 46)).alloc (.cells #[.string ⟨#[]⟩, .float .f64 0, .string ⟨#[]⟩, .slice none 0 0, .slice none 0 0, .bool false, .string ⟨#[]⟩, .int .u8 0, .pointer none, .pointer none] 60)).heap[w.heap.size + 1]? = some (.cells #[.string ⟨#[]⟩, .float .f64 0, .string ⟨#[]⟩, .slice none 0 0, .slice none 0 0, .bool false, .string ⟨#[]⟩, .int .u8 0, .pointer none, .pointer none] 60 (0, 0)) := by
    have := heap_alloc_new (w.alloc (.cells #[.int .i64 1, .float .f64 (fl z), .string ⟨#[]⟩, .slice none 0 0] 46)) (.cells #[.string ⟨#[]⟩, .float .f64 0, .string ⟨#[]⟩, .slice none 0 0, .slice none 0 0, .bool false, .string ⟨#[]⟩, .int .u8 0, .pointer none, .pointer none] 60)
    simpa using this
  have HB0 := Lib.hid hb0
  have HBX := Lib.hid hbx
  unfold iv
  obtain ⟨q, hqe⟩ : ∃ q, fl z = q := ⟨_, rfl⟩
  rw [hqe] at NM HB0 HBX ⊢
  have HQ := Lib.hid hqe
  clear hqe hb0 hbx
  go_enter Try.func32, Try.ntmps32
  go_wp2_with fail
  refine (NM.out _).mono ?_
  rintro e w1 ⟨rfl, hb1⟩
  have hbx1 := (hb1.block _ (Array.getElem?_eq_some_iff.1 HBX.out).1).trans HBX.out
  obtain ⟨s0, s1, s2, s3, s4, s5, s6, s7, s8, s9, sf⟩ := ten hbx1
  have HB1 := Lib.hid (HB0.out.trans (hb1.mono HB0.out.size))
  clear hb1 HB0 HBX hbx1
  unfold faCells
  rw [HQ.out]
  have hwg : w.heap.size ≤ w.heap.size + 1 := by omega
  have HWG := Lib.hid hwg
  clear hwg
  go_wp2
  (try simp only [Exit.inBlock, Exit.then])
  exact bodyPost_ret (v := .agg #[.string ⟨#[]⟩, .float .f64 q, .string ⟨#[]⟩, .slice none 0 0, .slice none 0 0, .bool false, .string ⟨#[]⟩, .int .u8 1, .pointer none, .pointer none]) (by simp [results, Try.results32, go_sem, s0, s1, s2, s3, s4, s5, s6, s7, s8, s9]) rfl ⟨by unfold faCells; rw [HQ.out], put10_below HB1.out HWG.out _ _ _ _ _ _ _ _ _ _⟩
end Go.Proofs.Ytfnphohdipdmpaa.Rg
