/- The library's choice of a pivot lies within the range. -/
import Derived.Test.YtfnphohdipdmpaaMPivot
namespace Go.Proofs.Ytfnphohdipdmpaa.Rg
open Go.RowKit

def ChoosePost (w : World) (blk a b : Nat) (X : List Nat) (e : Ending) (w' : World) : Prop := ∃ (p : Nat) (h : Int), e = .returned (.tuple #[.int .i64 p, .int .i64 h]) ∧ a ≤ p ∧ p < b ∧ (h = 0 ∨ h = 1 ∨ h = 2) ∧ St w blk X w'

theorem st_of_md {w w0 w' : World} {blk : Nat} {X : List Nat} (hb : Below w.heap.size w w0) (h : Md w0 blk w.heap.size X w') : St w blk X w' := by
  refine ⟨X, List.Perm.refl _, h.row, ?_⟩
  have hg := h.grown
  have := hb.size
  exact ⟨hg.os.trans hb.os, hg.tape.trans hb.tape, hg.output.trans hb.output, by have := hg.size; omega, fun k hk _ => (hg.block k (by omega) (fun e => by cases e; omega)).trans (hb.block k hk)⟩

set_option maxHeartbeats 6400000 in
set_option maxRecDepth 100000 in
theorem choose_any (blk n cap a b : Nat) (X : List Nat) (w : World) (hX : RowF w blk X) (hn : X.length = n) (hs : n ≤ 1000000) (hb : b ≤ n) (hab : a + 12 < b) :
    Calls Try.prog 53 #[.slice (some ⟨blk, 0, none⟩) n cap, .int .i64 a, .int .i64 b] w (ChoosePost w blk a b X) := by
  have hbel : Below w.heap.size w (w.alloc (.cells #[.int .i64 0] 3)) := (Below.refl _ _).alloc (Nat.le_refl _) _
  have hM : Md (w.alloc (.cells #[.int .i64 0] 3)) blk w.heap.size X (w.alloc (.cells #[.int .i64 0] 3)) := by
    refine ⟨hX.keep hbel.size (hbel.block _ hX.lt), ⟨0, by simp [go_sem]⟩, by simp [go_sem], ⟨rfl, rfl, rfl, Nat.le_refl _, fun _ _ _ => rfl⟩, by simp⟩
  have hne : blk ≠ w.heap.size := fun e => by have := hX.lt; omega
  have HB := Lib.hid hbel
  have HM0 := Lib.hid hM
  have HN := Lib.hid hn
  have HNE := Lib.hid hne
  obtain ⟨l, hl⟩ : ∃ l : Nat, l = b - a := ⟨_, rfl⟩
  obtain ⟨f, hf⟩ : ∃ f : Nat, f = l / 4 := ⟨_, rfl⟩
  obtain ⟨i, hi⟩ : ∃ i : Nat, i = a + f := ⟨_, rfl⟩
  obtain ⟨j, hj⟩ : ∃ j : Nat, j = a + f * 2 := ⟨_, rfl⟩
  obtain ⟨k, hk⟩ : ∃ k : Nat, k = a + f * 3 := ⟨_, rfl⟩
  have hli : (b : Int) - (a : Int) = (l : Int) := by omega
  have hf1 : (l : Int).tdiv 4 = (f : Int) := by rw [Int.tdiv_eq_ediv_of_nonneg (by omega)]; omega
  have hf2 : (l : Int) / 4 = (f : Int) := by omega
  have hii : (a : Int) + (f : Int) = (i : Int) := by omega
  have hji : (a : Int) + (f : Int) * 2 = (j : Int) := by omega
  have hki : (a : Int) + (f : Int) * 3 = (k : Int) := by omega
  have H := Lib.hid (show a + 1 ≤ i ∧ i < j ∧ j < k ∧ k + 1 < b ∧ 13 ≤ l ∧ l ≤ 1000000 by omega)
  have hl8 : (8 : Int) ≤ (l : Int) := by omega
  have hln : l ≤ 1000000 := by omega
  have hfn : f ≤ 1000000 := by omega
  have hin : i < n := by omega
  have hjn : j < n := by omega
  have hkn : k < n := by omega
  clear hX hn hne hbel hM hl hf hi hj hk
  generalize hw0 : w.alloc (.cells #[.int .i64 0] 3) = w0 at HB HM0
  by_cases h50 : 50 ≤ l
  · have h50' : (50 : Int) ≤ (l : Int) := by omega
    have A1 := Lib.hid (medadj_any blk w.heap.size n cap i X w0 HM0.out HN.out HNE.out hs (by have := H.out; omega) (by have := H.out; omega))
    go_enter Try.func53, Try.ntmps53
    go_wp2_with fail
    clear hw0
    refine A1.out.mono ?_
    rintro e w1 ⟨i1, rfl, h1, hm1⟩
    have A2 := Lib.hid (medadj_any blk w.heap.size n cap j X w1 hm1.self HN.out HNE.out hs (by have := H.out; omega) (by have := H.out; omega))
    have HM1 := Lib.hid hm1
    have H1 := Lib.hid h1
    clear hm1 A1 h1
    go_wp2_with fail
    refine A2.out.mono ?_
    rintro e w2 ⟨j1, rfl, h2, hm2⟩
    have HM2 := Lib.hid (HM1.out.trans hm2)
    have A3 := Lib.hid (medadj_any blk w.heap.size n cap k X w2 hm2.self HN.out HNE.out hs (by have := H.out; omega) (by have := H.out; omega))
    have H2 := Lib.hid h2
    clear hm2 A2 h2 HM1
    go_wp2_with fail
    refine A3.out.mono ?_
    rintro e w3 ⟨k1, rfl, h3, hm3⟩
    have HM3 := Lib.hid (HM2.out.trans hm3)
    have H3 := Lib.hid h3
    have HR : Hid (a ≤ i1 ∧ i1 < b ∧ a ≤ j1 ∧ j1 < b ∧ a ≤ k1 ∧ k1 < b) := by
      show a ≤ i1 ∧ i1 < b ∧ a ≤ j1 ∧ j1 < b ∧ a ≤ k1 ∧ k1 < b
      have := H.out
      have := H1.out
      have := H2.out
      have := H3.out
      omega
    have A4 := Lib.hid (median_any blk w.heap.size n cap i1 j1 k1 X w3 hm3.self HN.out HNE.out (by have := HR.out; omega) (by have := HR.out; omega) (by have := HR.out; omega))
    clear hm3 A3 h3 HM2
    go_wp2_with fail
    refine A4.out.mono ?_
    rintro e w4 ⟨m, rfl, h4, hm4⟩
    have HM4 := Lib.hid (HM3.out.trans hm4)
    have HMR : Hid (a ≤ m ∧ m < b) := by
      show a ≤ m ∧ m < b
      have := HR.out
      omega
    clear hm4 A4 h4 HM3
    obtain ⟨z, hz⟩ := HM4.out.cnt
    by_cases z0 : z = 0
    · have b0 : (z == 0) = true := by simp [z0]
      clear z0
      go_wp2
      go_ret2
      exact ⟨m, 1, rfl, HMR.out.1, HMR.out.2, by omega, st_of_md HB.out HM4.out⟩
    · have b0 : (z == 0) = false := beq_false_of_ne z0
      by_cases z1 : z = 12
      · have b1 : (z == 12) = true := by simp [z1]
        clear z0 z1
        go_wp2
        go_ret2
        exact ⟨m, 2, rfl, HMR.out.1, HMR.out.2, by omega, st_of_md HB.out HM4.out⟩
      · have b1 : (z == 12) = false := beq_false_of_ne z1
        clear z0 z1
        go_wp2
        go_ret2
        exact ⟨m, 0, rfl, HMR.out.1, HMR.out.2, by omega, st_of_md HB.out HM4.out⟩
  · have h50' : ¬ (50 : Int) ≤ (l : Int) := by omega
    have A4 := Lib.hid (median_any blk w.heap.size n cap i j k X w0 HM0.out HN.out HNE.out (by omega) (by omega) (by omega))
    go_enter Try.func53, Try.ntmps53
    go_wp2_with fail
    clear hw0
    refine A4.out.mono ?_
    rintro e w4 ⟨m, rfl, h4, hm4⟩
    have HM4 := Lib.hid hm4
    have HMR : Hid (a ≤ m ∧ m < b) := by
      show a ≤ m ∧ m < b
      have := H.out
      omega
    clear hm4 A4 h4
    obtain ⟨z, hz⟩ := HM4.out.cnt
    by_cases z0 : z = 0
    · have b0 : (z == 0) = true := by simp [z0]
      clear z0
      go_wp2
      go_ret2
      exact ⟨m, 1, rfl, HMR.out.1, HMR.out.2, by omega, st_of_md HB.out HM4.out⟩
    · have b0 : (z == 0) = false := beq_false_of_ne z0
      by_cases z1 : z = 12
      · have b1 : (z == 12) = true := by simp [z1]
        clear z0 z1
        go_wp2
        go_ret2
        exact ⟨m, 2, rfl, HMR.out.1, HMR.out.2, by omega, st_of_md HB.out HM4.out⟩
      · have b1 : (z == 12) = false := beq_false_of_ne z1
        clear z0 z1
        go_wp2
        go_ret2
        exact ⟨m, 0, rfl, HMR.out.1, HMR.out.2, by omega, st_of_md HB.out HM4.out⟩
end Go.Proofs.Ytfnphohdipdmpaa.Rg
