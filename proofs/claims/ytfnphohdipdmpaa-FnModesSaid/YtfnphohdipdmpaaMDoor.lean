/- MODE.SNGL through the doors, and the comparison of what it answers. -/
import Derived.Test.YtfnphohdipdmpaaMModeF
namespace Go.Proofs.Ytfnphohdipdmpaa.Rg
open Go.RowKit

/-- The four cells of a block. -/
theorem fours {w : World} {g : Nat} {t : TypeId} {a b c d : Value} (hh : w.heap[g]? = some (.cells #[a, b, c, d] t (0, 0))) :
    w.cell? ⟨g, 0, none⟩ = some a ∧ w.cell? ⟨g, 1, none⟩ = some b ∧ w.cell? ⟨g, 2, none⟩ = some c ∧ w.cell? ⟨g, 3, none⟩ = some d ∧ ∀ q, w.frozen? ⟨g, q, none⟩ = false := by
  refine ⟨?_, ?_, ?_, ?_, fun q => ?_⟩ <;> simp [World.cell?, World.frozen?, hh]

theorem put4_below {w0 w : World} {g : Nat} (h : Below w0.heap.size w0 w) (hg : w0.heap.size ≤ g) (v0 v1 v2 v3 : Value) : Below w0.heap.size w0 ((((w.setCell ⟨g, 0, none⟩ v0).setCell ⟨g, 1, none⟩ v1).setCell ⟨g, 2, none⟩ v2).setCell ⟨g, 3, none⟩ v3) :=
  (((h.setCell (p := ⟨g, 0, none⟩) hg v0).setCell (p := ⟨g, 1, none⟩) hg v1).setCell (p := ⟨g, 2, none⟩) hg v2).setCell (p := ⟨g, 3, none⟩) hg v3

set_option maxHeartbeats 6400000 in
set_option maxRecDepth 100000 in
theorem snglf_any (a : Addr) (gl : Nat) (X : List Int) (m : Int) (w : World) (hn1 : 1 ≤ X.length) (hn2 : X.length ≤ 100) (hX : ∀ x ∈ X, -9 ≤ x ∧ x ≤ 9) (hu : Uniq X m) (hL : FListAt w X gl) :
    Calls Try.prog 24 #[.pointer (some a), .pointer (some ⟨gl, 0, none⟩)] w (ModeFPost w m) := by
  have hst := store_float Try.prog
  have hal : Below w.heap.size w (w.alloc (.cells #[.string ⟨#[]⟩, .float .f64 0, .string ⟨#[]⟩, .slice none 0 0, .slice none 0 0, .bool false, .string ⟨#[]⟩, .int .u8 0, .pointer none, .pointer none] 60)) := (Below.refl _ _).alloc (Nat.le_refl _) _
  have h9 := heap_alloc_new w (.cells #[.string ⟨#[]⟩, .float .f64 0, .string ⟨#[]⟩, .slice none 0 0, .slice none 0 0, .bool false, .string ⟨#[]⟩, .int .u8 0, .pointer none, .pointer none] 60)
  have HAL := Lib.hid hal
  have HZ := Lib.hid h9
  have HL : Hid (FListAt (w.alloc (.cells #[.string ⟨#[]⟩, .float .f64 0, .string ⟨#[]⟩, .slice none 0 0, .slice none 0 0, .bool false, .string ⟨#[]⟩, .int .u8 0, .pointer none, .pointer none] 60)) X gl) := by
    obtain ⟨ge, A, c, p, q, h1, h2, h3⟩ := hL
    exact ⟨ge, A, c, p, q, (hal.block gl (Array.getElem?_eq_some_iff.1 h1).1).trans h1, (hal.block ge (Array.getElem?_eq_some_iff.1 h2).1).trans h2, h3.later hal⟩
  have MF := Lib.hid (modef_any a gl X m _ hn1 hn2 hX hu HL.out)
  clear hX hu hal h9 hL
  go_enter Try.func24, Try.ntmps24
  go_wp2_with fail
  refine (llen_any gl X _ HL.out).mono ?_
  rintro e w1 ⟨rfl, rfl⟩
  clear HL
  go_wp2_with fail
  refine MF.out.mono ?_
  rintro e w3 ⟨rfl, hb3⟩
  have hz3 := (hb3.block _ (Array.getElem?_eq_some_iff.1 HZ.out).1).trans HZ.out
  obtain ⟨s0, s1, s2, s3, s4, s5, s6, s7, s8, s9, sf⟩ := ten hz3
  have HB3 := Lib.hid (HAL.out.trans (hb3.mono HAL.out.size))
  unfold faCells
  obtain ⟨zm, hzm⟩ : ∃ z, fl m = z := ⟨_, rfl⟩
  have HZM := Lib.hid hzm
  rw [hzm]
  clear hz3 hb3 MF HAL HZ hzm
  go_wp2
  (try simp only [Exit.inBlock, Exit.then])
  exact bodyPost_ret (v := .agg #[.string ⟨#[]⟩, .float .f64 zm, .string ⟨#[]⟩, .slice none 0 0, .slice none 0 0, .bool false, .string ⟨#[]⟩, .int .u8 1, .pointer none, .pointer none]) (by simp [results, Try.results24, go_sem, s0, s1, s2, s3, s4, s5, s6, s7, s8, s9]) rfl ⟨by unfold faCells; rw [HZM.out], put10_below HB3.out (Nat.le_refl _) _ _ _ _ _ _ _ _ _ _⟩

def IvPost (w : World) (m : Int) (e : Ending) (w' : World) : Prop := e = .returned (iv m) ∧ Below w.heap.size w w'

set_option maxHeartbeats 3200000 in
set_option maxRecDepth 100000 in
theorem doorarg_any (m : Int) (w : World) : Calls Try.prog 22 #[.agg (faCells m).toArray] w (IvPost w m) := by
  have hst := store_float Try.prog
  unfold faCells IvPost iv
  obtain ⟨zm, hzm⟩ : ∃ z, fl m = z := ⟨_, rfl⟩
  rw [hzm]
  have hal : ∀ o1 o2, Below w.heap.size w ((w.alloc o1).alloc o2) := fun o1 o2 => ((Below.refl _ _).alloc (Nat.le_refl _) o1).alloc (by simp) o2
  have HP := Lib.hid hal
  clear hzm hal
  go_enter Try.func22, Try.ntmps22
  go_wp2
  (try simp only [Exit.inBlock, Exit.then])
  exact bodyPost_ret (v := .agg #[.int .i64 1, .float .f64 zm, .string ⟨#[]⟩, .slice none 0 0]) (by simp [results, Try.results22, go_sem]) rfl ⟨rfl, HP.out _ _⟩

set_option maxHeartbeats 3200000 in
set_option maxRecDepth 100000 in
theorem out_any (m : Int) (w : World) : Calls Try.prog 15 #[iv m] w (IvPost w m) := by
  have hst := store_float Try.prog
  unfold IvPost iv
  obtain ⟨zm, hzm⟩ : ∃ z, fl m = z := ⟨_, rfl⟩
  rw [hzm]
  clear hzm
  have hb0 : ∀ o1 o2 o3, Below w.heap.size w (((w.alloc o1).alloc o2).alloc o3) := fun o1 o2 o3 => (((Below.refl _ _).alloc (Nat.le_refl _) o1).alloc (by simp) o2).alloc (by simp; omega) o3
  have HP := Lib.hid hb0
  clear hb0
  go_enter Try.func15, Try.ntmps15
  go_wp2
  obtain ⟨w0, hw0⟩ : ∃ w0, w0 = ((w.alloc (.cells #[.int .i64 1, .float .f64 zm, .string ⟨#[]⟩, .slice none 0 0] 46)).alloc (.cells #[.int .i64 0, .float .f64 0, .string ⟨#[]⟩, .slice none 0 0] 32)).alloc (.cells #[.int .i64 1, .float .f64 zm, .string ⟨#[]⟩, .slice none 0 0] 32) := ⟨_, rfl⟩
  rw [← hw0]
  have hb : Below w.heap.size w w0 := by rw [hw0]; exact HP.out _ _ _
  have z3 : w0.heap[w.heap.size + 2]? = some (.cells #[.int .i64 1, .float .f64 zm, .string ⟨#[]⟩, .slice none 0 0] 32 (0, 0)) := by
    rw [hw0]
    have := heap_alloc_new ((w.alloc (.cells #[.int .i64 1, .float .f64 zm, .string ⟨#[]⟩, .slice none 0 0] 46)).alloc (.cells #[.int .i64 0, .float .f64 0, .string ⟨#[]⟩, .slice none 0 0] 32)) (.cells #[.int .i64 1, .float .f64 zm, .string ⟨#[]⟩, .slice none 0 0] 32)
    simpa using this
  have z2 : w0.heap[w.heap.size + 1]? = some (.cells #[.int .i64 0, .float .f64 0, .string ⟨#[]⟩, .slice none 0 0] 32 (0, 0)) := by
    rw [hw0, Below.heap_alloc _ _ _ (by simp)]
    have := heap_alloc_new (w.alloc (.cells #[.int .i64 1, .float .f64 zm, .string ⟨#[]⟩, .slice none 0 0] 46)) (.cells #[.int .i64 0, .float .f64 0, .string ⟨#[]⟩, .slice none 0 0] 32)
    simpa using this
  obtain ⟨s0, s1, s2, s3, sf⟩ := fours z3
  obtain ⟨r0, r1, r2, r3, rf⟩ := fours z2
  have HB := Lib.hid hb
  clear hw0 hb HP z2 z3
  go_loopw [19] (fun i wr => i = .int .i64 0 ∧ w0 = wr) (fun _ _ => 0)
  case atStart => exact ⟨rfl, rfl⟩
  case round =>
    obtain ⟨rfl, rfl⟩ := hrel
    go_wp2
    (try simp only [Exit.inBlock, Exit.then])
    exact bodyPost_ret (v := .agg #[.int .i64 1, .float .f64 zm, .string ⟨#[]⟩, .slice none 0 0]) (by simp [results, Try.results15, go_sem, r0, r1, r2, r3]) rfl ⟨rfl, put4_below HB.out (Nat.le_succ _) _ _ _ _⟩

def TruePost (w : World) (b : Bool) (e : Ending) (w' : World) : Prop := e = .returned (.bool b) ∧ Below w.heap.size w w'

set_option maxHeartbeats 3200000 in
set_option maxRecDepth 100000 in
theorem same_num (m : Int) (w : World) (h1 : -9 ≤ m) (h2 : m ≤ 9) : Calls Try.prog 6 #[iv m, sv m] w (TruePost w true) := by
  have hst := store_float Try.prog
  have OF := Lib.hid (fun w => of_num m w h1 h2)
  have hfe := fl_eq h1 h2 h1 h2
  rw [decide_eq_true rfl] at hfe
  have hfe := beq_iff_eq.1 hfe
  unfold iv sv at *
  obtain ⟨zm, hzm⟩ : ∃ z, fl m = z := ⟨_, rfl⟩
  rw [hzm] at hfe OF ⊢
  clear hzm
  have hal : Below w.heap.size w ((w.alloc (.cells #[.int .i64 1, .float .f64 zm, .string ⟨#[]⟩, .slice none 0 0] 32)).alloc (.cells #[.int .i64 1, .int .i64 m, .int .i64 1, .string ⟨#[]⟩, .slice none 0 0] 26)) := ((Below.refl _ _).alloc (Nat.le_refl _) _).alloc (by simp) _
  have HAL := Lib.hid hal
  have hz : ((w.alloc (.cells #[.int .i64 1, .float .f64 zm, .string ⟨#[]⟩, .slice none 0 0] 32)).alloc (.cells #[.int .i64 1, .int .i64 m, .int .i64 1, .string ⟨#[]⟩, .slice none 0 0] 26)).heap[w.heap.size]? = some (.cells #[.int .i64 1, .float .f64 zm, .string ⟨#[]⟩, .slice none 0 0] 32 (0, 0)) := by
    rw [Below.heap_alloc _ _ _ (by simp)]
    exact heap_alloc_new w _
  have HZ := Lib.hid hz
  clear hal hz
  go_enter Try.func6, Try.ntmps6
  go_wp2_with fail
  refine (OF.out _).mono ?_
  rintro e w1 ⟨rfl, hb1⟩
  have hz1 := (hb1.block _ (Array.getElem?_eq_some_iff.1 HZ.out).1).trans HZ.out
  obtain ⟨s0, s1, s2, s3, sf⟩ := fours hz1
  have HB1 := Lib.hid (HAL.out.trans (hb1.mono HAL.out.size))
  have hlt := (Array.getElem?_eq_some_iff.1 hz1).1
  have hal2 : Below w1.heap.size w1 (w1.alloc (.cells #[.int .i64 1, .float .f64 zm, .string ⟨#[]⟩, .slice none 0 0] 32)) := (Below.refl _ _).alloc (Nat.le_refl _) _
  have hz2 := (hal2.block _ hlt).trans hz1
  have HB2 := Lib.hid (HB1.out.trans (hal2.mono HB1.out.size))
  obtain ⟨w2, hw2⟩ : ∃ w2, w1.alloc (.cells #[.int .i64 1, .float .f64 zm, .string ⟨#[]⟩, .slice none 0 0] 32) = w2 := ⟨_, rfl⟩
  rw [hw2] at hz2 HB2
  obtain ⟨r0, r1, r2, r3, rf⟩ := fours hz2
  have HW2 := Lib.hid hw2
  clear hz1 hb1 HAL HZ hz2 hal2 hw2
  go_wp2
  rw [HW2.out]
  clear HW2 s0 s1 s2 s3 sf hfe
  go_loopw [6] (fun i wr => i = .int .i64 0 ∧ w2 = wr) (fun _ _ => 0)
  case atStart => exact ⟨rfl, rfl⟩
  case round =>
    obtain ⟨rfl, rfl⟩ := hrel
    go_wp2
    go_ret
    exact ⟨rfl, HB2.out⟩

set_option maxHeartbeats 3200000 in
set_option maxRecDepth 100000 in
theorem doorsngl_any (g c : Nat) (X : List Int) (m : Int) (w : World) (hn1 : 1 ≤ X.length) (hn2 : X.length ≤ 100) (hX : ∀ x ∈ X, -9 ≤ x ∧ x ≤ 9) (hu : Uniq X m) (hA : ColAt w 46 ivCells X g) :
    Calls Try.prog 16 #[.slice (some ⟨g, 0, none⟩) 1 c] w (IvPost w m) := by
  have hst := store_float Try.prog
  have HX := Lib.hid hX
  have HU := Lib.hid hu
  have hal : Below w.heap.size w (w.alloc (.cells #[.int .i64 0, .float .f64 0, .string ⟨#[]⟩, .slice none 0 0] 46)) := (Below.refl _ _).alloc (Nat.le_refl _) _
  have HAL := Lib.hid hal
  have HZ := Lib.hid (heap_alloc_new w (.cells #[.int .i64 0, .float .f64 0, .string ⟨#[]⟩, .slice none 0 0] 46))
  have HA := Lib.hid (hA.later hal)
  clear hX hu hal hA
  go_enter Try.func16, Try.ntmps16
  go_wp2_with fail
  refine (funcs_any _).mono ?_
  rintro e w1 ⟨⟨a, rfl⟩, hb1⟩
  have HB1 := Lib.hid (HAL.out.trans (hb1.mono HAL.out.size))
  have HZ1 := Lib.hid ((hb1.block _ (Array.getElem?_eq_some_iff.1 HZ.out).1).trans HZ.out)
  have IL := Lib.hid (inner_list g c X w1 hn1 hn2 HX.out (HA.out.later hb1))
  clear HA HAL HZ hb1
  go_wp2_with fail
  refine IL.out.mono ?_
  rintro e w2 ⟨gl, rfl, hL, hb2⟩
  have HB2 := Lib.hid (HB1.out.trans (hb2.mono HB1.out.size))
  have HZ2 := Lib.hid ((hb2.block _ (Array.getElem?_eq_some_iff.1 HZ1.out).1).trans HZ1.out)
  have SN := Lib.hid (snglf_any a gl X m w2 hn1 hn2 HX.out HU.out hL)
  clear IL hL hb2 HB1 HZ1
  go_wp2_with fail
  refine SN.out.mono ?_
  rintro e w3 ⟨rfl, hb3⟩
  have HB3 := Lib.hid (HB2.out.trans (hb3.mono HB2.out.size))
  have HZ3 := Lib.hid ((hb3.block _ (Array.getElem?_eq_some_iff.1 HZ2.out).1).trans HZ2.out)
  have DA := Lib.hid (doorarg_any m w3)
  clear SN hb3 HB2 HZ2
  go_wp2_with fail
  refine DA.out.mono ?_
  rintro e w4 ⟨rfl, hb4⟩
  have HB4 := Lib.hid (HB3.out.trans (hb4.mono HB3.out.size))
  have hz4 := (hb4.block _ (Array.getElem?_eq_some_iff.1 HZ3.out).1).trans HZ3.out
  obtain ⟨r0, r1, r2, r3, rf⟩ := fours hz4
  clear DA hb4 HB3 HZ3 hz4
  unfold iv
  obtain ⟨zm, hzm⟩ : ∃ z, fl m = z := ⟨_, rfl⟩
  have HZM := Lib.hid hzm
  rw [hzm]
  clear hzm
  go_wp2
  (try simp only [Exit.inBlock, Exit.then])
  exact bodyPost_ret (v := .agg #[.int .i64 1, .float .f64 zm, .string ⟨#[]⟩, .slice none 0 0]) (by simp [results, Try.results16, go_sem, r0, r1, r2, r3]) rfl ⟨by unfold iv; rw [HZM.out], put4_below HB4.out (Nat.le_refl _) _ _ _ _⟩

set_option maxHeartbeats 3200000 in
set_option maxRecDepth 100000 in
theorem sngl_any (g c : Nat) (X : List Int) (m : Int) (w : World) (hn1 : 1 ≤ X.length) (hn2 : X.length ≤ 100) (hX : ∀ x ∈ X, -9 ≤ x ∧ x ≤ 9) (hu : Uniq X m) (hA : ColAt w 32 ivCells X g) :
    Calls Try.prog 7 #[.slice (some ⟨g, 0, none⟩) 1 c] w (IvPost w m) := by
  have hst := store_float Try.prog
  have HX := Lib.hid hX
  have HU := Lib.hid hu
  have hal : Below w.heap.size w (w.alloc (.cells #[.int .i64 0, .float .f64 0, .string ⟨#[]⟩, .slice none 0 0] 32)) := (Below.refl _ _).alloc (Nat.le_refl _) _
  have HAL := Lib.hid hal
  have HZ := Lib.hid (heap_alloc_new w (.cells #[.int .i64 0, .float .f64 0, .string ⟨#[]⟩, .slice none 0 0] 32))
  have HA := Lib.hid (hA.later hal)
  clear hX hu hal hA
  go_enter Try.func7, Try.ntmps7
  go_wp2_with fail
  obtain ⟨_, A, cA, k0, k1, k2, k3, hr⟩ := HA.out
  refine (in_one g c A X.length cA X _ rfl hn2 hr k0 k1 k2 k3).mono ?_
  rintro e w1 ⟨g1, c1, rfl, hc1, hb1⟩
  have HB1 := Lib.hid (HAL.out.trans (hb1.mono HAL.out.size))
  have HZ1 := Lib.hid ((hb1.block _ (Array.getElem?_eq_some_iff.1 HZ.out).1).trans HZ.out)
  have DS := Lib.hid (doorsngl_any g1 c1 X m w1 hn1 hn2 HX.out HU.out hc1)
  clear HA HAL HZ hb1 hc1 k0 k1 k2 k3 hr
  go_wp2_with fail
  refine DS.out.mono ?_
  rintro e w2 ⟨rfl, hb2⟩
  have HB2 := Lib.hid (HB1.out.trans (hb2.mono HB1.out.size))
  have HZ2 := Lib.hid ((hb2.block _ (Array.getElem?_eq_some_iff.1 HZ1.out).1).trans HZ1.out)
  have OU := Lib.hid (out_any m w2)
  clear DS hb2 HB1 HZ1
  go_wp2_with fail
  refine OU.out.mono ?_
  rintro e w4 ⟨rfl, hb4⟩
  have HB4 := Lib.hid (HB2.out.trans (hb4.mono HB2.out.size))
  have hz4 := (hb4.block _ (Array.getElem?_eq_some_iff.1 HZ2.out).1).trans HZ2.out
  obtain ⟨r0, r1, r2, r3, rf⟩ := fours hz4
  clear OU hb4 HB2 HZ2 hz4
  unfold iv
  obtain ⟨zm, hzm⟩ : ∃ z, fl m = z := ⟨_, rfl⟩
  have HZM := Lib.hid hzm
  rw [hzm]
  clear hzm
  go_wp2
  (try simp only [Exit.inBlock, Exit.then])
  exact bodyPost_ret (v := .agg #[.int .i64 1, .float .f64 zm, .string ⟨#[]⟩, .slice none 0 0]) (by simp [results, Try.results7, go_sem, r0, r1, r2, r3]) rfl ⟨by unfold iv; rw [HZM.out], put4_below HB4.out (Nat.le_refl _) _ _ _ _⟩
end Go.Proofs.Ytfnphohdipdmpaa.Rg
