/- The library's breaking of patterns puts the elements in another order. -/
import Derived.Test.YtfnphohdipdmpaaMRow
import Derived.Test.YtfnphohdipdmpaaShelf
namespace Go.Proofs.Ytfnphohdipdmpaa.Rg
open Go.RowKit

/-- A number in block rb; all blocks else as they were. -/
structure Rn (w : World) (rb : Nat) (w' : World) : Prop where
  cnt : ∃ z : Int, w'.cell? ⟨rb, 0, none⟩ = some (.int .u64 z)
  free : w'.frozen? ⟨rb, 0, none⟩ = false
  grown : w.grownBy w' (some rb)
  lt : rb < w'.heap.size

theorem Rn.set {w w1 : World} {rb : Nat} (h : Rn w rb w1) (q : Nat) (z : Int) : Rn w rb ((w1.drewN q).setCell ⟨rb, 0, none⟩ (.int .u64 z)) := by
  obtain ⟨y, hy⟩ := h.cnt
  have hy' : (w1.drewN q).cell? ⟨rb, 0, none⟩ = some (.int .u64 y) := hy
  exact ⟨⟨z, by simp [go_sem, hy']⟩, (World.frozen?_setCell _ _ _ _).trans h.free, Lib.grownBy_trans (grownBy_drewN h.grown q) (Lib.grownBy_setCell _ rb 0 _), by have := h.lt; simpa [World.setCell] using this⟩

def NextPost (w : World) (rb : Nat) (e : Ending) (w' : World) : Prop := ∃ z : Int, e = .returned (.int .u64 z) ∧ Rn w rb w'

set_option maxHeartbeats 3200000 in
set_option maxRecDepth 100000 in
theorem next_any (rb : Nat) (w : World) (h : Rn w rb w) :
    Calls Try.prog 63 #[.pointer (some ⟨rb, 0, none⟩)] w (NextPost w rb) := by
  obtain ⟨z, hz⟩ := h.cnt
  have hf := h.free
  have H := Lib.hid h
  clear h
  go_enter Try.func63, Try.ntmps63
  go_wp2_with fail
  go_region
  have H1 : Hid (Rn w rb ((w.setCell ⟨rb, 0, none⟩ (.int .u64 (bits .xor .u64 z (IntKind.u64.wrap (z * 8192))))).drew)) := H.out.set 1 _
  generalize (w.setCell ⟨rb, 0, none⟩ (.int .u64 (bits .xor .u64 z (IntKind.u64.wrap (z * 8192))))).drew = w1 at H1 ⊢
  obtain ⟨z1, hz1⟩ := H1.out.cnt
  have hfz1 := H1.out.free
  go_wp2_with fail
  go_region
  have H2 : Hid (Rn w rb ((w1.setCell ⟨rb, 0, none⟩ (.int .u64 (bits .xor .u64 z1 (z1 / 128)))).drew)) := H1.out.set 1 _
  generalize (w1.setCell ⟨rb, 0, none⟩ (.int .u64 (bits .xor .u64 z1 (z1 / 128)))).drew = w2 at H2 ⊢
  obtain ⟨z2, hz2⟩ := H2.out.cnt
  have hfz2 := H2.out.free
  go_wp2_with fail
  go_region
  have H3 : Hid (Rn w rb ((w2.setCell ⟨rb, 0, none⟩ (.int .u64 (bits .xor .u64 z2 (IntKind.u64.wrap (z2 * 131072))))).drew)) := H2.out.set 1 _
  generalize (w2.setCell ⟨rb, 0, none⟩ (.int .u64 (bits .xor .u64 z2 (IntKind.u64.wrap (z2 * 131072))))).drew = w3 at H3 ⊢
  obtain ⟨z3, hz3⟩ := H3.out.cnt
  have hfz3 := H3.out.free
  go_wp2
  go_ret
  exact ⟨_, rfl, H3.out⟩

theorem len_small : ∀ n : Fin 128, Lib.bitLen n.val ≤ 7 ∧ (n.val ≠ 0 → 2 ^ (Lib.bitLen n.val) ≤ 2 * n.val) := by decide +kernel

def PowPost (w : World) (n : Nat) (e : Ending) (w' : World) : Prop := ∃ m : Nat, e = .returned (.int .u64 m) ∧ 1 ≤ m ∧ m ≤ 2 * n ∧ w' = w

set_option maxHeartbeats 3200000 in
set_option maxRecDepth 100000 in
theorem pow_any (n : Nat) (w : World) (h1 : 1 ≤ n) (h2 : n ≤ 127) :
    Calls Try.prog 62 #[.int .i64 n] w (PowPost w n) := by
  have LN := Try.bits_Len (n : Int) w (by omega) (by omega)
  have hb := len_small ⟨n, by omega⟩
  simp only [Int.toNat_natCast] at LN
  simp only at hb
  have hb2 := hb.2 (by omega)
  have hb1 := hb.1
  clear hb
  generalize Lib.bitLen n = L at LN hb1 hb2
  have hL : L = 0 ∨ L = 1 ∨ L = 2 ∨ L = 3 ∨ L = 4 ∨ L = 5 ∨ L = 6 ∨ L = 7 := by omega
  have hn0 : (0 : Int) ≤ (n : Int) := by omega
  rcases hL with rfl | rfl | rfl | rfl | rfl | rfl | rfl | rfl
  all_goals
    have HB := Lib.hid hb2
    clear hb1 hb2
    go_enter Try.func62, Try.ntmps62
    go_wp2_with fail
    refine LN.mono ?_
    rintro e w1 ⟨rfl, rfl⟩
    go_wp2
    go_ret
  · exact ⟨1, rfl, by omega, HB.out, rfl⟩
  · exact ⟨2, rfl, by omega, HB.out, rfl⟩
  · exact ⟨4, rfl, by omega, HB.out, rfl⟩
  · exact ⟨8, rfl, by omega, HB.out, rfl⟩
  · exact ⟨16, rfl, by omega, HB.out, rfl⟩
  · exact ⟨32, rfl, by omega, HB.out, rfl⟩
  · exact ⟨64, rfl, by omega, HB.out, rfl⟩
  · exact ⟨128, rfl, by omega, HB.out, rfl⟩

theorem and_small (z : Int) (m : Nat) (h1 : 1 ≤ m) (h2 : m ≤ 1000) : ∃ o : Nat, bits .and .u64 z ((m : Int) - 1) = (o : Int) ∧ o < m := by
  have hm : (m : Int) - 1 = ((m - 1 : Nat) : Int) := by omega
  rw [hm]
  have hb : BitVec.ofInt 64 ((m - 1 : Nat) : Int) = BitVec.ofNat 64 (m - 1) := by rw [BitVec.ofInt_natCast]
  have hl : (BitVec.ofInt 64 z &&& BitVec.ofNat 64 (m - 1)).toNat ≤ m - 1 := by
    rw [BitVec.toNat_and, BitVec.toNat_ofNat, Nat.mod_eq_of_lt (by omega)]
    exact Nat.and_le_right
  refine ⟨(BitVec.ofInt 64 z &&& BitVec.ofNat 64 (m - 1)).toNat, ?_, by omega⟩
  show IntKind.u64.wrap ((BitVec.ofInt 64 z &&& BitVec.ofInt 64 ((m - 1 : Nat) : Int)).toNat : Int) = _
  rw [hb]
  generalize (BitVec.ofInt 64 z &&& BitVec.ofNat 64 (m - 1)).toNat = q at hl ⊢
  rw [IntKind.wrap_u64]
  omega

/-- The row in another order, and a number in a block of the call's own. -/
structure Bk (w : World) (blk rb : Nat) (X : List Nat) (w' : World) : Prop where
  st : St w blk X w'
  cnt : ∃ z : Int, w'.cell? ⟨rb, 0, none⟩ = some (.int .u64 z)
  free : w'.frozen? ⟨rb, 0, none⟩ = false
  lt : rb < w'.heap.size

theorem Bk.next {w w1 w2 : World} {blk rb : Nat} {X : List Nat} (h : Bk w blk rb X w1) (hne : blk ≠ rb) (hr : w.heap.size ≤ rb) (h2 : Rn w1 rb w2) : Bk w blk rb X w2 := by
  obtain ⟨X', hp, hrow, hg⟩ := h.st
  have g2 := h2.grown
  refine ⟨⟨X', hp, hrow.keep g2.size (g2.block blk hrow.lt (fun e => hne (by cases e; rfl))), ⟨g2.os.trans hg.os, g2.tape.trans hg.tape, g2.output.trans hg.output, Nat.le_trans hg.size g2.size, fun k hk hne' => (g2.block k (Nat.lt_of_lt_of_le hk hg.size) (fun e => by cases e; omega)).trans (hg.block k hk hne')⟩⟩, h2.cnt, h2.free, h2.lt⟩

theorem Bk.rn {w w1 : World} {blk rb : Nat} {X : List Nat} (h : Bk w blk rb X w1) : Rn w1 rb w1 := ⟨h.cnt, h.free, ⟨rfl, rfl, rfl, Nat.le_refl _, fun _ _ _ => rfl⟩, h.lt⟩

/-- Behind two stores into the row. -/
theorem Bk.sets {w w1 : World} {blk rb i j : Nat} {X : List Nat} {u v : Value} {q : Nat} (h : Bk w blk rb X w1) (hne : blk ≠ rb) (hs : St w blk X (((w1.drewN q).setCell ⟨blk, i, none⟩ u).setCell ⟨blk, j, none⟩ v)) : Bk w blk rb X (((w1.drewN q).setCell ⟨blk, i, none⟩ u).setCell ⟨blk, j, none⟩ v) := by
  obtain ⟨z, hz⟩ := h.cnt
  have hbl : (((w1.drewN q).setCell ⟨blk, i, none⟩ u).setCell ⟨blk, j, none⟩ v).heap[rb]? = w1.heap[rb]? := by
    have g1 := Lib.grownBy_setCell (w1.drewN q) blk i u
    have g2 := Lib.grownBy_setCell ((w1.drewN q).setCell ⟨blk, i, none⟩ u) blk j v
    have h1 := g1.block rb h.lt (fun e => hne (by cases e; rfl))
    have h2 := g2.block rb (Nat.lt_of_lt_of_le h.lt g1.size) (fun e => hne (by cases e; rfl))
    exact h2.trans h1
  have hz2 := Nat.le_trans (Lib.grownBy_setCell (w1.drewN q) blk i u).size (Lib.grownBy_setCell ((w1.drewN q).setCell ⟨blk, i, none⟩ u) blk j v).size
  exact ⟨hs, ⟨z, (World.cell?_of_block (w := w1) (a := ⟨rb, 0, none⟩) hbl).trans hz⟩, (World.frozen?_of_block (w := w1) (a := ⟨rb, 0, none⟩) hbl).trans h.free, Nat.lt_of_lt_of_le h.lt hz2⟩

set_option maxHeartbeats 6400000 in
set_option maxRecDepth 100000 in
theorem break_any (blk n cap a b : Nat) (X : List Nat) (w : World) (hX : RowF w blk X) (hn : X.length = n) (hs : n ≤ 100) (hb : b ≤ n) (hab : a + 12 < b) :
    Calls Try.prog 52 #[.slice (some ⟨blk, 0, none⟩) n cap, .int .i64 a, .int .i64 b] w (StPost w blk X) := by
  have hst := store_float Try.prog
  have hne : blk ≠ w.heap.size := fun e => by have := hX.lt; omega
  obtain ⟨l, hl⟩ : ∃ l : Nat, l = b - a := ⟨_, rfl⟩
  obtain ⟨f, hf⟩ : ∃ f : Nat, f = l / 4 := ⟨_, rfl⟩
  obtain ⟨s, hsd⟩ : ∃ s : Nat, s = a + f * 2 - 1 := ⟨_, rfl⟩
  obtain ⟨t, htd⟩ : ∃ t : Nat, t = a + f * 2 + 1 := ⟨_, rfl⟩
  have hli : (b : Int) - (a : Int) = (l : Int) := by omega
  have hl8 : (8 : Int) ≤ (l : Int) := by omega
  have hf1 : (l : Int).tdiv 4 = (f : Int) := by rw [Int.tdiv_eq_ediv_of_nonneg (by omega)]; omega
  have hf2 : (l : Int) / 4 = (f : Int) := by omega
  have hsi : (a : Int) + (f : Int) * 2 - 1 = (s : Int) := by omega
  have hti : (a : Int) + (f : Int) * 2 + 1 = (t : Int) := by omega
  have hln : l ≤ 100 := by omega
  have hfn : f ≤ 25 := by omega
  have hal : a + l ≤ n := by omega
  have htn : t < n := by omega
  have hst1 : s ≤ t := by omega
  have hK0 : Bk w blk w.heap.size X (w.alloc (.cells #[.int .u64 l] 112)) := by
    have hbel : Below w.heap.size w (w.alloc (.cells #[.int .u64 l] 112)) := (Below.refl _ _).alloc (Nat.le_refl _) _
    exact ⟨⟨X, List.Perm.refl _, hX.keep hbel.size (hbel.block _ hX.lt), ⟨hbel.os, hbel.tape, hbel.output, hbel.size, fun k hk _ => hbel.block k hk⟩⟩, ⟨l, by simp [go_sem]⟩, by simp [go_sem], by simp⟩
  have HK0 := Lib.hid hK0
  have HN := Lib.hid hn
  have HNE := Lib.hid hne
  have PW := fun w => pow_any l w (by omega) (by omega)
  clear hX hn hne hl hf hsd htd hK0
  go_enter Try.func52, Try.ntmps52
  go_wp2_with fail
  refine (PW _).mono ?_
  rintro e w1 ⟨m, rfl, hm1, hm2, rfl⟩
  have hmi : (0 : Int) ≤ (m : Int) - 1 := by omega
  clear PW
  generalize hR : w.heap.size = rb at *
  go_wp2
  go_loopw [9] (fun u wr => ∃ i : Nat, u = .int .i64 i ∧ s ≤ i ∧ i ≤ t + 1 ∧ Hid (Bk w blk rb X wr)) (fun u _ => t + 1 - (intOf u).toNat)
  case atStart => exact ⟨s, by go_num, by omega, by omega, HK0⟩
  clear HK0
  case round =>
    obtain ⟨i, rfl, hi1, hi2, HK⟩ := hrel
    by_cases hit : i ≤ t
    · have NX := Lib.hid (next_any rb wr HK.out.rn)
      have hiti : (i : Int) ≤ (t : Int) := by omega
      go_wp2_with fail
      refine NX.out.mono ?_
      rintro e w2 ⟨z, rfl, hrn⟩
      have HK2 := Lib.hid (HK.out.next HNE.out (by omega) hrn)
      obtain ⟨o, ho, hom⟩ := and_small z m hm1 (by omega)
      clear NX hrn HK
      by_cases hol : l ≤ o
      · obtain ⟨v, hv⟩ : ∃ v : Nat, v = o - l := ⟨_, rfl⟩
        have hvi : (o : Int) - (l : Int) = (v : Int) := by omega
        have holi : (l : Int) ≤ (o : Int) := by omega
        have hvl : v < l := by omega
        clear hv
        obtain ⟨x, y, ⟨cx, fx⟩, ⟨cy, fy⟩, HQ, HW⟩ := HK2.out.st.pair HN.out (i := i) (j := a + v) (by omega) (by omega)
        have e0 : (0 : Int) ≤ (i : Int) := by omega
        have e1 : (i : Int) < (n : Int) := by omega
        have e2 : (0 : Int) ≤ (a : Int) + (v : Int) := by omega
        have e3 : (a : Int) + (v : Int) < (n : Int) := by omega
        have e4 : ((a : Int) + (v : Int)).toNat = a + v := by omega
        have o1 := cell_over (i := i) cy
        have o2 := cell_over (i := a + v) cx
        clear HQ
        go_wp2_with fail
        go_region
        have HK3 := Lib.hid (HK2.out.sets HNE.out (HW.out 1))
        clear cx cy fx fy e0 e1 e2 e3 e4 o1 o2 HW HK2
        go_wp2
        go_roundw
        case rel => exact ⟨i + 1, by go_num, by omega, by omega, HK3⟩
        case measure => simp [intOf]; omega
      · have holi : ¬ (l : Int) ≤ (o : Int) := by omega
        obtain ⟨v, hv⟩ : ∃ v : Nat, v = o := ⟨_, rfl⟩
        have hvl : v < l := by omega
        subst hv
        obtain ⟨x, y, ⟨cx, fx⟩, ⟨cy, fy⟩, HQ, HW⟩ := HK2.out.st.pair HN.out (i := i) (j := a + v) (by omega) (by omega)
        have e0 : (0 : Int) ≤ (i : Int) := by omega
        have e1 : (i : Int) < (n : Int) := by omega
        have e2 : (0 : Int) ≤ (a : Int) + (v : Int) := by omega
        have e3 : (a : Int) + (v : Int) < (n : Int) := by omega
        have e4 : ((a : Int) + (v : Int)).toNat = a + v := by omega
        have o1 := cell_over (i := i) cy
        have o2 := cell_over (i := a + v) cx
        clear HQ
        go_wp2_with fail
        go_region
        have HK3 := Lib.hid (HK2.out.sets HNE.out (HW.out 1))
        clear cx cy fx fy e0 e1 e2 e3 e4 o1 o2 HW HK2
        go_wp2
        go_roundw
        case rel => exact ⟨i + 1, by go_num, by omega, by omega, HK3⟩
        case measure => simp [intOf]; omega
    · have hiti : ¬ (i : Int) ≤ (t : Int) := by omega
      go_wp2
      go_end0
      exact ⟨rfl, HK.out.st⟩
end Go.Proofs.Ytfnphohdipdmpaa.Rg
