/- The list of one argument, a column, as the package's formulas take it. -/
import Derived.Test.YtfnphohdipdmpaaMInnerM
namespace Go.Proofs.Ytfnphohdipdmpaa.Rg
open Go.RowKit

/-- Block gl is a list of one element: a column as a formula's argument. -/
def FListAt (w : World) (X : List Int) (gl : Nat) : Prop := ∃ (ge : Nat) (A : Option Addr) (c : Nat) (p q : Option Addr),
  w.heap[gl]? = some (.cells #[.pointer (some ⟨ge, 0, none⟩), .pointer (some ⟨ge, 0, none⟩), .pointer none, .nilIface, .int .i64 1] 79 (0, 0)) ∧
  w.heap[ge]? = some (.cells #[.pointer (some ⟨gl, 0, none⟩), .pointer (some ⟨gl, 0, none⟩), .pointer (some ⟨gl, 0, none⟩), .iface 60 (.agg (maCells A X.length c (.pointer p) (.pointer q)).toArray)] 77 (0, 0)) ∧
  RdT w 0 A faCells X

def ListPost (w : World) (X : List Int) (e : Ending) (w' : World) : Prop := ∃ gl : Nat, e = .returned (.pointer (some ⟨gl, 0, none⟩)) ∧ FListAt w' X gl ∧ Below w.heap.size w w'

set_option maxHeartbeats 3200000 in
set_option maxRecDepth 100000 in
theorem inner_list (g c : Nat) (X : List Int) (w : World) (hn1 : 1 ≤ X.length) (hn2 : X.length ≤ 100) (hX : ∀ x ∈ X, -9 ≤ x ∧ x ≤ 9) (hA : ColAt w 46 ivCells X g) :
    Calls Try.prog 25 #[.slice (some ⟨g, 0, none⟩) 1 c] w (ListPost w X) := by
  have hst := store_float Try.prog
  have HA := Lib.hid hA
  have HX := Lib.hid hX
  have NW := Lib.hid (new_any w)
  clear hA hX
  go_enter Try.func25, Try.ntmps25
  go_wp2_with fail
  refine NW.out.mono ?_
  rintro e w1 ⟨rfl, hl, hb1⟩
  clear NW
  have hlt := hb1.size
  have hsz1 : w.heap.size < w1.heap.size := (Array.getElem?_eq_some_iff.1 hl).1
  have HG : Hid (w.heap.size ≤ w.heap.size) := Nat.le_refl _
  obtain ⟨gl, egl⟩ : ∃ gl, w.heap.size = gl := ⟨_, rfl⟩
  have HL : Hid (List0 w1 gl) := egl ▸ hl
  rw [egl] at hsz1
  have HB := Lib.hid hb1
  have HCA := Lib.hid (HA.out.later hb1)
  have EGL := Lib.hid egl
  rw [egl]
  clear hl hb1 hlt HG egl HA
  go_wp2
  go_loopw [9] (fun i wr => (i = .int .i64 0 ∧ w1 = wr) ∨ (i = .int .i64 1 ∧ Hid (FListAt wr X gl ∧ Below w.heap.size w wr))) (fun i _ => 1 - (intOf i).toNat)
  case atStart => exact .inl ⟨rfl, rfl⟩
  case round =>
    rcases hrel with ⟨rfl, rfl⟩ | ⟨rfl, HR⟩
    · obtain ⟨ht, A, cA, c0, c1, c2, c3, hr⟩ := HCA.out
      have hal : Below w1.heap.size w1 (w1.alloc (.cells #[.int .i64 5, .float .f64 0, .string ⟨#[]⟩, .slice A X.length cA] 46)) := (Below.refl _ _).alloc (Nat.le_refl _) _
      have IM := Lib.hid (inner_mat A X.length cA X _ rfl hn2 hn1 HX.out (hr.later hal))
      have HAL := Lib.hid hal
      clear hal hr ht
      go_wp2_with fail
      refine IM.out.mono ?_
      rintro e w2 ⟨A', c', p, q, rfl, hr2, hb2⟩
      have hb12 : Below w1.heap.size w1 w2 := HAL.out.trans (hb2.mono HAL.out.size)
      have hl2 : List0 w2 gl := (hb12.block gl hsz1).trans HL.out
      have PU := Lib.hid (push_any gl 60 (.agg (maCells A' X.length c' (.pointer p) (.pointer q)).toArray) w2 hl2)
      have HB2 := Lib.hid (HB.out.trans (hb12.mono HB.out.size))
      have HRD := Lib.hid hr2
      have hlt2 : gl < w2.heap.size := (Array.getElem?_eq_some_iff.1 hl2).1
      have HZ := Lib.hid (hb2.size)
      have HAZ := Lib.hid (HAL.out.size)
      clear IM hr2 hb2 hb12 hl2 c0 c1 c2 c3
      go_wp2_with fail
      refine PU.out.mono ?_
      rintro e w3 ⟨ge, rfl, hge, hg3, h1, h2⟩
      have hag : RdT w3 0 A' faCells X := by
        refine (HRD.out.agree hg3.size (fun k hk hk2 => hg3.block k hk2 (fun e => ?_))).lower (Nat.zero_le _)
        cases e
        have := HAZ.out
        omega
      have HR : Hid (FListAt w3 X gl ∧ Below w.heap.size w w3) := by
        refine ⟨⟨ge, A', c', p, q, h1, h2, hag⟩, HB2.out.grown hg3 HB2.out.size (fun j hj => ?_)⟩
        cases hj
        exact Nat.le_of_eq EGL.out
      clear PU hag h1 h2 hg3 hge
      go_wp2
      go_roundw
      case rel => exact .inr ⟨rfl, HR⟩
      case measure => simp [intOf]
    · go_wp2
      go_ret
      exact ⟨gl, rfl, HR.out.1, HR.out.2⟩

set_option maxHeartbeats 1600000 in
set_option maxRecDepth 100000 in
theorem funcs_any (w : World) : Calls Try.prog 23 #[] w fun e w' => (∃ a : Addr, e = .returned (.pointer (some a))) ∧ Below w.heap.size w w' := by
  have hal : ∀ o, Below w.heap.size w (w.alloc o) := fun o => (Below.refl _ _).alloc (Nat.le_refl _) _
  go_enter Try.func23, Try.ntmps23
  go_wp2
  go_ret
  exact ⟨⟨_, rfl⟩, hal _⟩
end Go.Proofs.Ytfnphohdipdmpaa.Rg
