/- The list's walk, and a column's cells as one row. -/
import Derived.Test.YtfnphohdipdmpaaMInnerL
import Derived.Lib.Builder
namespace Go.Proofs.Ytfnphohdipdmpaa.Rg
open Go.RowKit

theorem faCells_len (z : Int) : (faCells z).length = 10 := rfl

/-- The slice reads as formulas' numbers. -/
def RdF (w : World) (A : Option Addr) (X : List Int) : Prop :=
  0 < X.length → ∃ g, A = some ⟨g, 0, none⟩ ∧ g < w.heap.size ∧ ∀ (k : Nat) (x : Int), X[k]? = some x → ∀ j u, (faCells x)[j]? = some u → w.cell? ⟨g, k * 10 + j, none⟩ = some u
theorem RdF.later {w w' : World} {A : Option Addr} {X : List Int} (h : RdF w A X) (hb : Below w.heap.size w w') : RdF w' A X := by
  intro hn
  obtain ⟨g, hA, hg, hc⟩ := h hn
  exact ⟨g, hA, Nat.lt_of_lt_of_le hg hb.size, fun k y hk j u hj => (hb.cell (p := ⟨g, k * 10 + j, none⟩) hg).trans (hc k y hk j u hj)⟩

/-- The slice is a row of formulas' numbers. -/
structure OwnsF (w : World) (B : Nat) (A : Option Addr) (m c : Nat) (X : List Int) : Prop where
  own : w.ownsRow B 60 10 (.slice A m c) m (X.flatMap faCells)
  len : m = X.length

theorem OwnsF.reads {w : World} {B : Nat} {A : Option Addr} {m c : Nat} {X : List Int} (h : OwnsF w B A m c X) : RdF w A X := by
  intro hn
  have hl := h.len
  obtain ⟨g, cap, hv, _⟩ := h.own.form (by omega)
  injection hv with hA hm hc
  subst hA
  refine ⟨g, rfl, (h.own.lt g (by rw [hc]; rfl)).2, fun k x hk j u hj => ?_⟩
  have hj10 : j < 10 := by have := (List.getElem?_eq_some_iff.1 hj).1; rwa [faCells_len] at this
  have := h.own.cells (g := g) (by rw [hc]; rfl) (k * 10 + j) u ((flat_cell faCells 10 faCells_len X k j x hk hj10).trans hj)
  rwa [addAt] at this

def RowFPost (w : World) (X : List Int) (e : Ending) (w' : World) : Prop := ∃ (A : Option Addr) (c : Nat), e = .returned (.slice A X.length c) ∧ RdF w' A X ∧ Below w.heap.size w w'

set_option maxHeartbeats 3200000 in
set_option maxRecDepth 100000 in
theorem tolist_any (A : Option Addr) (n c : Nat) (p q : Option Addr) (X : List Int) (w : World) (hn : n = X.length) (hn2 : n ≤ 100) (hA : RdT w 0 A faCells X) :
    Calls Try.prog 35 #[.agg (maCells A n c (.pointer p) (.pointer q)).toArray] w (RowFPost w X) := by
  obtain ⟨i1, hi1, hi1z, hi1s, hi1b⟩ := info_parts infoFa
  have hst := store_float Try.prog
  have HN := Lib.hid hn
  have HA := Lib.hid hA
  unfold maCells
  have hal : Below w.heap.size w (w.alloc (.cells #[.string ⟨#[]⟩, .float .f64 0, .string ⟨#[]⟩, .slice none 0 0, .slice A n c, .bool false, .string ⟨#[]⟩, .int .u8 4, .pointer p, .pointer q] 60)) := (Below.refl _ _).alloc (Nat.le_refl _) _
  have h9 := heap_alloc_new w (.cells #[.string ⟨#[]⟩, .float .f64 0, .string ⟨#[]⟩, .slice none 0 0, .slice A n c, .bool false, .string ⟨#[]⟩, .int .u8 4, .pointer p, .pointer q] 60)
  have HAL := Lib.hid hal
  obtain ⟨s0, s1, s2, s3, s4, s5, s6, s7, s8, s9, sf⟩ := ten h9
  clear hn hA hal h9
  go_enter Try.func35, Try.ntmps35
  go_wp2
  generalize w.alloc (.cells #[.string ⟨#[]⟩, .float .f64 0, .string ⟨#[]⟩, .slice none 0 0, .slice A n c, .bool false, .string ⟨#[]⟩, .int .u8 4, .pointer p, .pointer q] 60) = w0 at *
  clear s0 s1 s2 s3 s4 s5 s6 s7 s8 s9 sf
  go_loopw [3, 13] (fun x i wr => ∃ (k cx : Nat) (Ax : Option Addr), k ≤ n ∧ i = .int .i64 k ∧ x = .slice Ax k cx ∧ Hid (OwnsF wr w0.heap.size Ax k cx (X.take k)) ∧ Below w0.heap.size w0 wr) (fun _ i _ => n - (intOf i).toNat)
  case atStart => exact ⟨0, 0, none, by omega, rfl, rfl, ⟨World.ownsRow_nil _ _ _ _, rfl⟩, Below.refl _ _⟩
  case round =>
    obtain ⟨k, cx, Ax, hk, rfl, rfl, HO, hb⟩ := hrel
    by_cases hkn : k < n
    · obtain ⟨x, hx⟩ : ∃ x, X[k]? = some x := ⟨_, List.getElem?_eq_getElem (by have := HN.out; omega)⟩
      have HTK : Hid (X.take (k + 1) = X.take k ++ [x]) := by
        show X.take (k + 1) = X.take k ++ [x]
        rw [List.take_add_one, hx]
        rfl
      have i0' : (0 : Int) ≤ (k : Int) := by omega
      have i1' : (k : Int) < (n : Int) := by omega
      obtain ⟨g, rfl, _, hg, hrow⟩ := (HA.out.later (HAL.out.trans (hb.mono HAL.out.size))) (by have := HN.out; omega)
      obtain ⟨gk, ck, ckc, _, hgk, hin⟩ := hrow k x hx
      have HXK := Lib.hid hx
      have HIN := Lib.hid hin
      have hbs := hb.size
      have hown := HO.out.own
      have HLN := Lib.hid HO.out.len
      clear hrow hx hin HO
      go_wp2_with (at_builtin; refine wpList_append_own _ rfl _ _ 55 rfl w0.heap.size 60 i1 _ 10 136 Try.underlying55 hi1 hi1z hi1s hi1b rfl (by decide) _ _ _ rfl hown ⟨gk, 0, none⟩ 1 ck (faCells x) rfl rfl ?c1 ?c2 ?c3 ?c4 ?c5 ?_)
      case c1 => exact fun j u hj => by rw [addAt]; exact HIN.out j u hj
      case c2 => intro u hu; simp [faCells] at hu; rcases hu with rfl | rfl | rfl | rfl | rfl | rfl | rfl | rfl | rfl | rfl <;> rfl
      case c3 => unfold maxLen; omega
      case c4 => omega
      case c5 => omega
      intro v' w2 hown' hgrow _
      have hb2 : Below w0.heap.size w0 w2 := hb.grown hgrow hbs (fun j hj => (hown.lt j hj).1)
      obtain ⟨A', c', he⟩ := own_slice hown'
      have HO2 : Hid (OwnsF w2 w0.heap.size A' (k + 1) c' (X.take (k + 1))) := by
        rw [he] at hown'
        refine ⟨?_, by rw [HTK.out, List.length_append, ← HLN.out]; rfl⟩
        rw [HTK.out, List.flatMap_append]
        simpa using hown'
      clear hgrow hown' hown hb
      subst he
      go_wp2
      go_roundw
      case rel => exact ⟨k + 1, c', A', by omega, by go_num, rfl, HO2, hb2⟩
      case measure => simp [intOf]; omega
    · obtain rfl : k = n := by omega
      have hO := HO.out
      rw [List.take_of_length_le (by have := HN.out; omega)] at hO
      go_wp2
      go_ret
      exact ⟨Ax, cx, by rw [← HN.out]; rfl, hO.reads, HAL.out.trans (hb.mono HAL.out.size)⟩

set_option maxHeartbeats 1600000 in
set_option maxRecDepth 100000 in
theorem llen_any (gl : Nat) (X : List Int) (w : World) (h : FListAt w X gl) : Calls Try.prog 27 #[.pointer (some ⟨gl, 0, none⟩)] w fun e w' => e = .returned (.int .i64 1) ∧ w' = w := by
  obtain ⟨ge, A, c, p, q, h1, h2, _⟩ := h
  have c4 : w.cell? ⟨gl, 4, none⟩ = some (.int .i64 1) := by simp [World.cell?, h1]
  clear h1 h2
  go_enter Try.func27, Try.ntmps27
  go_wp2
  go_ret
  exact ⟨rfl, rfl⟩

set_option maxHeartbeats 1600000 in
set_option maxRecDepth 100000 in
theorem lfront_any (gl ge : Nat) (w : World) (h1 : w.heap[gl]? = some (.cells #[.pointer (some ⟨ge, 0, none⟩), .pointer (some ⟨ge, 0, none⟩), .pointer none, .nilIface, .int .i64 1] 79 (0, 0))) : Calls Try.prog 33 #[.pointer (some ⟨gl, 0, none⟩)] w fun e w' => e = .returned (.pointer (some ⟨ge, 0, none⟩)) ∧ w' = w := by
  have c4 : w.cell? ⟨gl, 4, none⟩ = some (.int .i64 1) := by simp [World.cell?, h1]
  have c0 : w.cell? ⟨gl, 0, none⟩ = some (.pointer (some ⟨ge, 0, none⟩)) := by simp [World.cell?, h1]
  clear h1
  go_enter Try.func33, Try.ntmps33
  go_wp2
  go_ret
  exact ⟨rfl, rfl⟩

theorem infoElem : (Try.prog.info? 77).map (fun i => (i.zero, i.size, i.bytes)) = some (some (.agg #[.pointer none, .pointer none, .pointer none, .nilIface]), 4, 40) := by kernel_rfl

set_option maxHeartbeats 1600000 in
set_option maxRecDepth 100000 in
theorem lnext_any (gl ge : Nat) (v : Value) (w : World) (h1 : w.heap[ge]? = some (.cells #[.pointer (some ⟨gl, 0, none⟩), .pointer (some ⟨gl, 0, none⟩), .pointer (some ⟨gl, 0, none⟩), v] 77 (0, 0))) : Calls Try.prog 34 #[.pointer (some ⟨ge, 0, none⟩)] w fun e w' => e = .returned (.pointer none) ∧ w' = w := by
  have c0 : w.cell? ⟨ge, 0, none⟩ = some (.pointer (some ⟨gl, 0, none⟩)) := by simp [World.cell?, h1]
  have c2 : w.cell? ⟨ge, 2, none⟩ = some (.pointer (some ⟨gl, 0, none⟩)) := by simp [World.cell?, h1]
  obtain ⟨j, hj, _⟩ := info_parts infoElem
  have hpp := fun w : World => Lib.run_neq_ptr_same (P := Try.prog) w ⟨gl, 0, none⟩ Try.underlying73 hj
  clear h1
  go_enter Try.func34, Try.ntmps34
  go_wp2
  go_ret
  exact ⟨rfl, rfl⟩
end Go.Proofs.Ytfnphohdipdmpaa.Rg
