/- The reference's mode of numbers, or its doubt. -/
import Derived.Test.YtfnphohdipdmpaaMSums
namespace Go.Proofs.Ytfnphohdipdmpaa.Rg
open Go.RowKit

theorem svCells_len (z : Int) : (svCells z).length = 5 := rfl

/-- The slice is a row of numbers of the reference. -/
structure OwnsV (w : World) (B : Nat) (A : Option Addr) (m c : Nat) (X : List Int) : Prop where
  own : w.ownsRow B 26 5 (.slice A m c) m (X.flatMap svCells)
  len : m = X.length

theorem OwnsV.reads {w : World} {B : Nat} {A : Option Addr} {m c : Nat} {X : List Int} (h : OwnsV w B A m c X) : RdV w A X := by
  intro hn
  have hl := h.len
  obtain ⟨g, cap, hv, _⟩ := h.own.form (by omega)
  injection hv with hA hm hc
  subst hA
  refine ⟨g, rfl, (h.own.lt g (by rw [hc]; rfl)).2, fun k x hk => ?_⟩
  have f5 := fun i hi => flat_cell svCells 5 svCells_len X k i x hk hi
  have hcell := fun j u hj => h.own.cells (g := g) (by rw [hc]; rfl) j u hj
  refine ⟨?_, ?_, ?_, ?_, ?_⟩
  · have h0 := f5 0 (by omega)
    rw [Nat.add_zero] at h0
    have := hcell (k * 5) _ (h0.trans rfl)
    rwa [addAt] at this
  · have := hcell (k * 5 + 1) _ ((f5 1 (by omega)).trans rfl)
    rwa [addAt] at this
  · have := hcell (k * 5 + 2) _ ((f5 2 (by omega)).trans rfl)
    rwa [addAt] at this
  · have := hcell (k * 5 + 3) _ ((f5 3 (by omega)).trans rfl)
    rwa [addAt] at this
  · have := hcell (k * 5 + 4) _ ((f5 4 (by omega)).trans rfl)
    rwa [addAt] at this

def WantPost (w : World) (X : List Int) (e : Ending) (w' : World) : Prop := (∃ v : Value, e = .returned v ∧ (v = doubtV ∨ ∃ m, v = sv m ∧ Uniq X m)) ∧ Below w.heap.size w w'

set_option maxHeartbeats 6400000 in
set_option maxRecDepth 100000 in
theorem sumsmode_any (A : Option Addr) (n c : Nat) (X : List Int) (w : World) (hn : n = X.length) (hn2 : n ≤ 100) (hX : ∀ x ∈ X, -9 ≤ x ∧ x ≤ 9) (hA : RdI w A X) :
    Calls Try.prog 5 #[.slice A n c] w (WantPost w X) := by
  obtain ⟨i1, hi1, hi1z, hi1s, hi1b⟩ := info_parts infoVal
  have HN := Lib.hid hn
  have HA := Lib.hid hA
  have HX := Lib.hid hX
  have hw0 : Below w.heap.size w (w.alloc (.cells #[.int .i64 0, .int .i64 0, .int .i64 0, .string ⟨#[]⟩, .slice none 0 0] 26)) := (Below.refl _ _).alloc (Nat.le_refl _) _
  have hbx : (w.alloc (.cells #[.int .i64 0, .int .i64 0, .int .i64 0, .string ⟨#[]⟩, .slice none 0 0] 26)).heap[w.heap.size]? = some (.cells #[.int .i64 0, .int .i64 0, .int .i64 0, .string ⟨#[]⟩, .slice none 0 0] 26 (0, 0)) := heap_alloc_new w _
  have HBX := Lib.hid hbx
  have HW0 := Lib.hid hw0
  clear hn hA hX hbx hw0
  go_enter Try.func5, Try.ntmps5
  go_wp2
  generalize w.alloc (.cells #[.int .i64 0, .int .i64 0, .int .i64 0, .string ⟨#[]⟩, .slice none 0 0] 26) = w0 at *
  have hg2 : w.heap.size < w0.heap.size := (Array.getElem?_eq_some_iff.1 HBX.out).1
  obtain ⟨g2, hG2⟩ : ∃ g2, w.heap.size = g2 := ⟨_, rfl⟩
  rw [hG2] at HBX ⊢
  go_loopw [3, 4] (fun x i wr => ∃ (k cx : Nat) (Ax : Option Addr), k ≤ n ∧ i = .int .i64 k ∧ x = .slice Ax k cx ∧ Hid (OwnsV wr w0.heap.size Ax k cx (X.take k)) ∧ Below w0.heap.size w0 wr) (fun _ i _ => n - (intOf i).toNat)
  case atStart => exact ⟨0, 0, none, by omega, rfl, rfl, ⟨World.ownsRow_nil _ _ _ _, rfl⟩, Below.refl _ _⟩
  case round =>
    obtain ⟨k, cx, Ax, hk, rfl, rfl, HO, hb⟩ := hrel
    by_cases hkn : k < n
    · obtain ⟨x, hx⟩ : ∃ x, X[k]? = some x := ⟨_, List.getElem?_eq_getElem (by have := HN.out; omega)⟩
      obtain ⟨g, rfl, hg, hc⟩ := (HA.out.later (HW0.out.trans (hb.mono (by omega)))) (by have := HN.out; omega)
      have c0 := hc k x hx
      have hxr := HX.out x (List.mem_of_getElem? hx)
      have HTK : Hid (X.take (k + 1) = X.take k ++ [x]) := by
        show X.take (k + 1) = X.take k ++ [x]
        rw [List.take_add_one, hx]
        rfl
      have i0' : (0 : Int) ≤ (k : Int) := by omega
      have i1' : (k : Int) < (n : Int) := by omega
      have IV := Lib.hid (fun w => int_any x w (by omega) (by omega))
      clear hc
      have HXK := Lib.hid hx
      clear hx
      go_wp2_with fail
      refine (IV.out _).mono ?_
      rintro e w1 ⟨rfl, hb1⟩
      unfold sv
      have hB1 := hb.trans (hb1.mono hb.size)
      have hown := own_below HO.out.own hb1
      have hbs := hB1.size
      have HLN := Lib.hid HO.out.len
      clear c0 HO
      go_wp2_with (at_builtin; refine wpList_append_own _ rfl _ _ 36 rfl w0.heap.size 26 i1 _ 5 64 Try.underlying36 hi1 hi1z hi1s hi1b rfl (by decide) _ _ _ rfl (hown.alloc _) ⟨w1.heap.size, 0, none⟩ 1 1 (svCells x) rfl rfl ?c1 ?c2 ?c3 ?c4 ?c5 ?_)
      case c1 => exact newAt _ (svCells x) _ _ rfl
      case c2 => intro u hu; simp [svCells] at hu; rcases hu with rfl | rfl | rfl | rfl | rfl <;> rfl
      case c3 => unfold maxLen; omega
      case c4 => omega
      case c5 => simp; omega
      intro v' w2 hown' hgrow _
      have hb2 : Below w0.heap.size w0 w2 := (hB1.alloc hbs _).grown hgrow (by simp; omega) (fun j hj => (hown.lt j hj).1)
      obtain ⟨A', c', he⟩ := own_slice hown'
      have HO2 : Hid (OwnsV w2 w0.heap.size A' (k + 1) c' (X.take (k + 1))) := by
        rw [he] at hown'
        refine ⟨?_, by rw [HTK.out, List.length_append, ← HLN.out]; rfl⟩
        rw [HTK.out, List.flatMap_append]
        simpa using hown'
      clear hgrow hown' hown hB1 hbs hb1
      subst he
      go_wp2
      go_roundw
      case rel => exact ⟨k + 1, c', A', by omega, by go_num, rfl, HO2, hb2⟩
      case measure => simp [intOf]; omega
    · obtain rfl : k = n := by omega
      have hO := HO.out
      rw [List.take_of_length_le (by have := HN.out; omega)] at hO
      have MD := Lib.hid (mode_any Ax k cx X wr HN.out hn2 hO.reads)
      have HBX2 := Lib.hid ((hb.block g2 (by omega)).trans HBX.out)
      have HB := Lib.hid (HW0.out.trans (hb.mono (by omega)))
      clear hO HO hb HBX HW0
      go_wp2_with fail
      refine MD.out.mono ?_
      rintro e w3 ⟨⟨v, rfl, hv⟩, hb3⟩
      have hbx3 := (hb3.block g2 (Array.getElem?_eq_some_iff.1 HBX2.out).1).trans HBX2.out
      have HB3 := Lib.hid (HB.out.trans (hb3.mono HB.out.size))
      have hg3 : g2 < w3.heap.size := (Array.getElem?_eq_some_iff.1 hbx3).1
      have hge : w.heap.size ≤ g2 := by omega
      clear hb3 HB HBX2 MD
      rcases hv with rfl | rfl | ⟨m, rfl, hu⟩
      · unfold doubtV
        have hal : Below w3.heap.size w3 (w3.alloc (.cells #[.int .i64 6, .int .i64 0, .int .i64 0, .string ⟨#[]⟩, .slice none 0 0] 26)) := (Below.refl _ _).alloc (Nat.le_refl _) _
        have hbx4 := (hal.block g2 hg3).trans hbx3
        have HB4 := Lib.hid (HB3.out.trans (hal.mono HB3.out.size))
        have hput := fun (w4 : World) (h : Below w.heap.size w w4) (v0 v1 v2 v3 v4 : Value) => ((((h.setCell (p := ⟨g2, 0, none⟩) hge v0).setCell (p := ⟨g2, 1, none⟩) hge v1).setCell (p := ⟨g2, 2, none⟩) hge v2).setCell (p := ⟨g2, 3, none⟩) hge v3).setCell (p := ⟨g2, 4, none⟩) hge v4
        have HP := Lib.hid hput
        have HBX4 := Lib.hid hbx4
        clear hal hbx3 HB3 hput hbx4
        go_wp2_with fail
        refine (doubt_any _).mono ?_
        rintro e w5 ⟨rfl, hb5⟩
        obtain ⟨s0, s1, s2, s3, s4, sf⟩ := five ((hb5.block g2 (Array.getElem?_eq_some_iff.1 HBX4.out).1).trans HBX4.out)
        have HB5 := Lib.hid (HB4.out.trans (hb5.mono HB4.out.size))
        clear hb5 HB4 HBX4
        unfold doubtV
        go_wp2
        (try simp only [Exit.inBlock, Exit.then])
        exact bodyPost_ret (v := doubtV) (by simp [results, Try.results5, go_sem, doubtV, s0, s1, s2, s3, s4]) rfl ⟨⟨_, rfl, .inl rfl⟩, HP.out _ HB5.out _ _ _ _ _⟩
      · unfold bestV bestCells
        have hal : Below w3.heap.size w3 (w3.alloc (.cells #[.int .i64 4, .int .i64 0, .int .i64 0, .string ⟨#[35, 78, 47, 65]⟩, .slice none 0 0] 26)) := (Below.refl _ _).alloc (Nat.le_refl _) _
        have hbx4 := (hal.block g2 hg3).trans hbx3
        have HB4 := Lib.hid (HB3.out.trans (hal.mono HB3.out.size))
        have hput := fun (w4 : World) (h : Below w.heap.size w w4) (v0 v1 v2 v3 v4 : Value) => ((((h.setCell (p := ⟨g2, 0, none⟩) hge v0).setCell (p := ⟨g2, 1, none⟩) hge v1).setCell (p := ⟨g2, 2, none⟩) hge v2).setCell (p := ⟨g2, 3, none⟩) hge v3).setCell (p := ⟨g2, 4, none⟩) hge v4
        have HP := Lib.hid hput
        have HBX4 := Lib.hid hbx4
        clear hal hbx3 HB3 hput hbx4
        go_wp2_with fail
        refine (doubt_any _).mono ?_
        rintro e w5 ⟨rfl, hb5⟩
        obtain ⟨s0, s1, s2, s3, s4, sf⟩ := five ((hb5.block g2 (Array.getElem?_eq_some_iff.1 HBX4.out).1).trans HBX4.out)
        have HB5 := Lib.hid (HB4.out.trans (hb5.mono HB4.out.size))
        clear hb5 HB4 HBX4
        unfold doubtV
        go_wp2
        (try simp only [Exit.inBlock, Exit.then])
        exact bodyPost_ret (v := doubtV) (by simp [results, Try.results5, go_sem, doubtV, s0, s1, s2, s3, s4]) rfl ⟨⟨_, rfl, .inl rfl⟩, HP.out _ HB5.out _ _ _ _ _⟩
      · have HU := Lib.hid hu
        clear hu
        unfold sv
        obtain ⟨s0, s1, s2, s3, s4, sf⟩ := five hbx3
        clear hbx3
        have hput := fun (w4 : World) (h : Below w.heap.size w w4) (v0 v1 v2 v3 v4 : Value) => ((((h.setCell (p := ⟨g2, 0, none⟩) hge v0).setCell (p := ⟨g2, 1, none⟩) hge v1).setCell (p := ⟨g2, 2, none⟩) hge v2).setCell (p := ⟨g2, 3, none⟩) hge v3).setCell (p := ⟨g2, 4, none⟩) hge v4
        have HP := Lib.hid hput
        clear hput
        go_wp2
        (try simp only [Exit.inBlock, Exit.then])
        exact bodyPost_ret (v := sv m) (by simp [results, Try.results5, go_sem, sv, s0, s1, s2, s3, s4, hg3]) rfl ⟨⟨_, rfl, .inr ⟨m, rfl, HU.out⟩⟩, (HP.out _ HB3.out _ _ _ _ _).alloc (HP.out _ HB3.out _ _ _ _ _).size _⟩
end Go.Proofs.Ytfnphohdipdmpaa.Rg
