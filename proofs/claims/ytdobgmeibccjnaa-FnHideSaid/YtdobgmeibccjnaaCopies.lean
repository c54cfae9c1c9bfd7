/- The four functions that copy lists of runs, by their contracts. -/
import Derived.Test.YtdobgmeibccjnaaLines
namespace Go.Proofs.Ytdobgmeibccjnaa.Ln
open Go.RowKit
attribute [local go_sem] run_store_float

set_option maxHeartbeats 400000 in
set_option maxRecDepth 100000 in
theorem linesOf_any (v : Value) (L : List Run) (w : World) (n : Nat) (hn : n = L.length) (hn2 : n ≤ 1000) (h : Rd w w.heap.size 7 v n (L.flatMap cA)) :
    Calls Try.prog 24 #[v] w fun e w' => ∃ v', e = .returned v' ∧ w'.ownsRow w.heap.size 34 7 v' n (L.flatMap cA) ∧ Below w.heap.size w w' := by
  obtain ⟨i0, hi, hz0, hz1, hz2⟩ := info_parts infoA
  obtain ⟨hl, A, c, rfl, hr⟩ := h
  have HN := Lib.hid hn; clear hn
  go_enter Try.func24, Try.ntmps24
  go_wp2
  go_loopw [3, 8] (fun u i wr => ∃ k : Nat, k ≤ n ∧ i = .int .i64 k ∧ wr.ownsRow w.heap.size 34 7 u k ((L.take k).flatMap cA) ∧ Below w.heap.size w wr)
    (fun _ i _ => n - (intOf i).toNat)
  case atStart => exact ⟨0, Nat.zero_le _, rfl, World.ownsRow_nil _ _ _ _, Below.refl _ _⟩
  case round =>
    obtain ⟨k, hk, rfl, hown, hnx⟩ := hrel
    by_cases hlt : k < n
    · obtain ⟨g, rfl, hg, hc⟩ := hr (by omega)
      have hkL : k < L.length := by rw [← HN.out]; exact hlt
      obtain ⟨r, hrk⟩ : ∃ r, L[k]? = some r := ⟨L[k], List.getElem?_eq_getElem hkL⟩
      have HR := Lib.hid (flat_snoc cA L k r hrk)
      obtain ⟨d0, d1, d2, d3, d4, d5, d6⟩ := cellsA (wr := wr) (fun j u hu => (hnx.cell (p := ⟨g, j, none⟩) hg).trans (hc j u hu)) hrk
      clear hc hr hrk hkL
      go_wp2_with (at_builtin; refine wpList_append_own _ rfl _ _ 29 rfl w.heap.size 34 i0 _ 7 48 Try.underlying29 hi hz0 hz1 hz2 rfl (by decide) _ _ _ rfl ((hown.alloc _).alloc _) ⟨wr.heap.size + 1, 0, none⟩ 1 1 (cA r) rfl rfl ?c1 ?c2 ?c3 ?c4 ?c5 ?_)
      case c1 => exact newAt _ (cA r) _ _ (by simp)
      case c2 => exact cA_one r
      case c3 => unfold maxLen; omega
      case c4 => omega
      case c5 => have := hnx.size; simp; omega
      intro v' w1 hown' hgrow _
      have hs := hnx.size
      have hb := ((hnx.alloc hs _).alloc (by simp; omega) _).grown hgrow (by simp; omega) (fun j hj => (hown.lt j hj).1)
      clear hgrow d0 d1 d2 d3 d4 d5 d6
      go_wp2
      go_roundw
      case rel => exact ⟨k + 1, by omega, by go_num, by rw [HR.out]; exact hown', hb⟩
      case measure => simp [intOf]; omega
    · have e : k = n := by omega
      subst e
      go_wp2
      go_ret
      refine ⟨_, rfl, ?_, hnx⟩
      rw [List.take_of_length_le (by have := HN.out; omega)] at hown
      exact hown

set_option maxHeartbeats 400000 in
set_option maxRecDepth 100000 in
theorem linesTo_any (v : Value) (L : List Run) (w : World) (n : Nat) (hn : n = L.length) (hn2 : n ≤ 1000) (h : Rd w w.heap.size 7 v n (L.flatMap cA)) :
    Calls Try.prog 26 #[v] w fun e w' => ∃ v', e = .returned v' ∧ w'.ownsRow w.heap.size 45 7 v' n (L.flatMap cA) ∧ Below w.heap.size w w' := by
  obtain ⟨i0, hi, hz0, hz1, hz2⟩ := info_parts infoB
  obtain ⟨hl, A, c, rfl, hr⟩ := h
  have HN := Lib.hid hn; clear hn
  go_enter Try.func26, Try.ntmps26
  go_wp2
  go_loopw [3, 8] (fun u i wr => ∃ k : Nat, k ≤ n ∧ i = .int .i64 k ∧ wr.ownsRow w.heap.size 45 7 u k ((L.take k).flatMap cA) ∧ Below w.heap.size w wr)
    (fun _ i _ => n - (intOf i).toNat)
  case atStart => exact ⟨0, Nat.zero_le _, rfl, World.ownsRow_nil _ _ _ _, Below.refl _ _⟩
  case round =>
    obtain ⟨k, hk, rfl, hown, hnx⟩ := hrel
    by_cases hlt : k < n
    · obtain ⟨g, rfl, hg, hc⟩ := hr (by omega)
      have hkL : k < L.length := by rw [← HN.out]; exact hlt
      obtain ⟨r, hrk⟩ : ∃ r, L[k]? = some r := ⟨L[k], List.getElem?_eq_getElem hkL⟩
      have HR := Lib.hid (flat_snoc cA L k r hrk)
      obtain ⟨d0, d1, d2, d3, d4, d5, d6⟩ := cellsA (wr := wr) (fun j u hu => (hnx.cell (p := ⟨g, j, none⟩) hg).trans (hc j u hu)) hrk
      clear hc hr hrk hkL
      go_wp2_with (at_builtin; refine wpList_append_own _ rfl _ _ 41 rfl w.heap.size 45 i0 _ 7 48 Try.underlying41 hi hz0 hz1 hz2 rfl (by decide) _ _ _ rfl ((hown.alloc _).alloc _) ⟨wr.heap.size + 1, 0, none⟩ 1 1 (cA r) rfl rfl ?c1 ?c2 ?c3 ?c4 ?c5 ?_)
      case c1 => exact newAt _ (cA r) _ _ (by simp)
      case c2 => exact cA_one r
      case c3 => unfold maxLen; omega
      case c4 => omega
      case c5 => have := hnx.size; simp; omega
      intro v' w1 hown' hgrow _
      have hs := hnx.size
      have hb := ((hnx.alloc hs _).alloc (by simp; omega) _).grown hgrow (by simp; omega) (fun j hj => (hown.lt j hj).1)
      clear hgrow d0 d1 d2 d3 d4 d5 d6
      go_wp2
      go_roundw
      case rel => exact ⟨k + 1, by omega, by go_num, by rw [HR.out]; exact hown', hb⟩
      case measure => simp [intOf]; omega
    · have e : k = n := by omega
      subst e
      go_wp2
      go_ret
      refine ⟨_, rfl, ?_, hnx⟩
      rw [List.take_of_length_le (by have := HN.out; omega)] at hown
      exact hown

set_option maxHeartbeats 400000 in
set_option maxRecDepth 100000 in
theorem innerLines_any (v : Value) (L : List Run) (w : World) (n : Nat) (hn : n = L.length) (hn2 : n ≤ 1000) (h : Rd w w.heap.size 7 v n (L.flatMap cA)) :
    Calls Try.prog 31 #[v] w fun e w' => ∃ v', e = .returned v' ∧ w'.ownsRow w.heap.size 68 7 v' n (L.flatMap cB) ∧ Below w.heap.size w w' := by
  obtain ⟨i0, hi, hz0, hz1, hz2⟩ := info_parts infoC
  obtain ⟨hl, A, c, rfl, hr⟩ := h
  have HN := Lib.hid hn; clear hn
  go_enter Try.func31, Try.ntmps31
  go_wp2
  go_loopw [3, 8] (fun u i wr => ∃ k : Nat, k ≤ n ∧ i = .int .i64 k ∧ wr.ownsRow w.heap.size 68 7 u k ((L.take k).flatMap cB) ∧ Below w.heap.size w wr)
    (fun _ i _ => n - (intOf i).toNat)
  case atStart => exact ⟨0, Nat.zero_le _, rfl, World.ownsRow_nil _ _ _ _, Below.refl _ _⟩
  case round =>
    obtain ⟨k, hk, rfl, hown, hnx⟩ := hrel
    by_cases hlt : k < n
    · obtain ⟨g, rfl, hg, hc⟩ := hr (by omega)
      have hkL : k < L.length := by rw [← HN.out]; exact hlt
      obtain ⟨r, hrk⟩ : ∃ r, L[k]? = some r := ⟨L[k], List.getElem?_eq_getElem hkL⟩
      have HR := Lib.hid (flat_snoc cB L k r hrk)
      obtain ⟨d0, d1, d2, d3, d4, d5, d6⟩ := cellsA (wr := wr) (fun j u hu => (hnx.cell (p := ⟨g, j, none⟩) hg).trans (hc j u hu)) hrk
      clear hc hr hrk hkL
      go_wp2_with (at_builtin; refine wpList_append_own _ rfl _ _ 48 rfl w.heap.size 68 i0 _ 7 56 Try.underlying48 hi hz0 hz1 hz2 rfl (by decide) _ _ _ rfl ((hown.alloc _).alloc _) ⟨wr.heap.size + 1, 0, none⟩ 1 1 (cB r) rfl rfl ?c1 ?c2 ?c3 ?c4 ?c5 ?_)
      case c1 => exact newAt _ (cB r) _ _ (by simp)
      case c2 => exact cB_one r
      case c3 => unfold maxLen; omega
      case c4 => omega
      case c5 => have := hnx.size; simp; omega
      intro v' w1 hown' hgrow _
      have hs := hnx.size
      have hb := ((hnx.alloc hs _).alloc (by simp; omega) _).grown hgrow (by simp; omega) (fun j hj => (hown.lt j hj).1)
      clear hgrow d0 d1 d2 d3 d4 d5 d6
      go_wp2
      go_roundw
      case rel => exact ⟨k + 1, by omega, by go_num, by rw [HR.out]; exact hown', hb⟩
      case measure => simp [intOf]; omega
    · have e : k = n := by omega
      subst e
      go_wp2
      go_ret
      refine ⟨_, rfl, ?_, hnx⟩
      rw [List.take_of_length_le (by have := HN.out; omega)] at hown
      exact hown

set_option maxHeartbeats 400000 in
set_option maxRecDepth 100000 in
theorem doorLines_any (v : Value) (L : List Run) (w : World) (n : Nat) (hn : n = L.length) (hn2 : n ≤ 1000) (h : Rd w w.heap.size 7 v n (L.flatMap cB)) :
    Calls Try.prog 33 #[v] w fun e w' => ∃ v', e = .returned v' ∧ w'.ownsRow w.heap.size 45 7 v' n (L.flatMap cA) ∧ Below w.heap.size w w' := by
  obtain ⟨i0, hi, hz0, hz1, hz2⟩ := info_parts infoB
  obtain ⟨hl, A, c, rfl, hr⟩ := h
  have HN := Lib.hid hn; clear hn
  go_enter Try.func33, Try.ntmps33
  go_wp2
  go_loopw [3, 8] (fun u i wr => ∃ k : Nat, k ≤ n ∧ i = .int .i64 k ∧ wr.ownsRow w.heap.size 45 7 u k ((L.take k).flatMap cA) ∧ Below w.heap.size w wr)
    (fun _ i _ => n - (intOf i).toNat)
  case atStart => exact ⟨0, Nat.zero_le _, rfl, World.ownsRow_nil _ _ _ _, Below.refl _ _⟩
  case round =>
    obtain ⟨k, hk, rfl, hown, hnx⟩ := hrel
    by_cases hlt : k < n
    · obtain ⟨g, rfl, hg, hc⟩ := hr (by omega)
      have hkL : k < L.length := by rw [← HN.out]; exact hlt
      obtain ⟨r, hrk⟩ : ∃ r, L[k]? = some r := ⟨L[k], List.getElem?_eq_getElem hkL⟩
      have HR := Lib.hid (flat_snoc cA L k r hrk)
      obtain ⟨d0, d1, d2, d3, d4, d5, d6⟩ := cellsB (wr := wr) (fun j u hu => (hnx.cell (p := ⟨g, j, none⟩) hg).trans (hc j u hu)) hrk
      clear hc hr hrk hkL
      go_wp2_with (at_builtin; refine wpList_append_own _ rfl _ _ 41 rfl w.heap.size 45 i0 _ 7 48 Try.underlying41 hi hz0 hz1 hz2 rfl (by decide) _ _ _ rfl ((hown.alloc _).alloc _) ⟨wr.heap.size + 1, 0, none⟩ 1 1 (cA r) rfl rfl ?c1 ?c2 ?c3 ?c4 ?c5 ?_)
      case c1 => exact newAt _ (cA r) _ _ (by simp)
      case c2 => exact cA_one r
      case c3 => unfold maxLen; omega
      case c4 => omega
      case c5 => have := hnx.size; simp; omega
      intro v' w1 hown' hgrow _
      have hs := hnx.size
      have hb := ((hnx.alloc hs _).alloc (by simp; omega) _).grown hgrow (by simp; omega) (fun j hj => (hown.lt j hj).1)
      clear hgrow d0 d1 d2 d3 d4 d5 d6
      go_wp2
      go_roundw
      case rel => exact ⟨k + 1, by omega, by go_num, by rw [HR.out]; exact hown', hb⟩
      case measure => simp [intOf]; omega
    · have e : k = n := by omega
      subst e
      go_wp2
      go_ret
      refine ⟨_, rfl, ?_, hnx⟩
      rw [List.take_of_length_le (by have := HN.out; omega)] at hown
      exact hown
end Go.Proofs.Ytdobgmeibccjnaa.Ln
