/- The two ways of replacing a single column, and the search for a column among single ones, by their contracts. -/
import Derived.Test.YtdobgmeibccjnaaLines
namespace Go.Proofs.Ytdobgmeibccjnaa.Ln
open Go.RowKit
attribute [local go_sem] run_store_float

def repV (f c : Run) : Run := { f with cu := c.cu, lv := c.lv, st := c.st, wd := c.wd }
def repS (f c : Run) : Run := { f with cu := c.cu, hd := c.hd, lv := c.lv, wd := c.wd }

set_option maxHeartbeats 400000 in
set_option maxRecDepth 100000 in
theorem repV_any (f c : Run) (w : World) :
    Calls Try.prog 37 #[.agg (cB f).toArray, .agg (cB c).toArray] w fun e w' => e = .returned (.agg (cB (repV f c)).toArray) ∧ Below w.heap.size w w' := by
  unfold cB
  go_enter Try.func37, Try.ntmps37
  go_wp2
  exact bodyPost_ret (v := .agg (cB (repV f c)).toArray) (by simp [results, Try.results37, go_sem, cB, repV]) rfl ⟨by simp [cB], (((Below.refl _ _).alloc (Nat.le_refl _) _).alloc (by simp) _).alloc (by simp; omega) _⟩

set_option maxHeartbeats 400000 in
set_option maxRecDepth 100000 in
theorem repS_any (f c : Run) (w : World) :
    Calls Try.prog 38 #[.agg (cB f).toArray, .agg (cB c).toArray] w fun e w' => e = .returned (.agg (cB (repS f c)).toArray) ∧ Below w.heap.size w w' := by
  unfold cB
  go_enter Try.func38, Try.ntmps38
  go_wp2
  exact bodyPost_ret (v := .agg (cB (repS f c)).toArray) (by simp [results, Try.results38, go_sem, cB, repS]) rfl ⟨by simp [cB], (((Below.refl _ _).alloc (Nat.le_refl _) _).alloc (by simp) _).alloc (by simp; omega) _⟩

def isAt (i : Int) (r : Run) : Bool := r.mx == i && r.mn == i

def inFlatV (L : List Run) (i : Int) : Value := match L.findIdx? (isAt i) with | some j => .tuple #[.int .i64 j, .bool true] | none => .tuple #[.int .i64 (-1), .bool false]

theorem inFlat_hit (L : List Run) (i : Int) (k : Nat) (r : Run) (hk : L[k]? = some r) (h : isAt i r = true) (hno : ∀ j r, j < k → L[j]? = some r → isAt i r = false) : inFlatV L i = .tuple #[.int .i64 k, .bool true] := by
  have hkl : k < L.length := (List.getElem?_eq_some_iff.1 hk).1
  have e : L.findIdx? (isAt i) = some k := by
    rw [List.findIdx?_eq_some_iff_getElem]
    refine ⟨hkl, ?_, fun j hj => ?_⟩
    · have := (List.getElem?_eq_some_iff.1 hk).2
      rw [this]; exact h
    · have := hno j (L[j]'(by omega)) hj (List.getElem?_eq_getElem (by omega))
      simp [this]
  unfold inFlatV
  rw [e]

theorem inFlat_miss (L : List Run) (i : Int) (hno : ∀ j r, j < L.length → L[j]? = some r → isAt i r = false) : inFlatV L i = .tuple #[.int .i64 (-1), .bool false] := by
  have e : L.findIdx? (isAt i) = none := by
    rw [List.findIdx?_eq_none_iff]
    intro r hr
    obtain ⟨j, hj⟩ := List.mem_iff_getElem?.1 hr
    exact hno j r (List.getElem?_eq_some_iff.1 hj).1 hj
  unfold inFlatV
  rw [e]

theorem no_snoc {L : List Run} {i : Int} {k : Nat} {r : Run} (hk : L[k]? = some r) (h : isAt i r = false) (hno : ∀ j r, j < k → L[j]? = some r → isAt i r = false) : ∀ j r, j < k + 1 → L[j]? = some r → isAt i r = false := by
  intro j r' hj hr
  by_cases e : j = k
  · subst e
    rw [hk] at hr
    injection hr with hr
    subst hr
    exact h
  · exact hno j r' (by omega) hr

set_option maxHeartbeats 400000 in
set_option maxRecDepth 100000 in
/-- The search for a column among single ones. -/
theorem inFlat_any (i : Int) (v : Value) (L : List Run) (w : World) (n : Nat) (hn : n = L.length) (hn2 : n ≤ 100000) (h : Rd w w.heap.size 7 v n (L.flatMap cB)) :
    Calls Try.prog 39 #[.int .i64 i, v] w fun e w' => e = .returned (inFlatV L i) ∧ Below w.heap.size w w' := by
  obtain ⟨hl, A, c, rfl, hr⟩ := h
  have HN := Lib.hid hn; clear hn
  go_enter Try.func39, Try.ntmps39
  go_wp2
  go_loopw [10] (fun t wr => ∃ k : Nat, k ≤ n ∧ t = .int .i64 k ∧ Hid (∀ j r, j < k → L[j]? = some r → isAt i r = false) ∧ Below w.heap.size w wr)
    (fun t _ => n - (intOf t).toNat)
  case atStart => exact ⟨0, Nat.zero_le _, rfl, fun j r hj => absurd hj (by omega), Below.refl _ _⟩
  case round =>
    obtain ⟨k, hk, rfl, hno, hnx⟩ := hrel
    by_cases hlt : k < n
    · obtain ⟨g, rfl, hg, hc⟩ := hr (by omega)
      have hkL : k < L.length := by rw [← HN.out]; exact hlt
      obtain ⟨r, hrk⟩ : ∃ r, L[k]? = some r := ⟨L[k], List.getElem?_eq_getElem hkL⟩
      have HRK := Lib.hid hrk
      obtain ⟨d0, d1, d2, d3, d4, d5, d6⟩ := cellsB (wr := wr) (fun j u hu => (hnx.cell (p := ⟨g, j, none⟩) hg).trans (hc j u hu)) hrk
      clear hc hr hrk hkL
      have hs := hnx.size
      have hb := hnx.alloc hs (.cells (cB r).toArray 68)
      unfold cB at hb
      rcases Bool.eq_false_or_eq_true (r.mx == i) with hx | hx
      · rcases Bool.eq_false_or_eq_true (r.mn == i) with hm | hm
        · have HF := Lib.hid (inFlat_hit L i k r HRK.out (by simp [isAt, hx, hm]) hno.out)
          go_wp2
          go_ret2
          exact ⟨by rw [HF.out]; rfl, hb⟩
        · have HF := Lib.hid (no_snoc HRK.out (by simp [isAt, hx, hm]) hno.out)
          go_wp2
          go_roundw
          case rel => exact ⟨k + 1, by omega, by go_num, HF, hb⟩
          case measure => simp [intOf]; omega
      · have HF := Lib.hid (no_snoc HRK.out (by simp [isAt, hx]) hno.out)
        go_wp2
        go_roundw
        case rel => exact ⟨k + 1, by omega, by go_num, HF, hb⟩
        case measure => simp [intOf]; omega
    · have e : k = n := by omega
      subst e
      have HF := Lib.hid (inFlat_miss L i (by rw [← HN.out]; exact hno.out))
      go_wp2
      go_ret2
      exact ⟨by rw [HF.out]; rfl, hnx⟩
end Go.Proofs.Ytdobgmeibccjnaa.Ln
