/- What a list of runs of columns says of a column, computed by a loop: the first run that has it. -/
import Derived.Test.YtdobgmeibccjnaaDoors
namespace Go.Proofs.Ytdobgmeibccjnaa.Ln
open Go.RowKit
attribute [local go_sem] run_store_float

def has (c : Int) (r : Run) : Bool := decide (r.mn ≤ c) && decide (c ≤ r.mx)

/-- What runs of columns say of a column. -/
def look (X : List Run) (c : Int) : Run :=
  match X.find? (has c) with
  | some r => { r with mn := c, mx := c }
  | none => { mn := c, mx := c, lv := 0, st := 0, wd := 0, hd := false, cu := false }

theorem look_hit {X : List Run} {c : Int} {k : Nat} {r : Run} (hk : X[k]? = some r) (h : has c r = true) (hno : ∀ j r, j < k → X[j]? = some r → has c r = false) : look X c = { r with mn := c, mx := c } := by
  have e : X.find? (has c) = some r := by
    obtain ⟨hkl, hr⟩ := List.getElem?_eq_some_iff.1 hk
    rw [List.find?_eq_some_iff_getElem]
    refine ⟨h, k, hkl, hr, fun j hj => ?_⟩
    have := hno j (X[j]'(by omega)) hj (List.getElem?_eq_getElem (by omega))
    simp [this]
  unfold look
  rw [e]

theorem look_miss {X : List Run} {c : Int} (hno : ∀ j r, j < X.length → X[j]? = some r → has c r = false) : look X c = { mn := c, mx := c, lv := 0, st := 0, wd := 0, hd := false, cu := false } := by
  have e : X.find? (has c) = none := by
    rw [List.find?_eq_none]
    intro r hr
    obtain ⟨j, hj⟩ := List.mem_iff_getElem?.1 hr
    simp [hno j r (List.getElem?_eq_some_iff.1 hj).1 hj]
  unfold look
  rw [e]

theorem has_snoc {X : List Run} {c : Int} {k : Nat} {r : Run} (hk : X[k]? = some r) (h : has c r = false) (hno : ∀ j r, j < k → X[j]? = some r → has c r = false) : ∀ j r, j < k + 1 → X[j]? = some r → has c r = false := by
  intro j r' hj hr
  by_cases e : j = k
  · subst e
    rw [hk] at hr
    injection hr with hr
    subst hr
    exact h
  · exact hno j r' (by omega) hr

def zero34 : List Value := [.int .i64 0, .int .i64 0, .int .i64 0, .int .i64 0, .float .f64 0, .bool false, .bool false]

theorem zeroBox {w wr : World} (h : Below (w.heap.size + 1) (w.alloc (.cells zero34.toArray 34)) wr) :
    (wr.cell? ⟨w.heap.size, 0, none⟩ = some (.int .i64 0) ∧ wr.cell? ⟨w.heap.size, 1, none⟩ = some (.int .i64 0) ∧ wr.cell? ⟨w.heap.size, 2, none⟩ = some (.int .i64 0) ∧ wr.cell? ⟨w.heap.size, 3, none⟩ = some (.int .i64 0) ∧
    wr.cell? ⟨w.heap.size, 4, none⟩ = some (.float .f64 0) ∧ wr.cell? ⟨w.heap.size, 5, none⟩ = some (.bool false) ∧ wr.cell? ⟨w.heap.size, 6, none⟩ = some (.bool false)) ∧ (∀ j, wr.frozen? ⟨w.heap.size, j, none⟩ = false) ∧ w.heap.size < wr.heap.size := by
  have hc : ∀ j u, zero34[j]? = some u → wr.cell? ⟨w.heap.size, j, none⟩ = some u := by
    intro j u hu
    have h1 := newAt w zero34 34 w.heap.size rfl j u hu
    rw [addAt] at h1
    exact (h.cell (p := ⟨w.heap.size, j, none⟩) (by simp)).trans h1
  refine ⟨⟨hc 0 _ rfl, hc 1 _ rfl, hc 2 _ rfl, hc 3 _ rfl, hc 4 _ rfl, hc 5 _ rfl, hc 6 _ rfl⟩, fun j => ?_, by have := h.size; simp at this; omega⟩
  rw [h.frozen (p := ⟨w.heap.size, j, none⟩) (by simp)]
  exact World.frozen?_alloc_at _ _ _ _ rfl

theorem belowBox {w wr : World} {o : Obj} (h : Below (w.heap.size + 1) (w.alloc o) wr) : Below w.heap.size w wr :=
  ((Below.refl _ _).alloc (Nat.le_refl _) _).trans (h.mono (by omega))

theorem look_val {q r : Run} (h : q = r) : Ending.returned (.agg #[.int .i64 r.mn, .int .i64 r.mx, .int .i64 r.lv, .int .i64 r.st, .float .f64 r.wd, .bool r.hd, .bool r.cu]) = Ending.returned (.agg (cA q).toArray) := by
  subst h
  rfl

theorem boxSet7 {w w1 : World} (h : Below w.heap.size w w1) (u0 u1 u2 u3 u4 u5 u6 : Value) :
    Below w.heap.size w (((((((w1.setCell ⟨w.heap.size, 0, none⟩ u0).setCell ⟨w.heap.size, 1, none⟩ u1).setCell ⟨w.heap.size, 2, none⟩ u2).setCell ⟨w.heap.size, 3, none⟩ u3).setCell ⟨w.heap.size, 4, none⟩ u4).setCell ⟨w.heap.size, 5, none⟩ u5).setCell ⟨w.heap.size, 6, none⟩ u6) :=
  ((((((h.setCell (p := ⟨w.heap.size, _, none⟩) (Nat.le_refl _) _).setCell (p := ⟨w.heap.size, _, none⟩) (Nat.le_refl _) _).setCell (p := ⟨w.heap.size, _, none⟩) (Nat.le_refl _) _).setCell (p := ⟨w.heap.size, _, none⟩) (Nat.le_refl _) _).setCell (p := ⟨w.heap.size, _, none⟩) (Nat.le_refl _) _).setCell (p := ⟨w.heap.size, _, none⟩) (Nat.le_refl _) _).setCell (p := ⟨w.heap.size, _, none⟩) (Nat.le_refl _) _

set_option maxHeartbeats 800000 in
set_option maxRecDepth 100000 in
theorem refLine_any (x : Int) (v : Value) (X : List Run) (w : World) (n : Nat) (hn : n = X.length) (hn2 : n ≤ 1000) (h : Rd w w.heap.size 7 v n (X.flatMap cA)) :
    Calls Try.prog 17 #[v, .int .i64 x] w fun e w' => e = .returned (.agg (cA (look X x)).toArray) ∧ Below w.heap.size w w' := by
  obtain ⟨hl, A, c, rfl, hr⟩ := h
  have HN := Lib.hid hn; clear hn
  go_enter Try.func17, Try.ntmps17
  go_wp2
  go_loopw [5] (fun t wr => ∃ k : Nat, k ≤ n ∧ t = .int .i64 k ∧ Hid (∀ j r, j < k → X[j]? = some r → has x r = false) ∧ Below (w.heap.size + 1) (w.alloc (.cells zero34.toArray 34)) wr)
    (fun t _ => n - (intOf t).toNat)
  case atStart => exact ⟨0, Nat.zero_le _, rfl, fun j r hj => absurd hj (by omega), Below.refl _ _⟩
  case round =>
    obtain ⟨k, hk, rfl, hno, hnx⟩ := hrel
    by_cases hlt : k < n
    · obtain ⟨g, rfl, hg, hc⟩ := hr (by omega)
      have hkL : k < X.length := by rw [← HN.out]; exact hlt
      obtain ⟨r, hrk⟩ : ∃ r, X[k]? = some r := ⟨X[k], List.getElem?_eq_getElem hkL⟩
      have HRK := Lib.hid hrk
      obtain ⟨d0, d1, d2, d3, d4, d5, d6⟩ := cellsA (wr := wr) (fun j u hu => by
        rw [hnx.cell (p := ⟨g, j, none⟩) (by simp; omega), World.cell?_alloc_lt w _ _ hg]; exact hc j u hu) hrk
      clear hc hr hrk hkL
      by_cases h1 : r.mn ≤ x
      · by_cases h2 : x ≤ r.mx
        · have HF := Lib.hid (look_hit HRK.out (by simp [has, h1, h2]) hno.out)
          obtain ⟨⟨e0, e1, e2, e3, e4, e5, e6⟩, hfr, hzz⟩ := zeroBox hnx
          have hb := belowBox hnx
          have hbs := hb.size
          go_wp2
          refine bodyPost_ret (v := .agg #[.int .i64 x, .int .i64 x, .int .i64 r.lv, .int .i64 r.st, .float .f64 r.wd, .bool r.hd, .bool r.cu]) ?_ rfl ⟨?_, ?_⟩
          · simp [results, Try.results17, go_sem, e0, e1, e2, e3, e4, e5, e6, hzz]
          · exact look_val HF.out
          · refine (boxSet7 hb _ _ _ _ _ _ _).alloc ?_ _
            simp [World.setCell]; omega
        · have HF := Lib.hid (has_snoc HRK.out (by simp [has]; omega) hno.out)
          go_wp2
          go_roundw
          case rel => exact ⟨k + 1, by omega, by go_num, HF, hnx⟩
          case measure => simp [intOf]; omega
      · have HF := Lib.hid (has_snoc HRK.out (by simp [has]; omega) hno.out)
        go_wp2
        go_roundw
        case rel => exact ⟨k + 1, by omega, by go_num, HF, hnx⟩
        case measure => simp [intOf]; omega
    · have e : k = n := by omega
      subst e
      have HF := Lib.hid (look_miss (X := X) (c := x) (by rw [← HN.out]; exact hno.out))
      obtain ⟨⟨e0, e1, e2, e3, e4, e5, e6⟩, hfr, hzz⟩ := zeroBox hnx
      have hb := belowBox hnx
      have hbs := hb.size
      go_wp2
      refine bodyPost_ret (v := .agg #[.int .i64 x, .int .i64 x, .int .i64 0, .int .i64 0, .float .f64 0, .bool false, .bool false]) ?_ rfl ⟨?_, ?_⟩
      · simp [results, Try.results17, go_sem, e0, e1, e2, e3, e4, e5, e6]
      · exact look_val HF.out
      · exact boxSet7 hb _ _ _ _ _ _ _
end Go.Proofs.Ytdobgmeibccjnaa.Ln
