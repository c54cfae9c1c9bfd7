/- What becomes of the memory when columns are set: the one cell that holds the list of runs. -/
import Derived.Test.YtdobgmeibccjnaaFlatV
import Derived.Test.YtdobgmeibccjnaaFlatS
import Derived.Test.YtdobgmeibccjnaaCopies
import Derived.Deep.RegionHeld3
namespace Go.Proofs.Ytdobgmeibccjnaa.Ln
open Go.RowKit
attribute [local go_sem] run_store_float

theorem own_slice {w : World} {base size n : Nat} {e : TypeId} {v : Value} {xs : List Value} (h : w.ownsRow base e size v n xs) : ∃ A c, v = .slice A n c := by
  rcases h.2 with ⟨rfl, rfl⟩ | ⟨g, cap, cur, rfl, _⟩
  · exact ⟨_, _, rfl⟩
  · exact ⟨_, _, rfl⟩

theorem keepB {w w' : World} {B g : Nat} {x0 x1 x2 x3 x4 x5 x6 : Value} (hb : Below B w w') (hg : g < B)
    (h : w.cell? ⟨g, 0, none⟩ = some x0 ∧ w.cell? ⟨g, 1, none⟩ = some x1 ∧ w.cell? ⟨g, 2, none⟩ = some x2 ∧ w.cell? ⟨g, 3, none⟩ = some x3 ∧ w.cell? ⟨g, 4, none⟩ = some x4 ∧ w.cell? ⟨g, 5, none⟩ = some x5 ∧ w.cell? ⟨g, 6, none⟩ = some x6) :
    w'.cell? ⟨g, 0, none⟩ = some x0 ∧ w'.cell? ⟨g, 1, none⟩ = some x1 ∧ w'.cell? ⟨g, 2, none⟩ = some x2 ∧ w'.cell? ⟨g, 3, none⟩ = some x3 ∧ w'.cell? ⟨g, 4, none⟩ = some x4 ∧ w'.cell? ⟨g, 5, none⟩ = some x5 ∧ w'.cell? ⟨g, 6, none⟩ = some x6 := by
  have hc : ∀ j, w'.cell? ⟨g, j, none⟩ = w.cell? ⟨g, j, none⟩ := fun j => hb.cell (p := ⟨g, j, none⟩) hg
  simp only [hc]
  exact h

theorem Rd.more {w : World} {B B' size n : Nat} {v : Value} {xs : List Value} (h : Rd w B size v n xs) (hB : B ≤ B') : Rd w B' size v n xs := by
  obtain ⟨hl, A, c, hv, hr⟩ := h
  refine ⟨hl, A, c, hv, fun hn => ?_⟩
  obtain ⟨g, hA, hg, hc⟩ := hr hn
  exact ⟨g, hA, by omega, hc⟩

/-- The run of columns that is put in when columns are shown or hidden. -/
def runV (a b : Int) (shown : Bool) : Run := { mn := a, mx := b, lv := 0, st := 0, wd := 4622100592565682176, hd := !shown, cu := true }
/-- The run of columns that is put in when columns are given a style. -/
def runS (a b style : Int) : Run := { mn := a, mx := b, lv := 0, st := style, wd := 4622100592565682176, hd := false, cu := false }

/-- The slice is an owned list of the runs X. -/
structure OwnsF (w : World) (B : Nat) (A : Option Addr) (m c : Nat) (X : List Run) : Prop where
  own : w.ownsRow B 68 7 (.slice A m c) m (X.flatMap cB)
  len : m = X.length

/-- Behind the setting of columns: the one cell that holds the list of runs holds the new list. -/
def SetPost (w : World) (cb : Nat) (X : List Run) (w' : World) : Prop := ∃ A m c w1, OwnsF w1 w.heap.size A m c X ∧ Below w.heap.size w w1 ∧ w' = w1.setCell ⟨cb, 0, none⟩ (.slice A m c)

theorem SetPost.mk' {w W w1 : World} {cb : Nat} {X : List Run} {A : Option Addr} {m c : Nat} (ho : OwnsF w1 W.heap.size A m c X) (hb : Below W.heap.size W w1) (h : Below w.heap.size w W) :
    SetPost w cb X (w1.setCell ⟨cb, 0, none⟩ (.slice A m c)) :=
  ⟨A, m, c, w1, ⟨own_mono ho.own h.size, ho.len⟩, h.trans (hb.mono h.size), rfl⟩

theorem flatV_lit (q : Run) (v : Value) (L : List Run) (w : World) (n : Nat) (hn : n = L.length) (hn2 : n ≤ 12) (h : Rd w w.heap.size 7 v n (L.flatMap cB))
    (hq1 : 1 ≤ q.mn) (hq2 : q.mn ≤ q.mx) (hq3 : q.mx ≤ 60) (hL : ∀ r ∈ L, 1 ≤ r.mn ∧ r.mn ≤ r.mx ∧ r.mx ≤ 60) :
    Calls Try.prog 36 #[.agg #[.int .i64 q.mn, .int .i64 q.mx, .float .f64 q.wd, .bool q.hd, .int .i64 q.lv, .int .i64 q.st, .bool q.cu], v, .func (.func 37) #[] #[]] w fun e w' => ∃ (A : Option Addr) (m c : Nat), e = .returned (.slice A m c) ∧ OwnsF w' w.heap.size A m c (outerF repV q L) ∧ Below w.heap.size w w' :=
  (flatV_any q v L w n hn hn2 h hq1 hq2 hq3 hL).mono fun e w' ⟨v', he, ho, hb⟩ => by
    obtain ⟨A, c, rfl⟩ := own_slice ho
    exact ⟨A, _, c, he, ⟨ho, rfl⟩, hb⟩

theorem flatS_lit (q : Run) (v : Value) (L : List Run) (w : World) (n : Nat) (hn : n = L.length) (hn2 : n ≤ 12) (h : Rd w w.heap.size 7 v n (L.flatMap cB))
    (hq1 : 1 ≤ q.mn) (hq2 : q.mn ≤ q.mx) (hq3 : q.mx ≤ 60) (hL : ∀ r ∈ L, 1 ≤ r.mn ∧ r.mn ≤ r.mx ∧ r.mx ≤ 60) :
    Calls Try.prog 36 #[.agg #[.int .i64 q.mn, .int .i64 q.mx, .float .f64 q.wd, .bool q.hd, .int .i64 q.lv, .int .i64 q.st, .bool q.cu], v, .func (.func 38) #[] #[]] w fun e w' => ∃ (A : Option Addr) (m c : Nat), e = .returned (.slice A m c) ∧ OwnsF w' w.heap.size A m c (outerF repS q L) ∧ Below w.heap.size w w' :=
  (flatS_any q v L w n hn hn2 h hq1 hq2 hq3 hL).mono fun e w' ⟨v', he, ho, hb⟩ => by
    obtain ⟨A, c, rfl⟩ := own_slice ho
    exact ⟨A, _, c, he, ⟨ho, rfl⟩, hb⟩

end Go.Proofs.Ytdobgmeibccjnaa.Ln
