/- What flattening runs of columns computes, over lists, and small facts on blocks and rows. -/
import Derived.Test.YtdobgmeibccjnaaSmall
import Derived.Deep.RegionWith
import Derived.Maps.AppendAt
namespace Go.Proofs.Ytdobgmeibccjnaa.Ln
open Go.RowKit
attribute [local go_sem] run_store_float

def stamp (c : Run) (i : Int) : Run := { c with mn := i, mx := i }

def firstK (c : Run) (k : Nat) : List Run := (List.range k).map fun j : Nat => stamp c (c.mn + (j : Int))

theorem firstK_snoc (q : Run) (x : Int) (h : q.mn ≤ x) : (x + 1 - q.mn).toNat = (x - q.mn).toNat + 1 ∧ (firstK q ((x - q.mn).toNat + 1)).flatMap cB = (firstK q (x - q.mn).toNat).flatMap cB ++ cB (stamp q x) := by
  refine ⟨by omega, ?_⟩
  unfold firstK
  rw [List.range_succ, List.map_append, List.flatMap_append]
  have e : q.mn + (((x - q.mn).toNat : Nat) : Int) = x := by omega
  simp only [List.map_cons, List.map_nil, e, List.flatMap_cons, List.flatMap_nil, List.append_nil]

theorem boxB {w wr : World} {q : Run} (h : Below (w.heap.size + 1) (w.alloc (.cells (cB q).toArray 68)) wr) :
    wr.cell? ⟨w.heap.size, 0, none⟩ = some (.int .i64 q.mn) ∧ wr.cell? ⟨w.heap.size, 1, none⟩ = some (.int .i64 q.mx) ∧ wr.cell? ⟨w.heap.size, 2, none⟩ = some (.float .f64 q.wd) ∧ wr.cell? ⟨w.heap.size, 3, none⟩ = some (.bool q.hd) ∧
    wr.cell? ⟨w.heap.size, 4, none⟩ = some (.int .i64 q.lv) ∧ wr.cell? ⟨w.heap.size, 5, none⟩ = some (.int .i64 q.st) ∧ wr.cell? ⟨w.heap.size, 6, none⟩ = some (.bool q.cu) := by
  have hc : ∀ j u, (cB q)[j]? = some u → wr.cell? ⟨w.heap.size, j, none⟩ = some u := by
    intro j u hu
    have h1 := newAt w (cB q) 68 w.heap.size rfl j u hu
    rw [addAt] at h1
    exact (h.cell (p := ⟨w.heap.size, j, none⟩) (by simp)).trans h1
  exact ⟨hc 0 _ rfl, hc 1 _ rfl, hc 2 _ rfl, hc 3 _ rfl, hc 4 _ rfl, hc 5 _ rfl, hc 6 _ rfl⟩

def stepF (rep : Run → Run → Run) (c : Run) (fc : List Run) (i : Int) : List Run :=
  match fc.findIdx? (isAt i) with
  | some j => fc.set j (rep (fc[j]?.getD c) c)
  | none => fc ++ [stamp c i]

def innerF (rep : Run → Run → Run) (c : Run) (fc : List Run) : Nat → List Run
  | 0 => fc
  | m + 1 => stepF rep c (innerF rep c fc m) (c.mn + (m : Int))

def outerF (rep : Run → Run → Run) (q : Run) (L : List Run) : List Run :=
  L.foldl (fun fc c => innerF rep c fc (c.mx + 1 - c.mn).toNat) (firstK q (q.mx + 1 - q.mn).toNat)

theorem stepF_len (rep : Run → Run → Run) (c : Run) (fc : List Run) (i : Int) : (stepF rep c fc i).length ≤ fc.length + 1 := by
  unfold stepF
  split <;> simp

theorem firstK_len (q : Run) (k : Nat) : (firstK q k).length = k := by simp [firstK]

theorem outerF_snoc (rep : Run → Run → Run) (q : Run) (L : List Run) (k : Nat) (c : Run) (h : L[k]? = some c) : outerF rep q (L.take (k + 1)) = innerF rep c (outerF rep q (L.take k)) (c.mx + 1 - c.mn).toNat := by
  rw [take_snoc L k c h]
  unfold outerF
  rw [List.foldl_append]
  rfl

theorem innerF_step (rep : Run → Run → Run) (c : Run) (fc : List Run) (x : Int) (h : c.mn ≤ x) : innerF rep c fc (x + 1 - c.mn).toNat = stepF rep c (innerF rep c fc (x - c.mn).toNat) x := by
  have e : (x + 1 - c.mn).toNat = (x - c.mn).toNat + 1 := by omega
  rw [e]
  show stepF rep c (innerF rep c fc (x - c.mn).toNat) (c.mn + (((x - c.mn).toNat : Nat) : Int)) = _
  have e2 : c.mn + (((x - c.mn).toNat : Nat) : Int) = x := by omega
  rw [e2]

theorem set_right (l m : List Value) (i : Nat) (u : Value) (s : Nat) (hs : l.length = s) (j : Nat) (hj : i = s + j) : (l ++ m).set i u = l ++ m.set j u := by
  subst hj
  rw [List.set_append_right _ _ (by omega)]
  congr 2
  omega

theorem flat_set7 (r' : Run) : ∀ (G : List Run) (j : Nat), j < G.length →
    (((((((G.flatMap cB).set (j * 7) (.int .i64 r'.mn)).set (j * 7 + 1) (.int .i64 r'.mx)).set (j * 7 + 2) (.float .f64 r'.wd)).set (j * 7 + 3) (.bool r'.hd)).set (j * 7 + 4) (.int .i64 r'.lv)).set (j * 7 + 5) (.int .i64 r'.st)).set (j * 7 + 6) (.bool r'.cu) = (G.set j r').flatMap cB
  | [], j, h => absurd h (by simp)
  | b :: G, 0, _ => by simp [cB]
  | b :: G, j + 1, h => by
    have ih := flat_set7 r' G j (by simpa using h)
    rw [List.flatMap_cons, List.set_cons_succ, List.flatMap_cons, ← ih]
    rw [set_right (cB b) _ _ _ 7 rfl (j * 7) (by omega), set_right (cB b) _ _ _ 7 rfl (j * 7 + 1) (by omega), set_right (cB b) _ _ _ 7 rfl (j * 7 + 2) (by omega), set_right (cB b) _ _ _ 7 rfl (j * 7 + 3) (by omega),
      set_right (cB b) _ _ _ 7 rfl (j * 7 + 4) (by omega), set_right (cB b) _ _ _ 7 rfl (j * 7 + 5) (by omega), set_right (cB b) _ _ _ 7 rfl (j * 7 + 6) (by omega)]

/-- A record of an owned row is overwritten. -/
theorem own_set7 {w : World} {base g n cap : Nat} {G : List Run} (r' : Run) (j : Nat) (hj : j < G.length) (h : w.ownsRow base 68 7 (.slice (some ⟨g, 0, none⟩) n cap) n (G.flatMap cB)) :
    (((((((w.setCell ⟨g, j * 7, none⟩ (.int .i64 r'.mn)).setCell ⟨g, j * 7 + 1, none⟩ (.int .i64 r'.mx)).setCell ⟨g, j * 7 + 2, none⟩ (.float .f64 r'.wd)).setCell ⟨g, j * 7 + 3, none⟩ (.bool r'.hd)).setCell ⟨g, j * 7 + 4, none⟩ (.int .i64 r'.lv)).setCell ⟨g, j * 7 + 5, none⟩ (.int .i64 r'.st)).setCell ⟨g, j * 7 + 6, none⟩ (.bool r'.cu)).ownsRow base 68 7 (.slice (some ⟨g, 0, none⟩) n cap) n ((G.set j r').flatMap cB) := by
  rw [← flat_set7 r' G j hj]
  exact (((((((h.stored _ _).1.stored _ _).1.stored _ _).1.stored _ _).1.stored _ _).1.stored _ _).1.stored _ _).1

/-- Block g holds just these cells. -/
def Blk (w : World) (g : Nat) (t : TypeId) (cs : List Value) : Prop := w.heap[g]? = some (.cells cs.toArray t (0, 0))

theorem Blk.lt {w : World} {g : Nat} {t : TypeId} {cs : List Value} (h : Blk w g t cs) : g < w.heap.size := (Array.getElem?_eq_some_iff.1 h).1
theorem Blk.cellB {w : World} {g : Nat} {t : TypeId} {r : Run} (h : Blk w g t (cB r)) :
    w.cell? ⟨g, 0, none⟩ = some (.int .i64 r.mn) ∧ w.cell? ⟨g, 1, none⟩ = some (.int .i64 r.mx) ∧ w.cell? ⟨g, 2, none⟩ = some (.float .f64 r.wd) ∧ w.cell? ⟨g, 3, none⟩ = some (.bool r.hd) ∧
    w.cell? ⟨g, 4, none⟩ = some (.int .i64 r.lv) ∧ w.cell? ⟨g, 5, none⟩ = some (.int .i64 r.st) ∧ w.cell? ⟨g, 6, none⟩ = some (.bool r.cu) := by
  have hc : ∀ j, w.cell? ⟨g, j, none⟩ = (cB r).toArray[j]? := fun j => cell_of_row w g j _ t (0, 0) h
  exact ⟨hc 0, hc 1, hc 2, hc 3, hc 4, hc 5, hc 6⟩
theorem Blk.new (w : World) (t : TypeId) (cs : List Value) : Blk (w.alloc (.cells cs.toArray t)) w.heap.size t cs := heap_alloc_new w _
theorem Blk.below {w w' : World} {B g : Nat} {t : TypeId} {cs : List Value} (h : Blk w g t cs) (hb : Below B w w') (hg : g < B) : Blk w' g t cs := (hb.block g hg).trans h
theorem Blk.grown {w w' : World} {row : Option Nat} {g : Nat} {t : TypeId} {cs : List Value} (h : Blk w g t cs) (hb : w.grownBy w' row) (hg : some g ≠ row) : Blk w' g t cs := (hb.block g h.lt hg).trans h
theorem Blk.alloc {w : World} {g : Nat} {t : TypeId} {cs : List Value} (h : Blk w g t cs) (o : Obj) : Blk (w.alloc o) g t cs := (Below.heap_alloc w o g h.lt).trans h
theorem Blk.far {w : World} {g : Nat} {t : TypeId} {cs : List Value} (h : Blk w g t cs) {p : Addr} (hp : g ≠ p.block) (u : Value) : Blk (w.setCell p u) g t cs := (Below.heap_setCell w p u g hp).trans h

theorem own_below {w w' : World} {base size n : Nat} {e : TypeId} {v : Value} {xs : List Value} (h : w.ownsRow base e size v n xs) (hb : Below w.heap.size w w') : w'.ownsRow base e size v n xs :=
  h.kept (row := none) ⟨hb.os, hb.tape, hb.output, hb.size, fun i hi _ => hb.block i hi⟩ (by cases v.ownBlock <;> simp)

theorem inFlat_yes (i : Int) (v : Value) (L : List Run) (w : World) (n : Nat) (hn : n = L.length) (hn2 : n ≤ 100000) (h : Rd w w.heap.size 7 v n (L.flatMap cB)) (j : Nat) (hj : L.findIdx? (isAt i) = some j) :
    Calls Try.prog 39 #[.int .i64 i, v] w fun e w' => e = .returned (.tuple #[.int .i64 j, .bool true]) ∧ Below w.heap.size w w' :=
  (inFlat_any i v L w n hn hn2 h).mono fun e w' ⟨he, hb⟩ => ⟨by rw [he]; unfold inFlatV; rw [hj], hb⟩
theorem inFlat_no (i : Int) (v : Value) (L : List Run) (w : World) (n : Nat) (hn : n = L.length) (hn2 : n ≤ 100000) (h : Rd w w.heap.size 7 v n (L.flatMap cB)) (hj : L.findIdx? (isAt i) = none) :
    Calls Try.prog 39 #[.int .i64 i, v] w fun e w' => e = .returned (.tuple #[.int .i64 (-1), .bool false]) ∧ Below w.heap.size w w' :=
  (inFlat_any i v L w n hn hn2 h).mono fun e w' ⟨he, hb⟩ => ⟨by rw [he]; unfold inFlatV; rw [hj], hb⟩

end Go.Proofs.Ytdobgmeibccjnaa.Ln
