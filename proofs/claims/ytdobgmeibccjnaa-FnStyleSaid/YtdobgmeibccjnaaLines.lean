/- Runs of columns as records; each of the four functions that copy a list of runs returns a new list with the same runs. -/
import Derived.Test.YtdobgmeibccjnaaRows
import Derived.WalkKit
import Derived.WalkSpells
import Derived.WalkLawsBesides
import Derived.Lib.Hide
namespace Go.Proofs.Ytdobgmeibccjnaa.Ln
open Go.RowKit

/-- A run of columns: its fields, the width by its bits. -/
structure Run where
  mn : Int
  mx : Int
  lv : Int
  st : Int
  wd : Nat
  hd : Bool
  cu : Bool

/-- Its cells as impl.Line and excelize.Line have them. -/
def cA (r : Run) : List Value := [.int .i64 r.mn, .int .i64 r.mx, .int .i64 r.lv, .int .i64 r.st, .float .f64 r.wd, .bool r.hd, .bool r.cu]
/-- Its cells as xlsxCol has them. -/
def cB (r : Run) : List Value := [.int .i64 r.mn, .int .i64 r.mx, .float .f64 r.wd, .bool r.hd, .int .i64 r.lv, .int .i64 r.st, .bool r.cu]

/-- A slice of n elements of size cells each that reads as xs, in a block below B. -/
def Rd (w : World) (B size : Nat) (v : Value) (n : Nat) (xs : List Value) : Prop :=
  xs.length = n * size ∧ ∃ A c, v = .slice A n c ∧ (0 < n → ∃ g, A = some ⟨g, 0, none⟩ ∧ g < B ∧ ∀ j u, xs[j]? = some u → w.cell? ⟨g, j, none⟩ = some u)

theorem addAt (g j : Nat) : (⟨g, 0, none⟩ : Addr).add j = ⟨g, j, none⟩ := by
  unfold Addr.add
  split <;> simp_all

theorem Rd.of_own {w : World} {base size n : Nat} {e : TypeId} {v : Value} {xs : List Value} (h : w.ownsRow base e size v n xs) : Rd w w.heap.size size v n xs := by
  refine ⟨h.1, ?_⟩
  rcases h.2 with ⟨rfl, rfl⟩ | ⟨g, cap, cur, rfl, hb, hg, hn, _, _, ht⟩
  · exact ⟨none, 0, rfl, fun h => absurd h (by omega)⟩
  · refine ⟨_, cap, rfl, fun _ => ⟨g, rfl, (Array.getElem?_eq_some_iff.1 hg).1, fun j u hu => ?_⟩⟩
    have := h.cells (g := g) rfl j u hu
    rwa [addAt] at this

theorem Rd.keep {w w' : World} {B size n : Nat} {v : Value} {xs : List Value} (h : Rd w B size v n xs) (hk : ∀ p : Addr, p.block < B → w'.cell? p = w.cell? p) : Rd w' B size v n xs := by
  obtain ⟨hl, A, c, hv, hr⟩ := h
  refine ⟨hl, A, c, hv, fun hn => ?_⟩
  obtain ⟨g, hA, hg, hc⟩ := hr hn
  exact ⟨g, hA, hg, fun j u hu => (hk _ hg).trans (hc j u hu)⟩

theorem Rd.below {w w' : World} {B size n : Nat} {v : Value} {xs : List Value} (h : Rd w B size v n xs) (hb : Below B w w') : Rd w' B size v n xs := h.keep fun _ hp => hb.cell hp

/-- The cell j of element k of a list of records. -/
theorem flat_cell {α : Type} (f : α → List Value) (s : Nat) (hf : ∀ a, (f a).length = s) (l : List α) (k j : Nat) (a : α) (hk : l[k]? = some a) (hj : j < s) : (l.flatMap f)[k * s + j]? = (f a)[j]? := by
  induction l generalizing k with
  | nil => simp at hk
  | cons b l ih =>
    rw [List.flatMap_cons]
    cases k with
    | zero =>
      simp at hk
      subst hk
      rw [List.getElem?_append_left (by rw [hf]; omega)]
      congr 1
      omega
    | succ k =>
      rw [List.getElem?_append_right (by rw [hf, Nat.add_mul]; omega)]
      have e : (k + 1) * s + j - (f b).length = k * s + j := by rw [hf, Nat.add_mul]; omega
      rw [e]
      exact ih k (by simpa using hk)

theorem flat_length {α : Type} (f : α → List Value) (s : Nat) (hf : ∀ a, (f a).length = s) (l : List α) : (l.flatMap f).length = l.length * s := by
  induction l with
  | nil => simp
  | cons b l ih => rw [List.flatMap_cons, List.length_append, ih, hf, List.length_cons, Nat.add_mul]; omega

theorem cA_len (r : Run) : (cA r).length = 7 := rfl
theorem cB_len (r : Run) : (cB r).length = 7 := rfl

theorem take_snoc {α : Type} (l : List α) (k : Nat) (a : α) (h : l[k]? = some a) : l.take (k + 1) = l.take k ++ [a] := by
  rw [List.take_add_one, h]; rfl

theorem flat_snoc {α : Type} (f : α → List Value) (l : List α) (k : Nat) (a : α) (h : l[k]? = some a) : (l.take (k + 1)).flatMap f = (l.take k).flatMap f ++ f a := by
  rw [take_snoc l k a h, List.flatMap_append]
  simp

/-- The cells of a block that has just been made. -/
theorem newAt (w : World) (l : List Value) (t : TypeId) (g : Nat) (hg : g = w.heap.size) : ∀ j u, l[j]? = some u → (w.alloc (.cells l.toArray t)).cell? ((⟨g, 0, none⟩ : Addr).add j) = some u := by
  intro j u hu
  subst hg
  rw [addAt, cell_of_row _ w.heap.size j l.toArray t (0, 0) (heap_alloc_new w _)]
  simpa using hu

theorem cellsA {wr : World} {g : Nat} {L : List Run} {k : Nat} {r : Run} (hc : ∀ j u, (L.flatMap cA)[j]? = some u → wr.cell? ⟨g, j, none⟩ = some u) (hk : L[k]? = some r) :
    wr.cell? ⟨g, k * 7, none⟩ = some (.int .i64 r.mn) ∧ wr.cell? ⟨g, k * 7 + 1, none⟩ = some (.int .i64 r.mx) ∧ wr.cell? ⟨g, k * 7 + 2, none⟩ = some (.int .i64 r.lv) ∧ wr.cell? ⟨g, k * 7 + 3, none⟩ = some (.int .i64 r.st) ∧
    wr.cell? ⟨g, k * 7 + 4, none⟩ = some (.float .f64 r.wd) ∧ wr.cell? ⟨g, k * 7 + 5, none⟩ = some (.bool r.hd) ∧ wr.cell? ⟨g, k * 7 + 6, none⟩ = some (.bool r.cu) := by
  have h := fun j hj => flat_cell cA 7 cA_len L k j r hk hj
  exact ⟨hc _ _ (h 0 (by omega)), hc _ _ (h 1 (by omega)), hc _ _ (h 2 (by omega)), hc _ _ (h 3 (by omega)), hc _ _ (h 4 (by omega)), hc _ _ (h 5 (by omega)), hc _ _ (h 6 (by omega))⟩

theorem cellsB {wr : World} {g : Nat} {L : List Run} {k : Nat} {r : Run} (hc : ∀ j u, (L.flatMap cB)[j]? = some u → wr.cell? ⟨g, j, none⟩ = some u) (hk : L[k]? = some r) :
    wr.cell? ⟨g, k * 7, none⟩ = some (.int .i64 r.mn) ∧ wr.cell? ⟨g, k * 7 + 1, none⟩ = some (.int .i64 r.mx) ∧ wr.cell? ⟨g, k * 7 + 2, none⟩ = some (.float .f64 r.wd) ∧ wr.cell? ⟨g, k * 7 + 3, none⟩ = some (.bool r.hd) ∧
    wr.cell? ⟨g, k * 7 + 4, none⟩ = some (.int .i64 r.lv) ∧ wr.cell? ⟨g, k * 7 + 5, none⟩ = some (.int .i64 r.st) ∧ wr.cell? ⟨g, k * 7 + 6, none⟩ = some (.bool r.cu) := by
  have h := fun j hj => flat_cell cB 7 cB_len L k j r hk hj
  exact ⟨hc _ _ (h 0 (by omega)), hc _ _ (h 1 (by omega)), hc _ _ (h 2 (by omega)), hc _ _ (h 3 (by omega)), hc _ _ (h 4 (by omega)), hc _ _ (h 5 (by omega)), hc _ _ (h 6 (by omega))⟩

theorem cA_one (r : Run) : ∀ u ∈ cA r, u.oneCell' = true := by
  intro u hu
  simp [cA] at hu
  rcases hu with rfl | rfl | rfl | rfl | rfl | rfl | rfl <;> rfl
theorem cB_one (r : Run) : ∀ u ∈ cB r, u.oneCell' = true := by
  intro u hu
  simp [cB] at hu
  rcases hu with rfl | rfl | rfl | rfl | rfl | rfl | rfl <;> rfl

theorem run_store_float (P : Program) (w : World) (a : Addr) (m : Mode) (k : FloatKind) (b : Nat) : (store a (.float k b) m).run P w = stored P w a (.float k b) m := run_store P w a _ m rfl

theorem infoA : (Try.prog.info? 34).map (fun i => (i.zero, i.size, i.bytes)) = some (some (.agg #[.int .i64 0, .int .i64 0, .int .i64 0, .int .i64 0, .float .f64 0, .bool false, .bool false]), 7, 48) := by kernel_rfl
theorem infoB : (Try.prog.info? 45).map (fun i => (i.zero, i.size, i.bytes)) = some (some (.agg #[.int .i64 0, .int .i64 0, .int .i64 0, .int .i64 0, .float .f64 0, .bool false, .bool false]), 7, 48) := by kernel_rfl
theorem infoC : (Try.prog.info? 68).map (fun i => (i.zero, i.size, i.bytes)) = some (some (.agg #[.int .i64 0, .int .i64 0, .float .f64 0, .bool false, .int .i64 0, .int .i64 0, .bool false]), 7, 56) := by kernel_rfl

end Go.Proofs.Ytdobgmeibccjnaa.Ln
