/- Two lists with the same areas: the specification's comparison says yes. -/
import Derived.Test.YtokooampmhcfeaaGreatDoorRReadOne
import Derived.Laws.StructEq
import Derived.ChangeKeysEq
namespace Go.Proofs.YtokooampmhcfeaaGreatDoor.Rg
open Go.RowKit

/-- The slice reads as the list of areas. -/
def Rd4 (w : World) (A : Option Addr) (L : List Ar) : Prop :=
  0 < L.length → ∃ g, A = some ⟨g, 0, none⟩ ∧ g < w.heap.size ∧ ∀ j u, (L.flatMap Ar.cells)[j]? = some u → w.cell? ⟨g, j, none⟩ = some u

theorem OwnsR.reads {w : World} {B : Nat} {A : Option Addr} {m c : Nat} {L : List Ar} (h : OwnsR w B A m c L) : Rd4 w A L := by
  intro hn
  have ho := h.own
  rcases ho.2 with ⟨h0, h1⟩ | ⟨g, cap, cur, hv, hg⟩
  · have hl := h.len
    omega
  · simp only [Value.slice.injEq] at hv
    obtain ⟨rfl, _, rfl⟩ := hv
    refine ⟨g, rfl, (ho.lt g rfl).2, fun j u hu => ?_⟩
    have := ho.cells (g := g) rfl j u hu
    rwa [addAt] at this

theorem Rd4.later {w w' : World} {A : Option Addr} {L : List Ar} (h : Rd4 w A L) (hb : Below w.heap.size w w') : Rd4 w' A L := by
  intro hn
  obtain ⟨g, hA, hg, hc⟩ := h hn
  exact ⟨g, hA, Nat.lt_of_lt_of_le hg hb.size, fun j u hu => (hb.cell (p := ⟨g, j, none⟩) hg).trans (hc j u hu)⟩

/-- The cell j of element k of a list of records. -/
theorem flat_cell {α : Type} (f : α → List Value) (s : Nat) (hf : ∀ a, (f a).length = s) (l : List α) (k j : Nat) (a : α) (hk : l[k]? = some a) (hj : j < s) : (l.flatMap f)[k * s + j]? = (f a)[j]? := by
  induction l generalizing k with
  | nil => simp at hk
  | cons b l ih =>
    rw [List.flatMap_cons]
    cases k with
    | zero =>
      simp at hk
      subst hk
      rw [List.getElem?_append_left (by rw [hf]; omega)]
      congr 1
      omega
    | succ k =>
      rw [List.getElem?_append_right (by rw [hf, Nat.add_mul]; omega)]
      have e : (k + 1) * s + j - (f b).length = k * s + j := by rw [hf, Nat.add_mul]; omega
      rw [e]
      exact ih k (by simpa using hk)

/-- The four cells of element k. -/
structure At4 (w : World) (g k : Nat) (a : Ar) : Prop where
  c0 : w.cell? ⟨g, k * 4, none⟩ = some (.int .i64 a.p)
  c1 : w.cell? ⟨g, k * 4 + 1, none⟩ = some (.int .i64 a.q)
  c2 : w.cell? ⟨g, k * 4 + 2, none⟩ = some (.int .i64 a.x)
  c3 : w.cell? ⟨g, k * 4 + 3, none⟩ = some (.int .i64 a.y)

theorem At4.later {w w' : World} {g k : Nat} {a : Ar} (h : At4 w g k a) (hg : g < w.heap.size) (hb : Below w.heap.size w w') : At4 w' g k a :=
  ⟨(hb.cell (p := ⟨g, k * 4, none⟩) hg).trans h.c0, (hb.cell (p := ⟨g, k * 4 + 1, none⟩) hg).trans h.c1, (hb.cell (p := ⟨g, k * 4 + 2, none⟩) hg).trans h.c2, (hb.cell (p := ⟨g, k * 4 + 3, none⟩) hg).trans h.c3⟩

theorem Rd4.at {w : World} {A : Option Addr} {L : List Ar} (h : Rd4 w A L) (k : Nat) (hk : k < L.length) : ∃ g, A = some ⟨g, 0, none⟩ ∧ g < w.heap.size ∧ ∀ j (hj : j < L.length), At4 w g j L[j] := by
  obtain ⟨g, hA, hg, hc⟩ := h (by omega)
  refine ⟨g, hA, hg, fun j hj => ?_⟩
  have h4 := fun i hi => flat_cell Ar.cells 4 Ar.cells_len L j i L[j] (List.getElem?_eq_getElem hj) hi
  exact ⟨hc _ _ (h4 0 (by omega)), hc _ _ (h4 1 (by omega)), hc _ _ (h4 2 (by omega)), hc _ _ (h4 3 (by omega))⟩

end Go.Proofs.YtokooampmhcfeaaGreatDoor.Rg
