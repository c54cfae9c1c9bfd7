/- The rows of a column, as areas add them: in plain Lean. -/
import Derived.Test.YtokooampmhcfeaaGreatDoorFGroups
namespace Go.Proofs.YtokooampmhcfeaaGreatDoor.Rg
open Go.RowKit

/-- The numbers from q on, below r. -/
def rowsTo (q r : Int) : List Int := (List.range (r - q).toNat).map fun i : Nat => q + (i : Int)

theorem rowsTo_same (q : Int) : rowsTo q q = [] := by simp [rowsTo]
theorem rowsTo_snoc {q r : Int} (h : q ≤ r) : rowsTo q (r + 1) = rowsTo q r ++ [r] := by
  unfold rowsTo
  rw [show (r + 1 - q).toNat = (r - q).toNat + 1 by omega, List.range_succ, List.map_append]
  simp
  omega
theorem mem_rowsTo {q r i : Int} : i ∈ rowsTo q r ↔ q ≤ i ∧ i < r := by
  unfold rowsTo
  simp only [List.mem_map, List.mem_range]
  constructor
  · rintro ⟨j, hj, rfl⟩
    omega
  · rintro ⟨h1, h2⟩
    exact ⟨(i - q).toNat, by omega, by omega⟩
theorem rowsTo_nodup (q r : Int) : (rowsTo q r).Nodup := by
  unfold rowsTo
  refine List.Pairwise.map _ (fun a b hab => ?_) List.nodup_range
  omega

/-- The rows that an area has in a column. -/
def full (a : Ar) (c : Int) : List Int := if a.p ≤ c ∧ c ≤ a.x then rowsTo a.q (a.y + 1) else []
/-- .. those of them up to column cc, and in it below row r. -/
def part (a : Ar) (cc r c : Int) : List Int := if a.p ≤ c ∧ c < cc then rowsTo a.q (a.y + 1) else if c = cc then rowsTo a.q r else []

theorem part_start (a : Ar) : part a a.p a.q = fun _ => [] := by
  funext c
  unfold part
  rw [if_neg (by omega), rowsTo_same]
  split <;> rfl
theorem part_col {a : Ar} {cc : Int} (h : a.p ≤ cc) : part a cc (a.y + 1) = part a (cc + 1) a.q := by
  funext c
  unfold part
  rw [rowsTo_same]
  by_cases h1 : a.p ≤ c ∧ c < cc
  · rw [if_pos h1, if_pos (by omega)]
  · rw [if_neg h1]
    by_cases h2 : c = cc
    · rw [if_pos h2, if_pos (by omega)]
    · rw [if_neg h2, if_neg (by omega)]
      split <;> rfl
theorem part_end (a : Ar) : part a (a.x + 1) a.q = full a := by
  funext c
  unfold part full
  rw [rowsTo_same]
  by_cases h1 : a.p ≤ c ∧ c ≤ a.x
  · rw [if_pos (by omega), if_pos h1]
  · rw [if_neg (by omega), if_neg h1]
    split <;> rfl
theorem part_push {a : Ar} {r : Int} (h : a.q ≤ r) (cc : Int) : part a cc (r + 1) = upd (part a cc r) cc (part a cc r cc ++ [r]) := by
  funext c
  by_cases hc : c = cc
  · subst hc
    rw [upd_same]
    unfold part
    rw [if_neg (by omega), if_pos rfl, if_neg (by omega), if_pos rfl, rowsTo_snoc h]
  · rw [upd_other _ _ hc]
    unfold part
    rw [if_neg hc, if_neg hc]

/-- The rows that areas have in a column. -/
def cols (L : List Ar) (c : Int) : List Int := L.flatMap fun a => full a c
theorem cols_take {L : List Ar} {k : Nat} {a : Ar} (h : L[k]? = some a) (c : Int) : cols (L.take (k + 1)) c = cols (L.take k) c ++ full a c := by
  obtain ⟨hk, rfl⟩ := List.getElem?_eq_some_iff.1 h
  unfold cols
  rw [List.take_succ_eq_append_getElem hk, List.flatMap_append]
  simp

/-- Block b is a map whose rows have the numbers F. -/
def Col (w : World) (b base N : Nat) (F : Int → List Int) : Prop := ∃ (n : Nat) (D : DataW Value) (V : Int → Value) (G : Int → List (Int × Nat)), Grp w b base n D V G ∧ n ≤ N ∧ ∀ c, (G c).map Prod.fst = F c

theorem Col.made (w : World) (base : Nat) : Col (w.alloc (.map #[] 0)) w.heap.size base 0 (fun _ => []) := ⟨0, _, _, _, Grp.made w base, Nat.le_refl _, fun _ => rfl⟩
theorem Col.keep {w w' : World} {b base N : Nat} {F : Int → List Int} (h : Col w b base N F) (hb : Below w.heap.size w w') : Col w' b base N F := by
  obtain ⟨n, D, V, G, h1, h2, h3⟩ := h
  exact ⟨n, D, V, G, h1.keep hb, h2, h3⟩
theorem Col.eq {w : World} {b base N N' : Nat} {F F' : Int → List Int} (h : Col w b base N F) (e : F = F') (hN : N ≤ N') : Col w b base N' F' := by
  subst e
  obtain ⟨n, D, V, G, h1, h2, h3⟩ := h
  exact ⟨n, D, V, G, h1, Nat.le_trans h2 hN, h3⟩

theorem upd_fst {G : Int → List (Int × Nat)} {F : Int → List Int} (h : ∀ c, (G c).map Prod.fst = F c) (c r : Int) (g : Nat) : ∀ d, (upd G c (G c ++ [(r, g)]) d).map Prod.fst = upd F c (F c ++ [r]) d := by
  intro d
  by_cases hd : d = c
  · subst hd
    rw [upd_same, upd_same, List.map_append, h]
    rfl
  · rw [upd_other _ _ hd, upd_other _ _ hd]
    exact h d

theorem part_at (X : Int → List Int) {a : Ar} {r : Int} (h : a.q ≤ r) (cc : Int) : upd (fun c => X c ++ part a cc r c) cc ((X cc ++ part a cc r cc) ++ [r]) = fun c => X c ++ part a cc (r + 1) c := by
  rw [part_push h]
  funext c
  by_cases hc : c = cc
  · subst hc
    rw [upd_same, upd_same, List.append_assoc]
  · rw [upd_other _ _ hc, upd_other _ _ hc]

/-- .. and none of its rows lies in block fb. -/
def FarCol (w : World) (b base N fb : Nat) (F : Int → List Int) : Prop := ∃ (n : Nat) (D : DataW Value) (V : Int → Value) (G : Int → List (Int × Nat)), Grp w b base n D V G ∧ n ≤ N ∧ (∀ c, (G c).map Prod.fst = F c) ∧ ∀ c, (V c).ownBlock ≠ some fb

theorem Col.far {w w' : World} {b base N fb : Nat} {F : Int → List Int} (h : Col w b base N F) (hfb : w.heap.size ≤ fb) (hb : Below w.heap.size w w') : FarCol w' b base N fb F := by
  obtain ⟨n, D, V, G, h1, h2, h3⟩ := h
  refine ⟨n, D, V, G, h1.keep hb, h2, h3, fun c e => ?_⟩
  have := ((h1.rows c).lt fb e).2
  omega
theorem FarCol.col {w : World} {b base N fb : Nat} {F : Int → List Int} (h : FarCol w b base N fb F) : Col w b base N F := by
  obtain ⟨n, D, V, G, h1, h2, h3, _⟩ := h
  exact ⟨n, D, V, G, h1, h2, h3⟩
theorem FarCol.eq {w : World} {b base N N' fb : Nat} {F F' : Int → List Int} (h : FarCol w b base N fb F) (e : F = F') (hN : N ≤ N') : FarCol w b base N' fb F' := by
  subst e
  obtain ⟨n, D, V, G, h1, h2, h3, h4⟩ := h
  exact ⟨n, D, V, G, h1, Nat.le_trans h2 hN, h3, h4⟩

/-- Block fb holds the four numbers of an area. -/
structure Quad (w : World) (fb : Nat) (a : Ar) : Prop where
  lt : fb < w.heap.size
  c0 : w.cell? ⟨fb, 0, none⟩ = some (.int .i64 a.p)
  c1 : w.cell? ⟨fb, 1, none⟩ = some (.int .i64 a.q)
  c2 : w.cell? ⟨fb, 2, none⟩ = some (.int .i64 a.x)
  c3 : w.cell? ⟨fb, 3, none⟩ = some (.int .i64 a.y)
theorem Quad.same {w w' : World} {fb : Nat} {a : Ar} (h : Quad w fb a) (hs : Same w w' fb) (hz : w.heap.size ≤ w'.heap.size) : Quad w' fb a :=
  ⟨Nat.lt_of_lt_of_le h.lt hz, hs.cell.trans h.c0, hs.cell.trans h.c1, hs.cell.trans h.c2, hs.cell.trans h.c3⟩

end Go.Proofs.YtokooampmhcfeaaGreatDoor.Rg
