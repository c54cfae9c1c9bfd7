/- Blocks by the kind of their elements, and areas as rows of four numbers in blocks of their own. -/
import Derived.Test.YtokooampmhcfeaaGreatDoorRTexts
import Derived.Deep.AppendLies
namespace Go.Proofs.YtokooampmhcfeaaGreatDoor.Rg
open Go.RowKit

/-- Block g holds elements of type t. -/
def Tag (w : World) (g : Nat) (t : TypeId) : Prop := ∃ cs, w.heap[g]? = some (.cells cs t (0, 0))

theorem Tag.lt {w : World} {g : Nat} {t : TypeId} (h : Tag w g t) : g < w.heap.size := by
  obtain ⟨cs, h⟩ := h
  exact (Array.getElem?_eq_some_iff.1 h).1
theorem Tag.of_block {w w' : World} {g : Nat} {t : TypeId} (h : Tag w g t) (he : w'.heap[g]? = w.heap[g]?) : Tag w' g t := by
  obtain ⟨cs, h⟩ := h
  exact ⟨cs, he.trans h⟩
theorem Tag.below {w w' : World} {g : Nat} {t : TypeId} (h : Tag w g t) (hb : Below w.heap.size w w') : Tag w' g t := h.of_block (hb.block g h.lt)
theorem Tag.grown {w w' : World} {g : Nat} {t : TypeId} {row : Option Nat} (h : Tag w g t) (hg : w.grownBy w' row) (hne : row ≠ some g) : Tag w' g t := h.of_block (hg.block g h.lt (fun e => hne e.symm))
theorem Tag.setCell {w : World} {g : Nat} {t : TypeId} (h : Tag w g t) (a : Addr) (v : Value) (ha : a.spot = none) : Tag (w.setCell a v) g t := by
  obtain ⟨cs, h⟩ := h
  by_cases hg : g = a.block
  · obtain ⟨b, i, s⟩ := a
    simp only at hg ha
    subst hg
    subst ha
    exact ⟨_, heap_setCell_same w g i cs t v h⟩
  · exact ⟨cs, (heap_setCell_other w a g v hg).trans h⟩
theorem Tag.made (w : World) (cs : Array Value) (t : TypeId) (g : Nat) (hg : g = w.heap.size) : Tag (w.alloc (.cells cs t)) g t := by
  subst hg
  exact ⟨cs, heap_alloc_new w _⟩
theorem Tag.free {w : World} {g : Nat} {t : TypeId} (h : Tag w g t) (i : Nat) : w.frozen? ⟨g, i, none⟩ = false := by
  obtain ⟨cs, h⟩ := h
  simp [World.frozen?, h]

theorem own_tag {w : World} {base size n : Nat} {e : TypeId} {v : Value} {xs : List Value} (h : w.ownsRow base e size v n xs) (g : Nat) (hv : v.ownBlock = some g) : Tag w g e := by
  rcases h.2 with ⟨rfl, _⟩ | ⟨g', cap, cur, rfl, _, hg, _⟩
  · simp [Value.ownBlock] at hv
  · have : g' = g := by simpa [Value.ownBlock] using hv
    subst this
    exact ⟨cur, hg⟩
/-- A block of another kind is not the row's. -/
theorem Tag.far {w : World} {base size n g : Nat} {e t : TypeId} {v : Value} {xs : List Value} (h : Tag w g t) (ho : w.ownsRow base e size v n xs) (hne : t ≠ e) : v.ownBlock ≠ some g := by
  intro hv
  obtain ⟨cs, h1⟩ := h
  obtain ⟨cs', h2⟩ := own_tag ho g hv
  rw [h1] at h2
  injection h2 with h2
  injection h2 with _ h3 _
  exact hne h3
theorem Tag.ne {w : World} {g g' : Nat} {t t' : TypeId} (h : Tag w g t) (h' : Tag w g' t') (hne : t ≠ t') : g ≠ g' := by
  intro e
  subst e
  obtain ⟨cs, h1⟩ := h
  obtain ⟨cs', h2⟩ := h'
  rw [h1] at h2
  injection h2 with h2
  injection h2 with _ h3 _
  exact hne h3

/-- What does not touch block g. -/
def Same (w w' : World) (g : Nat) : Prop := w'.heap[g]? = w.heap[g]?

theorem Same.cell {w w' : World} {g i : Nat} (h : Same w w' g) : w'.cell? ⟨g, i, none⟩ = w.cell? ⟨g, i, none⟩ := World.cell?_of_block h
theorem Same.of_below {w w' : World} {g : Nat} (hb : Below w.heap.size w w') (hg : g < w.heap.size) : Same w w' g := hb.block g hg
theorem Same.of_grown {w w' : World} {g : Nat} {row : Option Nat} (hg : w.grownBy w' row) (hl : g < w.heap.size) (hne : row ≠ some g) : Same w w' g := hg.block g hl (fun e => hne e.symm)
theorem Same.of_set {w : World} {g : Nat} (a : Addr) (v : Value) (hne : g ≠ a.block) : Same w (w.setCell a v) g := heap_setCell_other w a g v hne
theorem Same.trans {w w1 w2 : World} {g : Nat} (h : Same w w1 g) (h' : Same w1 w2 g) : Same w w2 g := Eq.trans h' h

theorem own_same {w w' : World} {base size n : Nat} {e : TypeId} {v : Value} {xs : List Value} (h : w.ownsRow base e size v n xs) (hs : ∀ g, v.ownBlock = some g → Same w w' g) : w'.ownsRow base e size v n xs := by
  refine ⟨h.1, ?_⟩
  rcases h.2 with hn | ⟨g, cap, cur, rfl, hbb, hgg, rest⟩
  · exact .inl hn
  · have he : w'.heap[g]? = w.heap[g]? := hs g rfl
    exact .inr ⟨g, cap, cur, rfl, hbb, he.trans hgg, rest⟩

/-- Block g is a row of four numbers, the area's. -/
structure Rec (w : World) (g : Nat) (a : Ar) : Prop where
  tag : Tag w g 3
  c0 : w.cell? ⟨g, 0, none⟩ = some (.int .i64 a.p)
  c1 : w.cell? ⟨g, 1, none⟩ = some (.int .i64 a.q)
  c2 : w.cell? ⟨g, 2, none⟩ = some (.int .i64 a.x)
  c3 : w.cell? ⟨g, 3, none⟩ = some (.int .i64 a.y)

theorem Rec.same {w w' : World} {g : Nat} {a : Ar} (h : Rec w g a) (hs : Same w w' g) : Rec w' g a :=
  ⟨h.tag.of_block hs, hs.cell.trans h.c0, hs.cell.trans h.c1, hs.cell.trans h.c2, hs.cell.trans h.c3⟩
theorem Rec.below {w w' : World} {g : Nat} {a : Ar} (h : Rec w g a) (hb : Below w.heap.size w w') : Rec w' g a := h.same (Same.of_below hb h.tag.lt)
theorem Rec.made (w : World) (a : Ar) : Rec (w.alloc (.cells #[.int .i64 a.p, .int .i64 a.q, .int .i64 a.x, .int .i64 a.y] 3)) w.heap.size a := by
  refine ⟨Tag.made w _ _ _ rfl, by simp [go_sem], by simp [go_sem], by simp [go_sem], by simp [go_sem]⟩

/-- The value is the row of an area. -/
def RecV (w : World) (v : Value) (a : Ar) : Prop := ∃ g c, v = .slice (some ⟨g, 0, none⟩) 4 c ∧ Rec w g a
/-- The values are the rows of the areas. -/
def Recs (w : World) (V : List Value) (L : List Ar) : Prop := V.length = L.length ∧ ∀ (i : Nat) (v : Value) (a : Ar), V[i]? = some v → L[i]? = some a → RecV w v a

theorem Recs.map {w w' : World} {V : List Value} {L : List Ar} (h : Recs w V L) (hs : ∀ g, Tag w g 3 → Same w w' g) : Recs w' V L :=
  ⟨h.1, fun i v a hv ha => by
    obtain ⟨g, c, rfl, hr⟩ := h.2 i v a hv ha
    exact ⟨g, c, rfl, hr.same (hs g hr.tag)⟩⟩
theorem Recs.nil (w : World) : Recs w [] [] := ⟨rfl, fun i v a hv _ => by simp at hv⟩
theorem Recs.snoc {w : World} {V : List Value} {L : List Ar} (h : Recs w V L) {v : Value} {a : Ar} (hv : RecV w v a) : Recs w (V ++ [v]) (L ++ [a]) := by
  refine ⟨by simp [h.1], fun i u b hu hb => ?_⟩
  rcases Nat.lt_or_ge i V.length with hi | hi
  · rw [List.getElem?_append_left hi] at hu
    rw [List.getElem?_append_left (by rw [← h.1]; exact hi)] at hb
    exact h.2 i u b hu hb
  · rw [List.getElem?_append_right hi] at hu
    rw [List.getElem?_append_right (by rw [← h.1]; exact hi), ← h.1] at hb
    cases hk : i - V.length with
    | zero =>
      rw [hk] at hu hb
      simp at hu hb
      subst hu
      subst hb
      exact hv
    | succ k =>
      rw [hk] at hu
      simp at hu
theorem Recs.get {w : World} {V : List Value} {L : List Ar} (h : Recs w V L) (i : Nat) (hi : i < L.length) : ∃ g c, V[i]? = some (.slice (some ⟨g, 0, none⟩) 4 c) ∧ Rec w g L[i] := by
  have hv : i < V.length := by rw [h.1]; exact hi
  obtain ⟨g, c, he, hr⟩ := h.2 i V[i] L[i] (List.getElem?_eq_getElem hv) (List.getElem?_eq_getElem hi)
  exact ⟨g, c, by rw [List.getElem?_eq_getElem hv, he], hr⟩
theorem Recs.one {w : World} {V : List Value} {L : List Ar} (h : Recs w V L) : ∀ u ∈ V, u.oneCell' = true := by
  intro u hu
  obtain ⟨i, hi, rfl⟩ := List.mem_iff_getElem.1 hu
  obtain ⟨g, c, he, _⟩ := h.2 i V[i] (L[i]'(by rw [← h.1]; exact hi)) (List.getElem?_eq_getElem hi) (List.getElem?_eq_getElem _)
  rw [he]
  rfl
end Go.Proofs.YtokooampmhcfeaaGreatDoor.Rg
