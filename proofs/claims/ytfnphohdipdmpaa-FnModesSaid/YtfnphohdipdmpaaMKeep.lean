/- Rows, blocks by the kind of their elements, and what writes leave alone. -/
import Derived.Test.YtfnphohdipdmpaaRows
import Derived.Test.YtfnphohdipdmpaaProg
import Derived.WalkKit
import Derived.WalkSpells
import Derived.WalkLawsBesides
import Derived.BigQuiet
import Derived.Lib.Hide
import Derived.Below
import Derived.Lib.Strings
import Derived.Lib.AppendStr
import Derived.Laws.BytesArg
import Derived.Deep.AppendLies
namespace Go.Proofs.Ytfnphohdipdmpaa.Rg
open Go.RowKit

theorem own_slice {w : World} {base size n : Nat} {e : TypeId} {v : Value} {xs : List Value} (h : w.ownsRow base e size v n xs) : ∃ A c, v = .slice A n c := by
  rcases h.2 with ⟨rfl, rfl⟩ | ⟨g, cap, cur, rfl, _⟩
  · exact ⟨_, _, rfl⟩
  · exact ⟨_, _, rfl⟩

theorem addAt (g j : Nat) : (⟨g, 0, none⟩ : Addr).add j = ⟨g, j, none⟩ := by
  unfold Addr.add
  split <;> simp_all

theorem newAt (w : World) (l : List Value) (t : TypeId) (g : Nat) (hg : g = w.heap.size) : ∀ j u, l[j]? = some u → (w.alloc (.cells l.toArray t)).cell? ((⟨g, 0, none⟩ : Addr).add j) = some u := by
  intro j u hu
  subst hg
  rw [addAt, cell_of_row _ w.heap.size j l.toArray t (0, 0) (heap_alloc_new w _)]
  simpa using hu

theorem own_below {w w' : World} {base size n : Nat} {e : TypeId} {v : Value} {xs : List Value} (h : w.ownsRow base e size v n xs) (hb : Below w.heap.size w w') : w'.ownsRow base e size v n xs := by
  refine ⟨h.1, ?_⟩
  rcases h.2 with hn | ⟨g, cap, cur, rfl, hbb, hgg, rest⟩
  · exact .inl hn
  · refine .inr ⟨g, cap, cur, rfl, hbb, ?_, rest⟩
    rw [hb.block g (Array.getElem?_eq_some_iff.1 hgg).1]
    exact hgg

/-- The cell j of element k of a list of records. -/
theorem flat_cell {α : Type} (f : α → List Value) (s : Nat) (hf : ∀ a, (f a).length = s) (l : List α) (k j : Nat) (a : α) (hk : l[k]? = some a) (hj : j < s) : (l.flatMap f)[k * s + j]? = (f a)[j]? := by
  induction l generalizing k with
  | nil => simp at hk
  | cons b l ih =>
    rw [List.flatMap_cons]
    cases k with
    | zero =>
      simp at hk
      subst hk
      rw [List.getElem?_append_left (by rw [hf]; omega)]
      congr 1
      omega
    | succ k =>
      rw [List.getElem?_append_right (by rw [hf, Nat.add_mul]; omega)]
      have e : (k + 1) * s + j - (f b).length = k * s + j := by rw [hf, Nat.add_mul]; omega
      rw [e]
      exact ih k (by simpa using hk)

theorem below_drewN (w : World) (n : Nat) : Below w.heap.size w (w.drewN n) := by constructor <;> first | rfl | exact Nat.le_refl _ | (intros; rfl)

theorem own_lower {w : World} {B B' size n : Nat} {e : TypeId} {v : Value} {xs : List Value} (h : w.ownsRow B e size v n xs) (hB : B' ≤ B) : w.ownsRow B' e size v n xs := by
  refine ⟨h.1, ?_⟩
  rcases h.2 with hn | ⟨g, cap, cur, hv, hbb, hgg, rest⟩
  · exact .inl hn
  · exact .inr ⟨g, cap, cur, hv, Nat.le_trans hB hbb, hgg, rest⟩

/-- Block g holds elements of type t. -/
def Tag (w : World) (g : Nat) (t : TypeId) : Prop := ∃ cs, w.heap[g]? = some (.cells cs t (0, 0))

theorem Tag.lt {w : World} {g : Nat} {t : TypeId} (h : Tag w g t) : g < w.heap.size := by
  obtain ⟨cs, h⟩ := h
  exact (Array.getElem?_eq_some_iff.1 h).1

theorem Tag.of_block {w w' : World} {g : Nat} {t : TypeId} (h : Tag w g t) (he : w'.heap[g]? = w.heap[g]?) : Tag w' g t := by
  obtain ⟨cs, h⟩ := h
  exact ⟨cs, he.trans h⟩

theorem Tag.below {w w' : World} {g : Nat} {t : TypeId} (h : Tag w g t) (hb : Below w.heap.size w w') : Tag w' g t := h.of_block (hb.block g h.lt)

theorem Tag.grown {w w' : World} {g : Nat} {t : TypeId} {row : Option Nat} (h : Tag w g t) (hg : w.grownBy w' row) (hne : row ≠ some g) : Tag w' g t := h.of_block (hg.block g h.lt (fun e => hne e.symm))

theorem Tag.setCell {w : World} {g : Nat} {t : TypeId} (h : Tag w g t) (a : Addr) (v : Value) (ha : a.spot = none) : Tag (w.setCell a v) g t := by
  obtain ⟨cs, h⟩ := h
  by_cases hg : g = a.block
  · obtain ⟨b, i, s⟩ := a
    simp only at hg ha
    subst hg
    subst ha
    exact ⟨_, heap_setCell_same w g i cs t v h⟩
  · exact ⟨cs, (heap_setCell_other w a g v hg).trans h⟩

theorem Tag.made (w : World) (cs : Array Value) (t : TypeId) (g : Nat) (hg : g = w.heap.size) : Tag (w.alloc (.cells cs t)) g t := by
  subst hg
  exact ⟨cs, heap_alloc_new w _⟩

theorem Tag.free {w : World} {g : Nat} {t : TypeId} (h : Tag w g t) (i : Nat) : w.frozen? ⟨g, i, none⟩ = false := by
  obtain ⟨cs, h⟩ := h
  simp [World.frozen?, h]

theorem own_tag {w : World} {base size n : Nat} {e : TypeId} {v : Value} {xs : List Value} (h : w.ownsRow base e size v n xs) (g : Nat) (hv : v.ownBlock = some g) : Tag w g e := by
  rcases h.2 with ⟨rfl, _⟩ | ⟨g', cap, cur, rfl, _, hg, _⟩
  · simp [Value.ownBlock] at hv
  · have : g' = g := by simpa [Value.ownBlock] using hv
    subst this
    exact ⟨cur, hg⟩

/-- A block of another kind is not the row's. -/
theorem Tag.far {w : World} {base size n g : Nat} {e t : TypeId} {v : Value} {xs : List Value} (h : Tag w g t) (ho : w.ownsRow base e size v n xs) (hne : t ≠ e) : v.ownBlock ≠ some g := by
  intro hv
  obtain ⟨cs, h1⟩ := h
  obtain ⟨cs', h2⟩ := own_tag ho g hv
  rw [h1] at h2
  injection h2 with h2
  injection h2 with _ h3 _
  exact hne h3

theorem Tag.ne {w : World} {g g' : Nat} {t t' : TypeId} (h : Tag w g t) (h' : Tag w g' t') (hne : t ≠ t') : g ≠ g' := by
  intro e
  subst e
  obtain ⟨cs, h1⟩ := h
  obtain ⟨cs', h2⟩ := h'
  rw [h1] at h2
  injection h2 with h2
  injection h2 with _ h3 _
  exact hne h3

/-- What does not touch block g. -/
def Same (w w' : World) (g : Nat) : Prop := w'.heap[g]? = w.heap[g]?

theorem Same.cell {w w' : World} {g i : Nat} (h : Same w w' g) : w'.cell? ⟨g, i, none⟩ = w.cell? ⟨g, i, none⟩ := World.cell?_of_block h

theorem Same.of_below {w w' : World} {g : Nat} (hb : Below w.heap.size w w') (hg : g < w.heap.size) : Same w w' g := hb.block g hg

theorem Same.of_grown {w w' : World} {g : Nat} {row : Option Nat} (hg : w.grownBy w' row) (hl : g < w.heap.size) (hne : row ≠ some g) : Same w w' g := hg.block g hl (fun e => hne e.symm)

theorem Same.of_set {w : World} {g : Nat} (a : Addr) (v : Value) (hne : g ≠ a.block) : Same w (w.setCell a v) g := heap_setCell_other w a g v hne

theorem Same.trans {w w1 w2 : World} {g : Nat} (h : Same w w1 g) (h' : Same w1 w2 g) : Same w w2 g := Eq.trans h' h

theorem own_same {w w' : World} {base size n : Nat} {e : TypeId} {v : Value} {xs : List Value} (h : w.ownsRow base e size v n xs) (hs : ∀ g, v.ownBlock = some g → Same w w' g) : w'.ownsRow base e size v n xs := by
  refine ⟨h.1, ?_⟩
  rcases h.2 with hn | ⟨g, cap, cur, rfl, hbb, hgg, rest⟩
  · exact .inl hn
  · have he : w'.heap[g]? = w.heap[g]? := hs g rfl
    exact .inr ⟨g, cap, cur, rfl, hbb, he.trans hgg, rest⟩

/-- Every block of another kind is as it was. -/
def KeepBut (w w' : World) (e : TypeId) : Prop := ∀ g t, t ≠ e → Tag w g t → Same w w' g

theorem KeepBut.refl (w : World) (e : TypeId) : KeepBut w w e := fun _ _ _ _ => rfl

theorem KeepBut.below {w w' : World} (hb : Below w.heap.size w w') (e : TypeId) : KeepBut w w' e := fun _ _ _ h => Same.of_below hb h.lt

theorem KeepBut.grown {w w' : World} {base size n : Nat} {e : TypeId} {v : Value} {xs : List Value} (hg : w.grownBy w' v.ownBlock) (ho : w.ownsRow base e size v n xs) : KeepBut w w' e :=
  fun _ _ hne ht => Same.of_grown hg ht.lt (ht.far ho hne)

theorem KeepBut.tag {w w' : World} {e : TypeId} (h : KeepBut w w' e) {g : Nat} {t : TypeId} (ht : Tag w g t) (hne : t ≠ e) : Tag w' g t := ht.of_block (h g t hne ht)

theorem KeepBut.trans {w w1 w2 : World} {e : TypeId} (h : KeepBut w w1 e) (h' : KeepBut w1 w2 e) : KeepBut w w2 e :=
  fun g t hne ht => (h g t hne ht).trans (h' g t hne (h.tag ht hne))

theorem KeepBut.own {w w' : World} {base size n : Nat} {e t : TypeId} {v : Value} {xs : List Value} (h : KeepBut w w' e) (ho : w.ownsRow base t size v n xs) (hne : t ≠ e) : w'.ownsRow base t size v n xs :=
  own_same ho fun g hg => h g t hne (own_tag ho g hg)

end Go.Proofs.Ytfnphohdipdmpaa.Rg
