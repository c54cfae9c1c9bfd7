/- The reader of formulas in memory. -/
import Derived.Test.YtfeffdjnjckjaaaGreatDoorRows
import Derived.Test.YtfeffdjnjckjaaaGreatDoorProg
import Derived.WalkKit
import Derived.WalkSpells
import Derived.WalkLawsBesides
import Derived.BigQuiet
import Derived.Lib.Hide
import Derived.Below
import Derived.Lib.Strings
import Derived.Lib.AppendStr
import Derived.Laws.BytesArg
import Derived.Deep.AppendLies
/- Rows, blocks by the kind of their elements, and what writes leave alone. -/
namespace Go.Proofs.YtfeffdjnjckjaaaGreatDoor.Rg
open Go.RowKit

theorem own_slice {w : World} {base size n : Nat} {e : TypeId} {v : Value} {xs : List Value} (h : w.ownsRow base e size v n xs) : ∃ A c, v = .slice A n c := by
  rcases h.2 with ⟨rfl, rfl⟩ | ⟨g, cap, cur, rfl, _⟩
  · exact ⟨_, _, rfl⟩
  · exact ⟨_, _, rfl⟩

theorem addAt (g j : Nat) : (⟨g, 0, none⟩ : Addr).add j = ⟨g, j, none⟩ := by
  unfold Addr.add
  split <;> simp_all

theorem newAt (w : World) (l : List Value) (t : TypeId) (g : Nat) (hg : g = w.heap.size) : ∀ j u, l[j]? = some u → (w.alloc (.cells l.toArray t)).cell? ((⟨g, 0, none⟩ : Addr).add j) = some u := by
  intro j u hu
  subst hg
  rw [addAt, cell_of_row _ w.heap.size j l.toArray t (0, 0) (heap_alloc_new w _)]
  simpa using hu

theorem own_below {w w' : World} {base size n : Nat} {e : TypeId} {v : Value} {xs : List Value} (h : w.ownsRow base e size v n xs) (hb : Below w.heap.size w w') : w'.ownsRow base e size v n xs := by
  refine ⟨h.1, ?_⟩
  rcases h.2 with hn | ⟨g, cap, cur, rfl, hbb, hgg, rest⟩
  · exact .inl hn
  · refine .inr ⟨g, cap, cur, rfl, hbb, ?_, rest⟩
    rw [hb.block g (Array.getElem?_eq_some_iff.1 hgg).1]
    exact hgg

/-- The cell j of element k of a list of records. -/
theorem flat_cell {α : Type} (f : α → List Value) (s : Nat) (hf : ∀ a, (f a).length = s) (l : List α) (k j : Nat) (a : α) (hk : l[k]? = some a) (hj : j < s) : (l.flatMap f)[k * s + j]? = (f a)[j]? := by
  induction l generalizing k with
  | nil => simp at hk
  | cons b l ih =>
    rw [List.flatMap_cons]
    cases k with
    | zero =>
      simp at hk
      subst hk
      rw [List.getElem?_append_left (by rw [hf]; omega)]
      congr 1
      omega
    | succ k =>
      rw [List.getElem?_append_right (by rw [hf, Nat.add_mul]; omega)]
      have e : (k + 1) * s + j - (f b).length = k * s + j := by rw [hf, Nat.add_mul]; omega
      rw [e]
      exact ih k (by simpa using hk)

theorem below_drewN (w : World) (n : Nat) : Below w.heap.size w (w.drewN n) := by constructor <;> first | rfl | exact Nat.le_refl _ | (intros; rfl)

theorem own_lower {w : World} {B B' size n : Nat} {e : TypeId} {v : Value} {xs : List Value} (h : w.ownsRow B e size v n xs) (hB : B' ≤ B) : w.ownsRow B' e size v n xs := by
  refine ⟨h.1, ?_⟩
  rcases h.2 with hn | ⟨g, cap, cur, hv, hbb, hgg, rest⟩
  · exact .inl hn
  · exact .inr ⟨g, cap, cur, hv, Nat.le_trans hB hbb, hgg, rest⟩

/-- Block g holds elements of type t. -/
def Tag (w : World) (g : Nat) (t : TypeId) : Prop := ∃ cs, w.heap[g]? = some (.cells cs t (0, 0))

theorem Tag.lt {w : World} {g : Nat} {t : TypeId} (h : Tag w g t) : g < w.heap.size := by
  obtain ⟨cs, h⟩ := h
  exact (Array.getElem?_eq_some_iff.1 h).1

theorem Tag.of_block {w w' : World} {g : Nat} {t : TypeId} (h : Tag w g t) (he : w'.heap[g]? = w.heap[g]?) : Tag w' g t := by
  obtain ⟨cs, h⟩ := h
  exact ⟨cs, he.trans h⟩

theorem Tag.below {w w' : World} {g : Nat} {t : TypeId} (h : Tag w g t) (hb : Below w.heap.size w w') : Tag w' g t := h.of_block (hb.block g h.lt)

theorem Tag.grown {w w' : World} {g : Nat} {t : TypeId} {row : Option Nat} (h : Tag w g t) (hg : w.grownBy w' row) (hne : row ≠ some g) : Tag w' g t := h.of_block (hg.block g h.lt (fun e => hne e.symm))

theorem Tag.setCell {w : World} {g : Nat} {t : TypeId} (h : Tag w g t) (a : Addr) (v : Value) (ha : a.spot = none) : Tag (w.setCell a v) g t := by
  obtain ⟨cs, h⟩ := h
  by_cases hg : g = a.block
  · obtain ⟨b, i, s⟩ := a
    simp only at hg ha
    subst hg
    subst ha
    exact ⟨_, heap_setCell_same w g i cs t v h⟩
  · exact ⟨cs, (heap_setCell_other w a g v hg).trans h⟩

theorem Tag.made (w : World) (cs : Array Value) (t : TypeId) (g : Nat) (hg : g = w.heap.size) : Tag (w.alloc (.cells cs t)) g t := by
  subst hg
  exact ⟨cs, heap_alloc_new w _⟩

theorem Tag.free {w : World} {g : Nat} {t : TypeId} (h : Tag w g t) (i : Nat) : w.frozen? ⟨g, i, none⟩ = false := by
  obtain ⟨cs, h⟩ := h
  simp [World.frozen?, h]

theorem own_tag {w : World} {base size n : Nat} {e : TypeId} {v : Value} {xs : List Value} (h : w.ownsRow base e size v n xs) (g : Nat) (hv : v.ownBlock = some g) : Tag w g e := by
  rcases h.2 with ⟨rfl, _⟩ | ⟨g', cap, cur, rfl, _, hg, _⟩
  · simp [Value.ownBlock] at hv
  · have : g' = g := by simpa [Value.ownBlock] using hv
    subst this
    exact ⟨cur, hg⟩

/-- A block of another kind is not the row's. -/
theorem Tag.far {w : World} {base size n g : Nat} {e t : TypeId} {v : Value} {xs : List Value} (h : Tag w g t) (ho : w.ownsRow base e size v n xs) (hne : t ≠ e) : v.ownBlock ≠ some g := by
  intro hv
  obtain ⟨cs, h1⟩ := h
  obtain ⟨cs', h2⟩ := own_tag ho g hv
  rw [h1] at h2
  injection h2 with h2
  injection h2 with _ h3 _
  exact hne h3

theorem Tag.ne {w : World} {g g' : Nat} {t t' : TypeId} (h : Tag w g t) (h' : Tag w g' t') (hne : t ≠ t') : g ≠ g' := by
  intro e
  subst e
  obtain ⟨cs, h1⟩ := h
  obtain ⟨cs', h2⟩ := h'
  rw [h1] at h2
  injection h2 with h2
  injection h2 with _ h3 _
  exact hne h3

/-- What does not touch block g. -/
def Same (w w' : World) (g : Nat) : Prop := w'.heap[g]? = w.heap[g]?

theorem Same.cell {w w' : World} {g i : Nat} (h : Same w w' g) : w'.cell? ⟨g, i, none⟩ = w.cell? ⟨g, i, none⟩ := World.cell?_of_block h

theorem Same.of_below {w w' : World} {g : Nat} (hb : Below w.heap.size w w') (hg : g < w.heap.size) : Same w w' g := hb.block g hg

theorem Same.of_grown {w w' : World} {g : Nat} {row : Option Nat} (hg : w.grownBy w' row) (hl : g < w.heap.size) (hne : row ≠ some g) : Same w w' g := hg.block g hl (fun e => hne e.symm)

theorem Same.of_set {w : World} {g : Nat} (a : Addr) (v : Value) (hne : g ≠ a.block) : Same w (w.setCell a v) g := heap_setCell_other w a g v hne

theorem Same.trans {w w1 w2 : World} {g : Nat} (h : Same w w1 g) (h' : Same w1 w2 g) : Same w w2 g := Eq.trans h' h

theorem own_same {w w' : World} {base size n : Nat} {e : TypeId} {v : Value} {xs : List Value} (h : w.ownsRow base e size v n xs) (hs : ∀ g, v.ownBlock = some g → Same w w' g) : w'.ownsRow base e size v n xs := by
  refine ⟨h.1, ?_⟩
  rcases h.2 with hn | ⟨g, cap, cur, rfl, hbb, hgg, rest⟩
  · exact .inl hn
  · have he : w'.heap[g]? = w.heap[g]? := hs g rfl
    exact .inr ⟨g, cap, cur, rfl, hbb, he.trans hgg, rest⟩

/-- Every block of another kind is as it was. -/
def KeepBut (w w' : World) (e : TypeId) : Prop := ∀ g t, t ≠ e → Tag w g t → Same w w' g

theorem KeepBut.refl (w : World) (e : TypeId) : KeepBut w w e := fun _ _ _ _ => rfl

theorem KeepBut.below {w w' : World} (hb : Below w.heap.size w w') (e : TypeId) : KeepBut w w' e := fun _ _ _ h => Same.of_below hb h.lt

theorem KeepBut.grown {w w' : World} {base size n : Nat} {e : TypeId} {v : Value} {xs : List Value} (hg : w.grownBy w' v.ownBlock) (ho : w.ownsRow base e size v n xs) : KeepBut w w' e :=
  fun _ _ hne ht => Same.of_grown hg ht.lt (ht.far ho hne)

theorem KeepBut.tag {w w' : World} {e : TypeId} (h : KeepBut w w' e) {g : Nat} {t : TypeId} (ht : Tag w g t) (hne : t ≠ e) : Tag w' g t := ht.of_block (h g t hne ht)

theorem KeepBut.trans {w w1 w2 : World} {e : TypeId} (h : KeepBut w w1 e) (h' : KeepBut w1 w2 e) : KeepBut w w2 e :=
  fun g t hne ht => (h g t hne ht).trans (h' g t hne (h.tag ht hne))

theorem KeepBut.own {w w' : World} {base size n : Nat} {e t : TypeId} {v : Value} {xs : List Value} (h : KeepBut w w' e) (ho : w.ownsRow base t size v n xs) (hne : t ≠ e) : w'.ownsRow base t size v n xs :=
  own_same ho fun g hg => h g t hne (own_tag ho g hg)

end Go.Proofs.YtfeffdjnjckjaaaGreatDoor.Rg

/- The reader of formulas in memory: the bytes that are left, and what its small parts do: peek, takes, blanks. -/
namespace Go.Proofs.YtfeffdjnjckjaaaGreatDoor.Rg
open Go.RowKit

/-- A text of bytes. -/
def bs (l : List UInt8) : ByteArray := ⟨l.toArray⟩
theorem bs_list (l : List UInt8) : (bs l).data.toList = l := rfl
theorem bs_size (l : List UInt8) : (bs l).size = l.length := by show l.toArray.size = l.length; simp
theorem bs_of (b : ByteArray) : bs b.data.toList = b := rfl

/-- Block g is the reader of s, with r left of it, so deep, bad or not. -/
structure At (w : World) (g : Nat) (s : ByteArray) (r : List UInt8) (d : Int) (b : Bool) : Prop where
  st : w.heap[g]? = some (.cells #[.string s, .int .i64 ((s.size : Int) - (r.length : Int)), .int .i64 d, .bool b] 37 (0, 0))
  suf : r <:+ s.data.toList
  small : s.size ≤ 8192

theorem At.len {w : World} {g : Nat} {s : ByteArray} {r : List UInt8} {d : Int} {b : Bool} (h : At w g s r d b) : r.length ≤ s.size := by
  have := h.suf.length_le
  have hl : s.data.toList.length = s.size := by simp
  omega
theorem At.c0 {w : World} {g : Nat} {s : ByteArray} {r : List UInt8} {d : Int} {b : Bool} (h : At w g s r d b) : w.cell? ⟨g, 0, none⟩ = some (.string s) := by simp [World.cell?, h.st]
theorem At.c1 {w : World} {g : Nat} {s : ByteArray} {r : List UInt8} {d : Int} {b : Bool} (h : At w g s r d b) : w.cell? ⟨g, 1, none⟩ = some (.int .i64 ((s.size : Int) - (r.length : Int))) := by simp [World.cell?, h.st]
theorem At.c2 {w : World} {g : Nat} {s : ByteArray} {r : List UInt8} {d : Int} {b : Bool} (h : At w g s r d b) : w.cell? ⟨g, 2, none⟩ = some (.int .i64 d) := by simp [World.cell?, h.st]
theorem At.c3 {w : World} {g : Nat} {s : ByteArray} {r : List UInt8} {d : Int} {b : Bool} (h : At w g s r d b) : w.cell? ⟨g, 3, none⟩ = some (.bool b) := by simp [World.cell?, h.st]
theorem At.free {w : World} {g : Nat} {s : ByteArray} {r : List UInt8} {d : Int} {b : Bool} (h : At w g s r d b) (i : Nat) : w.frozen? ⟨g, i, none⟩ = false := by simp [World.frozen?, h.st]
theorem At.lt {w : World} {g : Nat} {s : ByteArray} {r : List UInt8} {d : Int} {b : Bool} (h : At w g s r d b) : g < w.heap.size := (Array.getElem?_eq_some_iff.1 h.st).1
theorem At.tag {w : World} {g : Nat} {s : ByteArray} {r : List UInt8} {d : Int} {b : Bool} (h : At w g s r d b) : Tag w g 37 := ⟨_, h.st⟩
theorem At.same {w w' : World} {g : Nat} {s : ByteArray} {r : List UInt8} {d : Int} {b : Bool} (h : At w g s r d b) (hs : Same w w' g) : At w' g s r d b := ⟨Eq.trans hs h.st, h.suf, h.small⟩
theorem At.below {w w' : World} {g : Nat} {s : ByteArray} {r : List UInt8} {d : Int} {b : Bool} (h : At w g s r d b) (hb : Below w.heap.size w w') : At w' g s r d b := h.same (Same.of_below hb h.lt)
/-- The position is put where r' is left. -/
theorem At.setAt {w : World} {g : Nat} {s : ByteArray} {r : List UInt8} {d : Int} {b : Bool} (h : At w g s r d b) (r' : List UInt8) (p : Int) (hp : p = (s.size : Int) - (r'.length : Int)) (hr : r' <:+ s.data.toList) : At (w.setCell ⟨g, 1, none⟩ (.int .i64 p)) g s r' d b := by
  subst hp
  exact ⟨heap_setCell_same w g 1 _ 37 _ h.st, hr, h.small⟩
theorem At.setDeep {w : World} {g : Nat} {s : ByteArray} {r : List UInt8} {d : Int} {b : Bool} (h : At w g s r d b) (d' : Int) : At (w.setCell ⟨g, 2, none⟩ (.int .i64 d')) g s r d' b :=
  ⟨heap_setCell_same w g 2 _ 37 _ h.st, h.suf, h.small⟩
theorem At.setBad {w : World} {g : Nat} {s : ByteArray} {r : List UInt8} {d : Int} {b : Bool} (h : At w g s r d b) (b' : Bool) : At (w.setCell ⟨g, 3, none⟩ (.bool b')) g s r d b' :=
  ⟨heap_setCell_same w g 3 _ 37 _ h.st, h.suf, h.small⟩

/-- How far the reader is from its end, and more. -/
def left (w : World) (g : Nat) : Nat := match w.cell? ⟨g, 1, none⟩ with | some (.int _ i) => (8192 - i).toNat | _ => 0
theorem At.left {w : World} {g : Nat} {s : ByteArray} {r : List UInt8} {d : Int} {b : Bool} (h : At w g s r d b) : left w g = 8192 - s.size + r.length := by
  have := h.len
  have := h.small
  unfold Rg.left
  rw [h.c1]
  show (8192 - ((s.size : Int) - (r.length : Int))).toNat = _
  omega
/-- What the walk sees of the reader. -/
theorem At.see {w : World} {g : Nat} {s : ByteArray} {r : List UInt8} {d : Int} {b : Bool} (h : At w g s r d b) : ∃ p : Int, 0 ≤ p ∧ p ≤ 8192 ∧ Hid (p = (s.size : Int) - (r.length : Int)) ∧ w.cell? ⟨g, 1, none⟩ = some (.int .i64 p) ∧ w.frozen? ⟨g, 1, none⟩ = false := by
  have := h.len
  have := h.small
  exact ⟨_, by omega, by omega, Lib.hid rfl, h.c1, h.free 1⟩
/-- A byte is passed. -/
theorem At.step {w : World} {g : Nat} {s : ByteArray} {a : UInt8} {r : List UInt8} {d : Int} {b : Bool} (h : At w g s (a :: r) d b) (p : Int) (hp : p = (s.size : Int) - ((a :: r).length : Int) + 1) : At (w.setCell ⟨g, 1, none⟩ (.int .i64 p)) g s r d b :=
  h.setAt r p (by rw [hp, List.length_cons]; omega) ((List.suffix_cons _ _).trans h.suf)

/-- Nothing but the reader changes. -/
def Fr (w w' : World) (g : Nat) : Prop := w.grownBy w' (some g)
theorem Fr.trans {w w1 w2 : World} {g : Nat} (h : Fr w w1 g) (k : Fr w1 w2 g) : Fr w w2 g := World.grownBy.trans h k
theorem Fr.refl (w : World) (g : Nat) : Fr w w g := World.grownBy.refl w _
theorem Fr.of_below {w w' : World} (g : Nat) (h : Below w.heap.size w w') : Fr w w' g := ⟨h.os, h.tape, h.output, h.size, fun i hi _ => h.block i hi⟩
theorem Fr.set {w : World} (g i : Nat) (v : Value) : Fr w (w.setCell ⟨g, i, none⟩ v) g := by
  refine ⟨rfl, rfl, rfl, by simp [World.setCell], fun k _ hk => ?_⟩
  exact heap_setCell_other w _ k v (by simpa using hk)

theorem At.pos {w : World} {g : Nat} {s : ByteArray} {r : List UInt8} {d : Int} {b : Bool} (h : At w g s r d b) : ∃ k : Nat, (s.size : Int) - (r.length : Int) = (k : Int) ∧ k + r.length = s.size ∧ r = s.data.toList.drop k := by
  have hl := h.len
  refine ⟨s.size - r.length, by omega, by omega, ?_⟩
  obtain ⟨t, ht⟩ := h.suf
  have hsz : s.size = s.data.toList.length := by simp
  have hk : s.size - r.length = t.length := by rw [hsz, ← ht, List.length_append]; omega
  rw [hk, ← ht]
  simp

/-- The byte that comes stands at the position. -/
theorem At.head {w : World} {g : Nat} {s : ByteArray} {a : UInt8} {r : List UInt8} {d : Int} {b : Bool} (h : At w g s (a :: r) d b) : ∃ k : Nat, (s.size : Int) - ((a :: r).length : Int) = (k : Int) ∧ ∃ hk : k < s.size, s[k] = a := by
  have hl := h.len
  refine ⟨s.size - (a :: r).length, by omega, ?_⟩
  obtain ⟨t, ht⟩ := h.suf
  have hsz : s.size = s.data.toList.length := by simp
  have hk : s.size - (a :: r).length = t.length := by rw [hsz, ← ht, List.length_append]; omega
  have hlt : t.length < s.data.toList.length := by rw [← ht]; simp
  have hlt2 : s.size - (a :: r).length < s.size := by rw [hk, hsz]; exact hlt
  refine ⟨hlt2, ?_⟩
  have h1 : s.data.toList[t.length] = a := by simp [← ht]
  rw [Array.getElem_toList] at h1
  have h2 : s[s.size - (a :: r).length] = s.data[t.length] := by
    show s.data[s.size - (a :: r).length]'hlt2 = _
    simp only [hk]
  rw [h2, h1]

/-- Block j holds these cells of a type. -/
def Box (w : World) (j : Nat) (cs : Array Value) (t : TypeId) : Prop := w.heap[j]? = some (.cells cs t (0, 0))
theorem Box.cell {w : World} {j : Nat} {cs : Array Value} {t : TypeId} (h : Box w j cs t) (i : Nat) : w.cell? ⟨j, i, none⟩ = cs[i]? := cell_of_row w j i cs t (0, 0) h
theorem Box.free {w : World} {j : Nat} {cs : Array Value} {t : TypeId} (h : Box w j cs t) (i : Nat) : w.frozen? ⟨j, i, none⟩ = false := Tag.free (t := t) ⟨cs, h⟩ i
theorem Box.lt {w : World} {j : Nat} {cs : Array Value} {t : TypeId} (h : Box w j cs t) : j < w.heap.size := Tag.lt (t := t) ⟨cs, h⟩
theorem Box.tag {w : World} {j : Nat} {cs : Array Value} {t : TypeId} (h : Box w j cs t) : Tag w j t := ⟨cs, h⟩
theorem Box.same {w w' : World} {j : Nat} {cs : Array Value} {t : TypeId} (h : Box w j cs t) (hs : Same w w' j) : Box w' j cs t := Eq.trans hs h
theorem Box.below {w w' : World} {j : Nat} {cs : Array Value} {t : TypeId} (h : Box w j cs t) (hb : Below w.heap.size w w') : Box w' j cs t := h.same (Same.of_below hb h.lt)
theorem Box.fr {w w' : World} {g j : Nat} {cs : Array Value} {t : TypeId} (h : Box w j cs t) (hf : Fr w w' g) (hne : j ≠ g) : Box w' j cs t := h.same (hf.block j h.lt (by simpa using hne))
theorem Box.drewN {w : World} {j : Nat} {cs : Array Value} {t : TypeId} (h : Box w j cs t) (n : Nat) : Box (w.drewN n) j cs t := h
theorem Box.made (w : World) (cs : Array Value) (t : TypeId) : Box (w.alloc (.cells cs t)) w.heap.size cs t := heap_alloc_new w _
theorem Box.alloc {w : World} {j : Nat} {cs : Array Value} {t : TypeId} (h : Box w j cs t) (o : Obj) : Box (w.alloc o) j cs t := h.below ((Below.refl _ _).alloc (Nat.le_refl _) _)
theorem Box.set {w : World} {j : Nat} {cs : Array Value} {t : TypeId} (h : Box w j cs t) (i : Nat) (v : Value) : Box (w.setCell ⟨j, i, none⟩ v) j (cs.set! i v) t := heap_setCell_same w j i cs t v h
theorem Box.other {w : World} {j k : Nat} {cs : Array Value} {t : TypeId} (h : Box w j cs t) (i : Nat) (v : Value) (hne : j ≠ k) : Box (w.setCell ⟨k, i, none⟩ v) j cs t := h.same (Same.of_set _ _ hne)
theorem At.other {w : World} {g k : Nat} {s : ByteArray} {r : List UInt8} {d : Int} {b : Bool} (h : At w g s r d b) (i : Nat) (v : Value) (hne : g ≠ k) : At (w.setCell ⟨k, i, none⟩ v) g s r d b := h.same (Same.of_set _ _ hne)
theorem At.alloc {w : World} {g : Nat} {s : ByteArray} {r : List UInt8} {d : Int} {b : Bool} (h : At w g s r d b) (o : Obj) : At (w.alloc o) g s r d b := h.below ((Below.refl _ _).alloc (Nat.le_refl _) _)
/-- A block of the call's own is written. -/
theorem Fr.own {w w' : World} {g j : Nat} (h : Fr w w' g) (i : Nat) (v : Value) (hj : w.heap.size ≤ j) : Fr w (w'.setCell ⟨j, i, none⟩ v) g :=
  ⟨h.os, h.tape, h.output, by simpa [World.setCell] using h.size, fun k hk hne => (heap_setCell_other w' _ k v (by show k ≠ j; omega)).trans (h.block k hk hne)⟩
theorem Fr.alloc {w w' : World} {g : Nat} (h : Fr w w' g) (o : Obj) : Fr w (w'.alloc o) g := World.grownBy.trans h (World.grownBy_alloc _ _ _)

/-- The byte that comes, or 0. -/
def pk (r : List UInt8) : UInt8 := r.headD 0

theorem At.drewN {w : World} {g : Nat} {s : ByteArray} {r : List UInt8} {d : Int} {b : Bool} (h : At w g s r d b) (n : Nat) : At (w.drewN n) g s r d b := h.below (below_drewN w n)
theorem Fr.drewN (w : World) (g n : Nat) : Fr w (w.drewN n) g := Fr.of_below g (below_drewN w n)

set_option maxHeartbeats 1000000 in
theorem peek_any (g : Nat) (s : ByteArray) (r : List UInt8) (d : Int) (b : Bool) (w : World) (h : At w g s r d b) :
    Calls Tryz.prog 18 #[.pointer (some ⟨g, 0, none⟩)] w fun e w' => e = .returned (.int .u8 (pk r).toNat) ∧ ∃ n, w' = w.drewN n := by
  have c0 := h.c0
  have c1 := h.c1
  have hl := h.len
  have hs := h.small
  cases r with
  | nil =>
    go_enter Tryz.func18, Tryz.ntmps18
    go_wp2
    go_quiet (fail)
    go_wp2
    go_ret
    exact ⟨rfl, _, rfl⟩
  | cons a r =>
    obtain ⟨k, hk, hks, hka⟩ := h.head
    rw [hk] at c1
    clear hk h hl
    go_enter Tryz.func18, Tryz.ntmps18
    go_wp2
    go_quiet (fail)
    go_wp2
    go_quiet (fail)
    go_wp2
    go_ret
    exact ⟨rfl, _, (World.drewN_drewN _ _ _)⟩

end Go.Proofs.YtfeffdjnjckjaaaGreatDoor.Rg
