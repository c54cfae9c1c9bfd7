/- The words of the argument of Flat: the text of an area, or of one cell. -/
import Derived.Test.YtokooampmhcfeaaGreatDoorFWords
import Derived.Test.YtokooampmhcfeaaGreatDoorFParts
namespace Go.Proofs.YtokooampmhcfeaaGreatDoor.Rg
open Go.RowKit

structure Item where
  t : List UInt8
  a : Ar

structure Item.Ok (i : Item) : Prop where
  p1 : 1 ≤ i.a.p
  px : i.a.p ≤ i.a.x
  x30 : i.a.x ≤ 30
  q1 : 1 ≤ i.a.q
  qy : i.a.q ≤ i.a.y
  y99 : i.a.y ≤ 99
  len : 1 ≤ i.t.length ∧ i.t.length ≤ 25
  low : ∀ u ∈ i.t, 48 ≤ u.toNat ∧ u.toNat < 128
  shape : ((∃ s t, pieces 58 i.t = [s, t]) ∧ IsRange ⟨i.t.toArray⟩ i.a.p i.a.q i.a.x i.a.y) ∨ (pieces 58 i.t = [i.t] ∧ (∃ n, IsCell ⟨i.t.toArray⟩ n i.a.p i.a.q) ∧ i.a.x = i.a.p ∧ i.a.y = i.a.q)

def itexts (I : List Item) : List (List UInt8) := I.map Item.t
def iareas (I : List Item) : List Ar := I.map Item.a

theorem Item.Ok.word {i : Item} (h : i.Ok) : Word i.t := by
  refine ⟨fun e => ?_, fun u hu => isSp_not u (by have := (h.low u hu).1; omega)⟩
  have := h.len.1
  rw [e] at this
  simp at this

theorem items_fields {I : List Item} (hI : ∀ i ∈ I, i.Ok) (hn : I.length ≤ 25) :
    (joined (itexts I)).length ≤ 650 ∧ (∀ u ∈ joined (itexts I), u.toNat < 128) ∧ Lib.fields (joined (itexts I)) = itexts I := by
  have hm : ∀ t ∈ itexts I, ∃ i : Item, i.Ok ∧ i.t = t := fun t ht => by
    obtain ⟨i, hi, rfl⟩ := List.mem_map.1 ht
    exact ⟨i, hI i hi, rfl⟩
  refine ⟨?_, joined_letters _ (fun t ht u hu => ?_), fields_joined _ (fun t ht => ?_)⟩
  · have := joined_len (itexts I) (fun t ht => by obtain ⟨i, hi, rfl⟩ := hm t ht; exact hi.len.2)
    unfold itexts at this ⊢
    rw [List.length_map] at this
    omega
  · obtain ⟨i, hi, rfl⟩ := hm t ht
    exact (hi.low u hu).2
  · obtain ⟨i, hi, rfl⟩ := hm t ht
    exact hi.word

/-- Rows p to q of column c, as the package writes them. -/
def segItem (c p q : Nat) : Item := ⟨if p = q then cellText false c p else areaText false c p c q, ⟨c, p, c, q⟩⟩

theorem cellText_no (c r : Nat) : cellText false c r = colName c ++ Lib.decDigits r := rfl

theorem segItem_ok {c p q : Nat} (hc : 1 ≤ c ∧ c ≤ 30) (hp : 1 ≤ p) (hpq : p ≤ q) (hq : q ≤ 99) : (segItem c p q).Ok := by
  have hl1 := cellText_len false c p hc.1 (by omega) (by omega)
  have hl2 := cellText_len false c q hc.1 (by omega) (by omega)
  have hn := colName_len c hc.1 (by omega)
  have hlow := fun r => cell_letters c r
  have hcell : ∀ r, 1 ≤ (cellText false c r).length := fun r => by rw [cellText_no, List.length_append]; omega
  have h58 : ∀ r, ∀ u ∈ cellText false c r, u ≠ 58 := fun r u hu => (hlow r u hu).2.2
  by_cases h : p = q
  · subst h
    have e : (segItem c p p).t = cellText false c p := if_pos rfl
    refine ⟨by show (1 : Int) ≤ (c : Int); omega, Int.le_refl _, by show (c : Int) ≤ 30; omega, by show (1 : Int) ≤ (p : Int); omega, Int.le_refl _, by show (p : Int) ≤ 99; omega, ?_, ?_, .inr ⟨?_, ?_, rfl, rfl⟩⟩
    · rw [e]
      exact ⟨hcell p, by omega⟩
    · rw [e]
      intro u hu
      exact ⟨(hlow p u hu).1, (hlow p u hu).2.1⟩
    · rw [e]
      refine pieces_none 58 _ ?_
      rw [List.findIdx?_eq_none_iff]
      intro u hu
      simpa using h58 p u hu
    · rw [e]
      exact ⟨_, cellText_cell c p hc.1 (by omega) hp (by omega)⟩
  · have e : (segItem c p q).t = areaText false c p c q := if_neg h
    refine ⟨by show (1 : Int) ≤ (c : Int); omega, Int.le_refl _, by show (c : Int) ≤ 30; omega, by show (1 : Int) ≤ (p : Int); omega, by show (p : Int) ≤ (q : Int); omega, by show (q : Int) ≤ 99; omega, ?_, ?_, .inl ⟨?_, ?_⟩⟩
    · rw [e]
      unfold areaText
      rw [List.length_append, List.length_cons]
      have := hcell p
      omega
    · rw [e]
      unfold areaText
      intro u hu
      rcases List.mem_append.1 hu with hu | hu
      · exact ⟨(hlow p u hu).1, (hlow p u hu).2.1⟩
      · rcases List.mem_cons.1 hu with rfl | hu
        · decide
        · exact ⟨(hlow q u hu).1, (hlow q u hu).2.1⟩
    · rw [e]
      exact ⟨_, _, pieces_two (h58 p) (h58 q)⟩
    · rw [e]
      exact areaText_range false c p c q (by omega) (by omega) (by omega) (by omega)

def ints (Y : List Nat) : List Int := Y.map fun n : Nat => (n : Int)

theorem ints_append (X Y : List Nat) : ints (X ++ Y) = ints X ++ ints Y := by unfold ints; rw [List.map_append]

/-- Rows l to i - 1 are one run, and the items hold the rows before them. -/
structure Run (Y : List Nat) (col : Nat) (I : List Item) (l i : Nat) : Prop where
  lt : l < i
  le : i ≤ Y.length
  ok : ∀ it ∈ I, it.Ok ∧ it.a.p = col ∧ it.a.x = col
  done : cols (iareas I) col = ints (Y.take l)
  run : ∀ p q : Nat, Y[l]? = some p → Y[i - 1]? = some q → rowsTo p ((q : Int) + 1) = ints ((Y.take i).drop l)
  len : I.length ≤ l

theorem take_drop_one {Y : List Nat} {i y : Nat} (h : Y[i]? = some y) : (Y.take (i + 1)).drop i = [y] := by
  obtain ⟨hi, rfl⟩ := List.getElem?_eq_some_iff.1 h
  rw [List.take_succ_eq_append_getElem hi, List.drop_append, List.drop_eq_nil_of_le (by rw [List.length_take]; omega)]
  rw [List.length_take, show i - min i Y.length = 0 by omega]
  simp

theorem rowsTo_one (y : Nat) : rowsTo (y : Int) ((y : Int) + 1) = [(y : Int)] := by
  rw [rowsTo_snoc (Int.le_refl _), rowsTo_same]
  rfl

theorem Run.start {Y : List Nat} {col : Nat} (h : 1 ≤ Y.length) : Run Y col [] 0 1 := by
  refine ⟨by omega, h, by simp, by simp [cols, iareas, ints], fun p q hp hq => ?_, by simp⟩
  simp only [Nat.sub_self] at hq
  obtain rfl : p = q := by rw [hp] at hq; exact Option.some.inj hq
  rw [rowsTo_one, take_drop_one hp]
  rfl

theorem Run.more {Y : List Nat} {col : Nat} {I : List Item} {l i x y : Nat} (h : Run Y col I l i) (hy : Y[i]? = some y) (hx : Y[i - 1]? = some x) (hlx : ∀ p, Y[l]? = some p → p ≤ x) (hxy : y = x + 1) : Run Y col I l (i + 1) := by
  obtain ⟨hi, ey⟩ := List.getElem?_eq_some_iff.1 hy
  refine ⟨by have := h.lt; omega, hi, h.ok, h.done, fun p q hp hq => ?_, h.len⟩
  rw [Nat.add_sub_cancel] at hq
  obtain rfl : y = q := by rw [hy] at hq; exact Option.some.inj hq
  have hr := h.run p x hp hx
  have hpx := hlx p hp
  have hlt := h.lt
  rw [List.take_succ_eq_append_getElem hi, List.drop_append_of_le_length (by rw [List.length_take]; omega), ints_append, ← hr, ey]
  rw [rowsTo_snoc (by omega), hxy]
  simp [ints]

theorem full_col {col p q : Nat} : full (segItem col p q).a col = rowsTo p ((q : Int) + 1) := by
  unfold full segItem
  rw [if_pos (by simp)]

theorem Run.flush {Y : List Nat} {col : Nat} {I : List Item} {l i p q : Nat} (h : Run Y col I l i) (hp : Y[l]? = some p) (hq : Y[i - 1]? = some q) : cols (iareas (I ++ [segItem col p q])) col = ints (Y.take i) := by
  have hlt := h.lt
  have : cols (iareas (I ++ [segItem col p q])) col = cols (iareas I) col ++ full (segItem col p q).a col := by
    unfold cols iareas
    rw [List.map_append, List.flatMap_append]
    simp
  rw [this, full_col, h.done, h.run p q hp hq, ← ints_append]
  congr 1
  have h1 : Y.take l = (Y.take i).take l := by rw [List.take_take, Nat.min_eq_left (by omega)]
  rw [h1, List.take_append_drop]

theorem Run.cut {Y : List Nat} {col : Nat} {I : List Item} {l i p q : Nat} (h : Run Y col I l i) (hi : i < Y.length) (hp : Y[l]? = some p) (hq : Y[i - 1]? = some q) (hok : (segItem col p q).Ok) : Run Y col (I ++ [segItem col p q]) i (i + 1) := by
  refine ⟨by omega, hi, fun it hit => ?_, h.flush hp hq, fun p' q' hp' hq' => ?_, ?_⟩
  · rcases List.mem_append.1 hit with hit | hit
    · exact h.ok it hit
    · simp only [List.mem_singleton] at hit
      subst hit
      exact ⟨hok, rfl, rfl⟩
  · rw [Nat.add_sub_cancel] at hq'
    obtain rfl : p' = q' := by rw [hp'] at hq'; exact Option.some.inj hq'
    rw [rowsTo_one, take_drop_one hp']
    rfl
  · have := h.len
    have := h.lt
    simp
    omega

theorem rise_le {Y : List Nat} (h : Y.Pairwise (· < ·)) {l k p x : Nat} (hl : Y[l]? = some p) (hk : Y[k]? = some x) (hlk : l ≤ k) : p ≤ x := by
  obtain ⟨h1, rfl⟩ := List.getElem?_eq_some_iff.1 hl
  obtain ⟨h2, rfl⟩ := List.getElem?_eq_some_iff.1 hk
  rcases Nat.lt_or_ge l k with h3 | h3
  · exact Nat.le_of_lt (List.pairwise_iff_getElem.1 h l k h1 h2 h3)
  · obtain rfl : l = k := by omega
    exact Nat.le_refl _
end Go.Proofs.YtokooampmhcfeaaGreatDoor.Rg
