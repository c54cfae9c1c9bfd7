/- The text of a list of areas, with blanks between; and its fields. -/
import Derived.Test.YtokooampmhcfeaaGreatDoorRApart
import Derived.Lib.Fields
namespace Go.Proofs.YtokooampmhcfeaaGreatDoor.Rg
open Go.RowKit

/-- Texts, a blank ahead of each but the first. -/
def joined : List (List UInt8) → List UInt8
  | [] => []
  | t :: r => t ++ r.flatMap (fun u => 32 :: u)

theorem joined_snoc (T : List (List UInt8)) (t : List UInt8) : joined (T ++ [t]) = if T = [] then t else joined T ++ 32 :: t := by
  cases T with
  | nil => simp [joined]
  | cons a r => simp [joined]

theorem joined_take (T : List (List UInt8)) (k : Nat) (t : List UInt8) (h : T[k]? = some t) : joined (T.take (k + 1)) = if k = 0 then t else joined (T.take k) ++ 32 :: t := by
  obtain ⟨hk, rfl⟩ := List.getElem?_eq_some_iff.1 h
  rw [List.take_succ_eq_append_getElem hk, joined_snoc]
  by_cases h0 : k = 0
  · subst h0
    simp
  · have : T.take k ≠ [] := by
      intro e
      rw [List.take_eq_nil_iff] at e
      rcases e with e | e
      · exact h0 e
      · subst e
        simp at hk
    rw [if_neg this, if_neg h0]

theorem joined_len (T : List (List UInt8)) (h : ∀ t ∈ T, t.length ≤ 25) : (joined T).length ≤ 26 * T.length := by
  cases T with
  | nil => simp [joined]
  | cons a r =>
    have h0 := h a (by simp)
    have : ∀ r : List (List UInt8), (∀ t ∈ r, t.length ≤ 25) → (r.flatMap (fun u => 32 :: u)).length ≤ 26 * r.length := by
      intro r hr
      induction r with
      | nil => simp
      | cons b r ih =>
        have h1 := hr b (by simp)
        have h2 := ih (fun t ht => hr t (by simp [ht]))
        simp only [List.flatMap_cons, List.length_append, List.length_cons] at h2 ⊢
        omega
    have h1 := this r (fun t ht => h t (by simp [ht]))
    simp only [joined, List.length_append, List.length_cons] at h1 ⊢
    omega

/-- A text in which there is no blank. -/
def Word (t : List UInt8) : Prop := t ≠ [] ∧ ∀ u ∈ t, Lib.isSp u = false

theorem fieldsGo_word (t r : List UInt8) (cur : List UInt8) (h : ∀ u ∈ t, Lib.isSp u = false) : Lib.fieldsGo cur (t ++ r) = Lib.fieldsGo (cur ++ t) r := by
  induction t generalizing cur with
  | nil => simp
  | cons b t ih =>
    have hb := h b (by simp)
    rw [List.cons_append, Lib.fieldsGo_more _ _ _ hb, ih _ (fun u hu => h u (by simp [hu]))]
    simp

theorem fieldsGo_rest : ∀ (r : List (List UInt8)) (t : List UInt8), t ≠ [] → (∀ u ∈ r, Word u) → Lib.fieldsGo t (r.flatMap (fun u => 32 :: u)) = t :: r := by
  intro r
  induction r with
  | nil =>
    intro t ht _
    cases t with
    | nil => exact absurd rfl ht
    | cons a t => simp [Lib.fieldsGo]
  | cons b r ih =>
    intro t ht hr
    have hb := hr b (by simp)
    rw [List.flatMap_cons, List.cons_append, Lib.fieldsGo_end t 32 _ (by decide) ht, fieldsGo_word b _ [] hb.2, List.nil_append, ih b hb.1 (fun u hu => hr u (by simp [hu]))]

/-- The fields of texts with blanks between are these texts. -/
theorem fields_joined (T : List (List UInt8)) (h : ∀ t ∈ T, Word t) : Lib.fields (joined T) = T := by
  cases T with
  | nil => rfl
  | cons a r =>
    have ha := h a (by simp)
    unfold Lib.fields joined
    rw [fieldsGo_word a _ [] ha.2, List.nil_append]
    exact fieldsGo_rest r a ha.1 (fun u hu => h u (by simp [hu]))

theorem isSp_not (u : UInt8) (h : 36 ≤ u.toNat) : Lib.isSp u = false := by
  have : u ≠ 32 ∧ u ≠ 9 ∧ u ≠ 10 ∧ u ≠ 11 ∧ u ≠ 12 ∧ u ≠ 13 := by
    refine ⟨?_, ?_, ?_, ?_, ?_, ?_⟩ <;> (rintro rfl; revert h; decide)
  unfold Lib.isSp
  simp [this]

end Go.Proofs.YtokooampmhcfeaaGreatDoor.Rg
