/- The letters of the texts of areas. -/
import Derived.Test.YtokooampmhcfeaaGreatDoorFAreas
namespace Go.Proofs.YtokooampmhcfeaaGreatDoor.Rg
open Go.RowKit

theorem cell_letters (c r : Nat) : ∀ u ∈ colName c ++ Lib.decDigits r, 48 ≤ u.toNat ∧ u.toNat < 128 ∧ u ≠ 58 := by
  intro u hu
  have h58 : u.toNat ≠ 58 → u ≠ 58 := fun h e => h (by rw [e]; rfl)
  rcases List.mem_append.1 hu with h | h
  · have := colName_up c u h
    unfold Up at this
    exact ⟨by omega, by omega, h58 (by omega)⟩
  · have := digits_dig r u h
    unfold Dig at this
    exact ⟨by omega, by omega, h58 (by omega)⟩

theorem Good.parts {a : Ar} (h : Good a) : ∃ s t : List UInt8, a.text = s ++ 58 :: t ∧ (∀ u ∈ s, 48 ≤ u.toNat ∧ u.toNat < 128 ∧ u ≠ 58) ∧ ∀ u ∈ t, 48 ≤ u.toNat ∧ u.toNat < 128 ∧ u ≠ 58 := by
  obtain ⟨p, q, x, y, rfl, ht, _⟩ := h.nat
  exact ⟨colName p ++ Lib.decDigits q, colName x ++ Lib.decDigits y, by rw [ht]; simp [areaText, cellText], cell_letters p q, cell_letters x y⟩

theorem Good.letters {a : Ar} (h : Good a) : ∀ u ∈ a.text, 48 ≤ u.toNat ∧ u.toNat < 128 := by
  obtain ⟨s, t, e, hs, ht⟩ := h.parts
  intro u hu
  rw [e] at hu
  rcases List.mem_append.1 hu with hu | hu
  · exact ⟨(hs u hu).1, (hs u hu).2.1⟩
  · rcases List.mem_cons.1 hu with rfl | hu
    · decide
    · exact ⟨(ht u hu).1, (ht u hu).2.1⟩

theorem Good.word {a : Ar} (h : Good a) : Word a.text := by
  refine ⟨fun e => ?_, fun u hu => isSp_not u (by have := (h.letters u hu).1; omega)⟩
  have := h.text_len.1
  rw [e] at this
  simp at this

theorem Good.pieces {a : Ar} (h : Good a) : ∃ s t : List UInt8, pieces 58 a.text = [s, t] := by
  obtain ⟨s, t, e, hs, ht⟩ := h.parts
  exact ⟨s, t, by rw [e]; exact pieces_two (fun u hu => (hs u hu).2.2) (fun u hu => (ht u hu).2.2)⟩

theorem joined_letters : ∀ (T : List (List UInt8)), (∀ t ∈ T, ∀ u ∈ t, u.toNat < 128) → ∀ u ∈ joined T, u.toNat < 128 := by
  intro T h u hu
  cases T with
  | nil => simp [joined] at hu
  | cons a r =>
    unfold joined at hu
    rcases List.mem_append.1 hu with hu | hu
    · exact h a (by simp) u hu
    · obtain ⟨t, ht, hu⟩ := List.mem_flatMap.1 hu
      rcases List.mem_cons.1 hu with rfl | hu
      · decide
      · exact h t (by simp [ht]) u hu

/-- What strings.Fields asks of the text of areas, and what it gives. -/
theorem areas_fields {L : List Ar} (hG : ∀ a ∈ L, Good a) (hn : L.length ≤ 5) :
    (joined (texts L)).length ≤ 130 ∧ (∀ u ∈ joined (texts L), u.toNat < 128) ∧ Lib.fields (joined (texts L)) = texts L := by
  have hm : ∀ t ∈ texts L, ∃ a, Good a ∧ a.text = t := fun t ht => by
    obtain ⟨a, ha, rfl⟩ := List.mem_map.1 ht
    exact ⟨a, hG a ha, rfl⟩
  refine ⟨?_, joined_letters _ (fun t ht u hu => ?_), fields_joined _ (fun t ht => ?_)⟩
  · have := joined_len (texts L) (fun t ht => by obtain ⟨a, ha, rfl⟩ := hm t ht; exact ha.text_len.2)
    unfold texts at this ⊢
    rw [List.length_map] at this
    omega
  · obtain ⟨a, ha, rfl⟩ := hm t ht
    exact (ha.letters u hu).2
  · obtain ⟨a, ha, rfl⟩ := hm t ht
    exact ha.word

end Go.Proofs.YtokooampmhcfeaaGreatDoor.Rg
