/- The four numbers of a range, as the package computes them from its text. -/
import Derived.Test.YtokooampmhcfeaaGreatDoorRCoords
namespace Go.Proofs.YtokooampmhcfeaaGreatDoor.Rg
open Go.RowKit

/-- The text, without '$', is two cells with a colon between them. -/
def IsRange (t : ByteArray) (p q x y : Int) : Prop :=
  ∃ (a b : List UInt8) (n m : Nat), t.data.toList.filter (· != 36) = a ++ 58 :: b ∧ IsCell ⟨a.toArray⟩ n p q ∧ IsCell ⟨b.toArray⟩ m x y ∧ t.size ≤ 1000

theorem CellName.not_colon {s : ByteArray} {n : Nat} (h : CellName s n) : ∀ a ∈ s.data.toList, a ≠ 58 := by
  intro a ha e
  obtain ⟨k, hk, hak⟩ := List.mem_iff_getElem.1 ha
  have hsl : s.data.toList.length = s.size := by simp
  have hks : k < s.size := by omega
  have hd := data_get s k hks (by omega)
  rw [hak, e] at hd
  by_cases hn : k < n
  · have := h.letters k hks hn
    rw [hd] at this
    have h1 := this.1
    simp at h1
  · have := h.digits k hks (by omega)
    rw [hd] at this
    have h2 := this.2
    simp at h2

theorem pieces_two {a b : List UInt8} (ha : ∀ u ∈ a, u ≠ 58) (hb : ∀ u ∈ b, u ≠ 58) : pieces 58 (a ++ 58 :: b) = [a, b] := by
  have h : (a ++ 58 :: b).findIdx? (· == 58) = some a.length := by
    rw [List.findIdx?_append]
    have h0 : a.findIdx? (· == 58) = none := by
      rw [List.findIdx?_eq_none_iff]
      intro u hu
      simpa using ha u hu
    rw [h0]
    simp [List.findIdx?_cons]
  rw [pieces_some 58 _ _ h]
  have h1 : (a ++ 58 :: b).take a.length = a := by simp
  have h2 : (a ++ 58 :: b).drop (a.length + 1) = b := by
    rw [← List.drop_drop]
    simp
  rw [h1, h2, pieces_none]
  rw [List.findIdx?_eq_none_iff]
  intro u hu
  simpa using hb u hu

/-- The row of the pieces of a range. -/
theorem OwnsS.two {w : World} {B : Nat} {A : Option Addr} {m c : Nat} {a b : List UInt8} (h : OwnsS w B A m c [a, b]) :
    ∃ g, A = some ⟨g, 0, none⟩ ∧ m = 2 ∧ g < w.heap.size ∧ w.cell? ⟨g, 0, none⟩ = some (.string ⟨a.toArray⟩) ∧ w.cell? ⟨g, 1, none⟩ = some (.string ⟨b.toArray⟩) := by
  have hm : m = 2 := h.len
  subst hm
  have ho := h.own
  rcases ho.2 with ⟨h0, _⟩ | ⟨g, cap, cur, hv, _⟩
  · simp at h0
  · simp only [Value.slice.injEq] at hv
    obtain ⟨rfl, _, rfl⟩ := hv
    refine ⟨g, rfl, rfl, (ho.lt g rfl).2, ?_, ?_⟩
    · have := ho.cells (g := g) rfl 0 (.string ⟨a.toArray⟩) rfl
      simpa [addAt] using this
    · have := ho.cells (g := g) rfl 1 (.string ⟨b.toArray⟩) rfl
      simpa [addAt] using this

set_option maxHeartbeats 1000000 in
set_option maxRecDepth 100000 in
theorem range_any (t : ByteArray) (p q x y : Int) (w : World) (h : IsRange t p q x y) :
    Calls Tryz.prog 35 #[.string t] w fun e w' => FourPost w p q x y e w' := by
  obtain ⟨a, b, n, m, hf, hA, hB, ht⟩ := h
  have HP : Hid (pieces 58 (⟨(t.data.toList.filter (· != 36)).toArray⟩ : ByteArray).data.toList = [a, b]) := by
    show pieces 58 (t.data.toList.filter (· != 36)) = [a, b]
    rw [hf]
    exact pieces_two (by simpa using hA.name.not_colon) (by simpa using hB.name.not_colon)
  have HS : Hid ((⟨(t.data.toList.filter (· != 36)).toArray⟩ : ByteArray).size ≤ 1000000) := by
    show (t.data.toList.filter (· != 36)).toArray.size ≤ 1000000
    have h1 := List.length_filter_le (· != (36 : UInt8)) t.data.toList
    have h2 : t.data.toList.length = t.size := by simp
    rw [List.size_toArray]
    omega
  clear hf
  go_enter Tryz.func35, Tryz.ntmps35
  go_wp2_with fail
  refine (replace_any t 36 _ (by omega)).mono ?_
  rintro e w1 ⟨rfl, hb1⟩
  go_wp2_with fail
  refine (split_any _ 58 _ HS.out).mono ?_
  rw [HP.out]
  rintro e w2 ⟨A, k, c, rfl, hO, hb2⟩
  obtain ⟨g, rfl, rfl, hg, c0, c1⟩ := hO.two
  clear hO
  have hB2 : Below w.heap.size w w2 := hb1.trans (hb2.mono hb1.size)
  clear hb1 hb2 HP HS
  go_wp2_with fail
  go_region_held3 (fun w' => w'.cell? ⟨g, 0, none⟩ = some (.string ⟨a.toArray⟩) ∧ w'.cell? ⟨g, 1, none⟩ = some (.string ⟨b.toArray⟩))
    (first | exact ⟨c0, c1⟩ | exact ⟨k0, k1⟩ | assumption)
    (first | (go_at_call 54; refine (cells_any ⟨a.toArray⟩ ⟨b.toArray⟩ n m p q x y _ hA hB).mono ?_; rintro e w3 ⟨b3, rfl, hF⟩; have k0 := (hF.below.cell (p := ⟨g, 0, none⟩) hg).trans c0; have k1 := (hF.below.cell (p := ⟨g, 1, none⟩) hg).trans c1; replace hF := hF.under hB2.drew))
  go_wp2
  go_ret2
  exact ⟨b3, rfl, hF⟩
end Go.Proofs.YtokooampmhcfeaaGreatDoor.Rg
