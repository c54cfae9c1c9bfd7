/- The text of an area within the limits: it is read back, by the package and by the specification. -/
import Derived.Test.YtokooampmhcfeaaGreatDoorRSame
import Derived.Test.YtokooampmhcfeaaGreatDoorRSpecName
namespace Go.Proofs.YtokooampmhcfeaaGreatDoor.Rg
open Go.RowKit

/-- The text of an area. -/
def Ar.text (a : Ar) : List UInt8 := areaText false a.p.toNat a.q.toNat a.x.toNat a.y.toNat

theorem Good.nat {a : Ar} (h : Good a) : ∃ p q x y : Nat, a = Nat4 p q x y ∧ a.text = areaText false p q x y ∧ (1 ≤ p ∧ p ≤ 30) ∧ (1 ≤ q ∧ q ≤ 60) ∧ (1 ≤ x ∧ x ≤ 30) ∧ (1 ≤ y ∧ y ≤ 60) := by
  obtain ⟨h1, h2, h3, h4, h5, h6, h7⟩ := h
  obtain ⟨p, q, x, y⟩ := a
  simp only at h1 h2 h3 h4 h5 h6
  refine ⟨p.toNat, q.toNat, x.toNat, y.toNat, ?_, rfl, by omega, by omega, by omega, by omega⟩
  unfold Nat4
  congr 1 <;> omega

theorem text_any (a : Ar) (w : World) (h : Good a) :
    Calls Tryz.prog 19 #[a.val] w fun e w' => e = .returned (.string ⟨a.text.toArray⟩) ∧ Below w.heap.size w w' := by
  obtain ⟨p, q, x, y, rfl, ht, hp, hq, hx, hy⟩ := h.nat
  rw [ht]
  exact spec_area p q x y w (by omega) (by omega) (by omega) (by omega)

theorem Good.range {a : Ar} (h : Good a) : IsRange ⟨a.text.toArray⟩ a.p a.q a.x a.y := by
  obtain ⟨p, q, x, y, rfl, ht, hp, hq, hx, hy⟩ := h.nat
  rw [ht]
  exact areaText_range false p q x y (by omega) (by omega) (by omega) (by omega)

theorem cell_bytes (c r : Nat) : ∀ u ∈ colName c ++ Lib.decDigits r, u.toNat ≠ 32 ∧ u.toNat ≠ 58 := by
  intro u hu
  rcases List.mem_append.1 hu with h | h
  · have := colName_up c u h
    unfold Up at this
    omega
  · have := digits_dig r u h
    unfold Dig at this
    omega

theorem areaText_bytes (p q x y : Nat) : ∀ u ∈ areaText false p q x y, u.toNat ≠ 32 := by
  intro u hu
  unfold areaText cellText at hu
  rcases List.mem_append.1 hu with h | h
  · exact (cell_bytes p q u (by simpa using h)).1
  · rcases List.mem_cons.1 h with rfl | h
    · decide
    · exact (cell_bytes x y u (by simpa using h)).1

theorem Good.text_len {a : Ar} (h : Good a) : 1 ≤ a.text.length ∧ a.text.length ≤ 25 := by
  obtain ⟨p, q, x, y, rfl, ht, hp, hq, hx, hy⟩ := h.nat
  rw [ht]
  have h1 := cellText_len false p q hp.1 (by omega) (by omega)
  have h2 := cellText_len false x y hx.1 (by omega) (by omega)
  unfold areaText
  simp
  omega

/-- The slice reads as the list of texts. -/
def RdS (w : World) (A : Option Addr) (T : List (List UInt8)) : Prop :=
  0 < T.length → ∃ g, A = some ⟨g, 0, none⟩ ∧ g < w.heap.size ∧ ∀ k s, T[k]? = some s → w.cell? ⟨g, k, none⟩ = some (.string ⟨s.toArray⟩)

theorem OwnsS.reads {w : World} {B : Nat} {A : Option Addr} {m c : Nat} {T : List (List UInt8)} (h : OwnsS w B A m c T) : RdS w A T := by
  intro hn
  have ho := h.own
  rcases ho.2 with ⟨h0, h1⟩ | ⟨g, cap, cur, hv, hg⟩
  · have hl := h.len
    omega
  · simp only [Value.slice.injEq] at hv
    obtain ⟨rfl, _, rfl⟩ := hv
    refine ⟨g, rfl, (ho.lt g rfl).2, fun k s hk => ?_⟩
    have := ho.cells (g := g) rfl k (.string ⟨s.toArray⟩) (by simp [strs, hk])
    rwa [addAt] at this

theorem RdS.later {w w' : World} {A : Option Addr} {T : List (List UInt8)} (h : RdS w A T) (hb : Below w.heap.size w w') : RdS w' A T := by
  intro hn
  obtain ⟨g, hA, hg, hc⟩ := h hn
  exact ⟨g, hA, Nat.lt_of_lt_of_le hg hb.size, fun k s hk => (hb.cell (p := ⟨g, k, none⟩) hg).trans (hc k s hk)⟩

/-- The texts of areas. -/
def texts (L : List Ar) : List (List UInt8) := L.map Ar.text

theorem take_flat (L : List Ar) (k : Nat) (a : Ar) (h : L[k]? = some a) : (L.take (k + 1)).flatMap Ar.cells = (L.take k).flatMap Ar.cells ++ a.cells := by
  rw [List.take_add_one, h, List.flatMap_append]
  simp

theorem own_below {w w' : World} {base size n : Nat} {e : TypeId} {v : Value} {xs : List Value} (h : w.ownsRow base e size v n xs) (hb : Below w.heap.size w w') : w'.ownsRow base e size v n xs := by
  refine ⟨h.1, ?_⟩
  rcases h.2 with hn | ⟨g, cap, cur, rfl, hbb, hgg, rest⟩
  · exact .inl hn
  · refine .inr ⟨g, cap, cur, rfl, hbb, ?_, rest⟩
    rw [hb.block g (Array.getElem?_eq_some_iff.1 hgg).1]
    exact hgg

theorem news4 {w : World} {B : Nat} {A : Option Addr} {m c : Nat} {a : Ar} (h : OwnsR w B A m c [a]) : ∃ g, A = some ⟨g, 0, none⟩ ∧ m = 1 ∧ g < w.heap.size ∧ ∀ j u, a.cells[j]? = some u → w.cell? ((⟨g, 0, none⟩ : Addr).add j) = some u := by
  obtain ⟨g, hA, hg, hc⟩ := h.reads (by simp)
  refine ⟨g, hA, h.len, hg, fun j u hu => ?_⟩
  rw [addAt]
  exact hc j u (by simpa using hu)

end Go.Proofs.YtokooampmhcfeaaGreatDoor.Rg
