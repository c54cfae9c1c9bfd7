/- A column as the list of arguments: of the reference, then of the program. -/
import Derived.Test.YtfnphohdipdmpaaMOfM
namespace Go.Proofs.Ytfnphohdipdmpaa.Rg
open Go.RowKit

/-- Block g holds a column of the program: a matrix of rows of one element. -/
def ColAt (w : World) (t : TypeId) (f : Int → List Value) (X : List Int) (g : Nat) : Prop := Tag w g t ∧ ∃ (A : Option Addr) (c : Nat), w.cell? ⟨g, 0, none⟩ = some (.int .i64 5) ∧ w.cell? ⟨g, 1, none⟩ = some (.float .f64 0) ∧ w.cell? ⟨g, 2, none⟩ = some (.string ⟨#[]⟩) ∧ w.cell? ⟨g, 3, none⟩ = some (.slice A X.length c) ∧ RdT w 0 A f X

theorem ColAt.later {w w' : World} {t : TypeId} {f : Int → List Value} {X : List Int} {g : Nat} (h : ColAt w t f X g) (hb : Below w.heap.size w w') : ColAt w' t f X g := by
  obtain ⟨ht, A, c, c0, c1, c2, c3, hr⟩ := h
  have hl := ht.lt
  exact ⟨ht.below hb, A, c, (hb.cell (p := ⟨g, 0, none⟩) hl).trans c0, (hb.cell (p := ⟨g, 1, none⟩) hl).trans c1, (hb.cell (p := ⟨g, 2, none⟩) hl).trans c2, (hb.cell (p := ⟨g, 3, none⟩) hl).trans c3, hr.later hb⟩

def OnePost (w : World) (t : TypeId) (f : Int → List Value) (X : List Int) (e : Ending) (w' : World) : Prop := ∃ (g c : Nat), e = .returned (.slice (some ⟨g, 0, none⟩) 1 c) ∧ ColAt w' t f X g ∧ Below w.heap.size w w'

set_option maxHeartbeats 3200000 in
set_option maxRecDepth 100000 in
theorem all_one (g c : Nat) (A : Option Addr) (n c2 : Nat) (X : List Int) (w : World) (hn : n = X.length) (hn2 : n ≤ 100) (hX : ∀ x ∈ X, -9 ≤ x ∧ x ≤ 9) (hA : RdT w 0 A svCells X)
    (c0 : w.cell? ⟨g, 0, none⟩ = some (.int .i64 5)) (c1 : w.cell? ⟨g, 1, none⟩ = some (.int .i64 0)) (c2' : w.cell? ⟨g, 2, none⟩ = some (.int .i64 0)) (c3 : w.cell? ⟨g, 3, none⟩ = some (.string ⟨#[]⟩)) (c4 : w.cell? ⟨g, 4, none⟩ = some (.slice A n c2)) :
    Calls Try.prog 8 #[.slice (some ⟨g, 0, none⟩) 1 c] w (OnePost w 32 ivCells X) := by
  obtain ⟨i1, hi1, hi1z, hi1s, hi1b⟩ := info_parts infoImpl
  have OF := Lib.hid (of_matrix A n c2 X w hn hn2 hX hA)
  clear hX hA hn
  go_enter Try.func8, Try.ntmps8
  go_wp2
  go_loopw [3, 4] (fun x i wr => (i = .int .i64 0 ∧ x = .slice none 0 0 ∧ w = wr) ∨ (i = .int .i64 1 ∧ ∃ g2 cq : Nat, x = .slice (some ⟨g2, 0, none⟩) 1 cq ∧ Hid (ColAt wr 32 ivCells X g2 ∧ Below w.heap.size w wr))) (fun _ i _ => 1 - (intOf i).toNat)
  case atStart => exact .inl ⟨rfl, rfl, rfl⟩
  case round =>
    rcases hrel with ⟨rfl, rfl, rfl⟩ | ⟨rfl, g2, cq, rfl, HR⟩
    · go_wp2_with fail
      refine OF.out.mono ?_
      rintro e w1 ⟨A', c', rfl, hr, hb1⟩
      have hbs := hb1.size
      have HRD := Lib.hid hr
      clear hr
      go_wp2_with (at_builtin; refine wpList_append_own _ rfl _ _ 34 rfl w.heap.size 32 i1 _ 4 56 Try.underlying34 hi1 hi1z hi1s hi1b rfl (by decide) (.slice none 0 0) 0 [] rfl ?c0 ⟨w1.heap.size, 0, none⟩ 1 1 [.int .i64 5, .float .f64 0, .string ⟨#[]⟩, .slice A' X.length c'] rfl rfl ?c1 ?c2 ?c3 ?c4 ?c5 ?_)
      case c0 => exact World.ownsRow_nil _ _ _ _
      case c1 => exact newAt _ [.int .i64 5, .float .f64 0, .string ⟨#[]⟩, .slice A' X.length c'] _ _ rfl
      case c2 => intro u hu; simp at hu; rcases hu with rfl | rfl | rfl | rfl <;> rfl
      case c3 => unfold maxLen; omega
      case c4 => omega
      case c5 => simp; omega
      intro v' w2 hown' hgrow _
      have hal : Below w1.heap.size w1 (w1.alloc (.cells #[.int .i64 5, .float .f64 0, .string ⟨#[]⟩, .slice A' X.length c'] 32)) := (Below.refl _ _).alloc (Nat.le_refl _) _
      have hb12 : Below w1.heap.size w1 w2 := hal.grown hgrow (by simp) (fun j hj => by simp [Value.ownBlock] at hj)
      obtain ⟨g2, cq, hv, hR⟩ := row_of_own (w := w) hown' (Nat.le_refl _)
      subst hv
      have HR : Hid (ColAt w2 32 ivCells X g2 ∧ Below w.heap.size w w2) := ⟨⟨hR.2.1, A', c', hR.2.2 0 _ rfl, hR.2.2 1 _ rfl, hR.2.2 2 _ rfl, hR.2.2 3 _ rfl, (HRD.out.later hb12).lower (Nat.zero_le _)⟩, hb1.trans (hb12.mono hbs)⟩
      clear hown' hgrow c0 c1 c2' c3 c4 hb12 hb1 hbs hR hal
      go_wp2
      go_roundw
      case rel => exact .inr ⟨rfl, g2, _, rfl, HR⟩
      case measure => simp [intOf]
    · go_wp2
      go_ret
      exact ⟨g2, _, rfl, HR.out.1, HR.out.2⟩
end Go.Proofs.Ytfnphohdipdmpaa.Rg
