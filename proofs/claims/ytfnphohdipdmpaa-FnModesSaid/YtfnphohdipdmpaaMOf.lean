/- A number of the reference as one of the program. -/
import Derived.Test.YtfnphohdipdmpaaMSums
import Derived.Test.YtfnphohdipdmpaaMRow
namespace Go.Proofs.Ytfnphohdipdmpaa.Rg
open Go.RowKit

theorem infoImpl : (Try.prog.info? 32).map (fun i => (i.zero, i.size, i.bytes)) = some (some (.agg #[.int .i64 0, .float .f64 0, .string ⟨#[]⟩, .slice none 0 0]), 4, 56) := by kernel_rfl

/-- The four cells of a number of the program. -/
def ivCells (z : Int) : List Value := [.int .i64 1, .float .f64 (fl z), .string ⟨#[]⟩, .slice none 0 0]
def iv (z : Int) : Value := .agg #[.int .i64 1, .float .f64 (fl z), .string ⟨#[]⟩, .slice none 0 0]

set_option maxHeartbeats 3200000 in
set_option maxRecDepth 100000 in
theorem of_num (z : Int) (w : World) (h1 : -9 ≤ z) (h2 : z ≤ 9) :
    Calls Try.prog 14 #[sv z] w fun e w' => e = .returned (iv z) ∧ Below w.heap.size w w' := by
  have hq : ∀ w, (binOp .quo 29 (.float .f64 (floatOfInt .f64 z)) (.float .f64 (floatOfInt .f64 1))).run Try.prog w = .ok (.float .f64 (fl z)) w := fun w => run_float_arith w .quo 29 .f64 _ _ _ (fl_quo h1 h2)
  have hst := store_float Try.prog
  unfold sv
  obtain ⟨q, hqe⟩ : ∃ q, fl z = q := ⟨_, rfl⟩
  rw [hqe] at hq
  have HE := Lib.hid hqe
  clear hqe
  go_enter Try.func14, Try.ntmps14
  go_wp2
  (try simp only [Exit.inBlock, Exit.then])
  exact bodyPost_ret (v := .agg #[.int .i64 1, .float .f64 q, .string ⟨#[]⟩, .slice none 0 0]) (by simp [results, Try.results14, go_sem]) rfl ⟨by unfold iv; rw [HE.out], (((Below.refl _ _).alloc (Nat.le_refl _) _).alloc (by simp) _).alloc (by simp; omega) _⟩

def RowPost (w : World) (t : TypeId) (f : List Value) (e : Ending) (w' : World) : Prop := ∃ (g c : Nat), e = .returned (.slice (some ⟨g, 0, none⟩) 1 c) ∧ w.heap.size ≤ g ∧ Tag w' g t ∧ (∀ j u, f[j]? = some u → w'.cell? ⟨g, j, none⟩ = some u) ∧ Below w.heap.size w w'

theorem row_of_own {w w' : World} {B size : Nat} {t : TypeId} {v : Value} {f : List Value} (h : w'.ownsRow B t size v 1 f) (hB : w.heap.size ≤ B) : ∃ g c, v = .slice (some ⟨g, 0, none⟩) 1 c ∧ w.heap.size ≤ g ∧ Tag w' g t ∧ (∀ j u, f[j]? = some u → w'.cell? ⟨g, j, none⟩ = some u) := by
  obtain ⟨g, cap, hv, _⟩ := h.form (by decide)
  refine ⟨g, cap, hv, Nat.le_trans hB (h.lt g (by rw [hv]; rfl)).1, own_tag h g (by rw [hv]; rfl), fun j u hj => ?_⟩
  have := h.cells (g := g) (by rw [hv]; rfl) j u hj
  rwa [addAt] at this

set_option maxHeartbeats 3200000 in
set_option maxRecDepth 100000 in
theorem all_row (g c : Nat) (z : Int) (w : World) (h1 : -9 ≤ z) (h2 : z ≤ 9) (hc : ∀ j u, (svCells z)[j]? = some u → w.cell? ⟨g, j, none⟩ = some u) :
    Calls Try.prog 8 #[.slice (some ⟨g, 0, none⟩) 1 c] w (RowPost w 32 (ivCells z)) := by
  obtain ⟨i1, hi1, hi1z, hi1s, hi1b⟩ := info_parts infoImpl
  have c0 := hc 0 _ rfl
  have c1 := hc 1 _ rfl
  have c2 := hc 2 _ rfl
  have c3 := hc 3 _ rfl
  have c4 := hc 4 _ rfl
  have OF := Lib.hid (of_num z w h1 h2)
  unfold sv at OF
  clear hc
  go_enter Try.func8, Try.ntmps8
  go_wp2
  go_loopw [3, 4] (fun x i wr => (i = .int .i64 0 ∧ x = .slice none 0 0 ∧ w = wr) ∨ (i = .int .i64 1 ∧ ∃ g2 cq : Nat, x = .slice (some ⟨g2, 0, none⟩) 1 cq ∧ Hid (w.heap.size ≤ g2 ∧ Tag wr g2 32 ∧ (∀ j u, (ivCells z)[j]? = some u → wr.cell? ⟨g2, j, none⟩ = some u) ∧ Below w.heap.size w wr))) (fun _ i _ => 1 - (intOf i).toNat)
  case atStart => exact .inl ⟨rfl, rfl, rfl⟩
  case round =>
    rcases hrel with ⟨rfl, rfl, rfl⟩ | ⟨rfl, g2, cq, rfl, HR⟩
    · go_wp2_with fail
      refine OF.out.mono ?_
      rintro e w1 ⟨rfl, hb1⟩
      unfold iv
      have hbs := hb1.size
      go_wp2_with (at_builtin; refine wpList_append_own _ rfl _ _ 34 rfl w.heap.size 32 i1 _ 4 56 Try.underlying34 hi1 hi1z hi1s hi1b rfl (by decide) (.slice none 0 0) 0 [] rfl ?c0 ⟨w1.heap.size, 0, none⟩ 1 1 (ivCells z) rfl rfl ?c1 ?c2 ?c3 ?c4 ?c5 ?_)
      case c0 => exact World.ownsRow_nil _ _ _ _
      case c1 => exact newAt _ (ivCells z) _ _ rfl
      case c2 => intro u hu; simp [ivCells] at hu; rcases hu with rfl | rfl | rfl | rfl <;> rfl
      case c3 => unfold maxLen; omega
      case c4 => omega
      case c5 => simp; omega
      intro v' w2 hown' hgrow _
      have hb2 : Below w.heap.size w w2 := (hb1.alloc hbs _).grown hgrow (by simp; omega) (fun j hj => by simp [Value.ownBlock] at hj)
      obtain ⟨g2, cq, hv, hR⟩ := row_of_own (w := w) hown' (Nat.le_refl _)
      subst hv
      have HR := Lib.hid (show w.heap.size ≤ g2 ∧ Tag w2 g2 32 ∧ (∀ j u, (ivCells z)[j]? = some u → w2.cell? ⟨g2, j, none⟩ = some u) ∧ Below w.heap.size w w2 from ⟨hR.1, hR.2.1, hR.2.2, hb2⟩)
      clear hown' hgrow c0 c1 c2 c3 c4 hb2 hb1 hbs hR
      go_wp2
      go_roundw
      case rel => exact .inr ⟨rfl, g2, _, rfl, HR⟩
      case measure => simp [intOf]
    · go_wp2
      go_ret
      obtain ⟨h1, h2, h3, h4⟩ := HR.out
      exact ⟨g2, _, rfl, h1, h2, h3, h4⟩
end Go.Proofs.Ytfnphohdipdmpaa.Rg
