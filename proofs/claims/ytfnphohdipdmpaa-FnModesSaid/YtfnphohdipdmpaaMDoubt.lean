/- Whether the reference says nothing of a value. -/
import Derived.Test.YtfnphohdipdmpaaMSums
namespace Go.Proofs.Ytfnphohdipdmpaa.Rg
open Go.RowKit

def FlatOne (w : World) (K : Int) (e : Ending) (w' : World) : Prop := ∃ (g c : Nat), e = .returned (.slice (some ⟨g, 0, none⟩) 1 c) ∧ w'.cell? ⟨g, 0, none⟩ = some (.int .i64 K) ∧ Below w.heap.size w w'

set_option maxHeartbeats 3200000 in
set_option maxRecDepth 100000 in
theorem flat_one (g c : Nat) (K a b : Int) (s : ByteArray) (w : World) (hK : K ≠ 5)
    (c0 : w.cell? ⟨g, 0, none⟩ = some (.int .i64 K)) (c1 : w.cell? ⟨g, 1, none⟩ = some (.int .i64 a)) (c2 : w.cell? ⟨g, 2, none⟩ = some (.int .i64 b)) (c3 : w.cell? ⟨g, 3, none⟩ = some (.string s)) (c4 : w.cell? ⟨g, 4, none⟩ = some (.slice none 0 0)) :
    Calls Try.prog 19 #[.slice (some ⟨g, 0, none⟩) 1 c] w (FlatOne w K) := by
  obtain ⟨i1, hi1, hi1z, hi1s, hi1b⟩ := info_parts infoVal
  have hk5 : (K == 5) = false := beq_false_of_ne hK
  go_enter Try.func19, Try.ntmps19
  go_wp2
  go_loopw [3, 4] (fun x i wr => (i = .int .i64 0 ∧ x = .slice none 0 0 ∧ w = wr) ∨ (i = .int .i64 1 ∧ ∃ g2 cq : Nat, x = .slice (some ⟨g2, 0, none⟩) 1 cq ∧ wr.cell? ⟨g2, 0, none⟩ = some (.int .i64 K) ∧ Below w.heap.size w wr)) (fun _ i _ => 1 - (intOf i).toNat)
  case atStart => exact .inl ⟨rfl, rfl, rfl⟩
  case round =>
    rcases hrel with ⟨rfl, rfl, rfl⟩ | ⟨rfl, g2, cq, rfl, hc, hb⟩
    · go_wp2_with (at_builtin; refine wpList_append_own _ rfl _ _ 36 rfl w.heap.size 26 i1 _ 5 64 Try.underlying36 hi1 hi1z hi1s hi1b rfl (by decide) (.slice none 0 0) 0 [] rfl ?c0 ⟨w.heap.size, 0, none⟩ 1 1 [.int .i64 K, .int .i64 a, .int .i64 b, .string s, .slice none 0 0] rfl rfl ?c1 ?c2 ?c3 ?c4 ?c5 ?_)
      case c0 => exact World.ownsRow_nil _ _ _ _
      case c1 => exact newAt _ [.int .i64 K, .int .i64 a, .int .i64 b, .string s, .slice none 0 0] _ _ rfl
      case c2 => intro u hu; simp at hu; rcases hu with rfl | rfl | rfl | rfl | rfl <;> rfl
      case c3 => unfold maxLen; omega
      case c4 => omega
      case c5 => simp
      intro v' w2 hown' hgrow _
      have hb2 : Below w.heap.size w w2 := ((Below.refl _ _).alloc (Nat.le_refl _) _).grown hgrow (by simp) (fun j hj => by simp [Value.ownBlock] at hj)
      obtain ⟨gq, cq, hv, _⟩ := hown'.form (by decide)
      have hcell := hown'.cells (g := gq) (by rw [hv]; rfl) 0 (.int .i64 K) rfl
      rw [addAt] at hcell
      subst hv
      have HC := Lib.hid hcell
      have HB := Lib.hid hb2
      clear hown' hgrow c0 c1 c2 c3 c4 hcell hb2
      go_wp2
      go_roundw
      case rel => exact .inr ⟨rfl, gq, _, rfl, HC.out, HB.out⟩
      case measure => simp [intOf]
    · have HC := Lib.hid hc
      clear hc
      go_wp2
      go_ret
      exact ⟨g2, _, rfl, HC.out, hb⟩

set_option maxHeartbeats 3200000 in
set_option maxRecDepth 100000 in
theorem doubtful_any (K a b : Int) (s : ByteArray) (w : World) (hK : K ≠ 5) :
    Calls Try.prog 11 #[.agg #[.int .i64 K, .int .i64 a, .int .i64 b, .string s, .slice none 0 0]] w fun e w' => e = .returned (.bool (K == 6)) ∧ Below w.heap.size w w' := by
  obtain ⟨w1, hw1⟩ : ∃ w1, w1 = (w.alloc (.cells #[.int .i64 K, .int .i64 a, .int .i64 b, .string s, .slice none 0 0] 26)).alloc (.cells #[.int .i64 K, .int .i64 a, .int .i64 b, .string s, .slice none 0 0] 26) := ⟨_, rfl⟩
  have hb1 : Below w.heap.size w w1 := by rw [hw1]; exact ((Below.refl _ _).alloc (Nat.le_refl _) _).alloc (by simp) _
  have hsz : w1.heap.size = w.heap.size + 2 := by rw [hw1]; simp
  have FO := Lib.hid (flat_one (w.heap.size + 1) 1 K a b s w1 hK (by rw [hw1]; simp [go_sem]) (by rw [hw1]; simp [go_sem]) (by rw [hw1]; simp [go_sem]) (by rw [hw1]; simp [go_sem]) (by rw [hw1]; simp [go_sem]))
  have HB := Lib.hid hb1
  clear hb1 hsz
  go_enter Try.func11, Try.ntmps11
  go_wp2_with fail
  rw [← hw1]
  clear hw1
  refine FO.out.mono ?_
  rintro e w2 ⟨g2, c2, rfl, hc, hb2⟩
  have HB2 := Lib.hid (HB.out.trans (hb2.mono HB.out.size))
  have HC := Lib.hid hc
  clear FO hb2 HB hc
  go_wp2
  go_loopw [4] (fun i wr => (i = .int .i64 0 ∨ (i = .int .i64 1 ∧ (K == 6) = false)) ∧ w2 = wr) (fun i _ => 1 - (intOf i).toNat)
  case atStart => exact ⟨.inl rfl, rfl⟩
  case round =>
    obtain ⟨hi, rfl⟩ := hrel
    rcases hi with rfl | ⟨rfl, h6⟩
    · have hc := HC.out
      cases h6 : (K == 6)
      · have H6 := Lib.hid h6
        go_wp2
        go_roundw
        case rel => exact ⟨.inr ⟨rfl, by trivial⟩, by trivial⟩
        case measure => simp [intOf]
      · have H6 := Lib.hid h6
        go_wp2
        go_ret
        exact ⟨by rw [H6.out]; rfl, HB2.out⟩
    · have H6 := Lib.hid h6
      clear h6
      go_wp2
      go_ret
      exact ⟨by rw [H6.out]; rfl, HB2.out⟩
end Go.Proofs.Ytfnphohdipdmpaa.Rg
