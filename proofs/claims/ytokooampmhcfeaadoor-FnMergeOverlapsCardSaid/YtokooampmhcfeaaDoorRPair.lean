/- Two calls in one statement whose order is drawn, with the blocks that their results go to. -/
import Derived.Test.YtokooampmhcfeaaDoorRCells
import Derived.Deep.DeepCutAuto
import Derived.Test.YtokooampmhcfeaaDoorRPlanInv
namespace Go.Proofs.YtokooampmhcfeaaDoor.Rg
open Go.RowKit

/-- The regions of a text. -/
def regionsOf : Code → List (Nat × Array Oper)
  | .region id ops _ => [(id, ops)]
  | .seq a b => regionsOf a ++ regionsOf b
  | .block _ c => regionsOf c
  | .loop c => regionsOf c
  | .scope c => regionsOf c
  | .cond _ a b => regionsOf a ++ regionsOf b
  | _ => []
noncomputable def regionOf (f : Func) (id : Nat) : Array Oper := ((((f.body.map regionsOf).getD []).find? fun p => p.1 == id).map fun p => p.2).getD #[]

/-- What an operation of the two calls' statement has waited for. -/
def pairChk (i : Nat) (b0 b1 b2 b3 b4 b5 b6 b7 : Bool) : Bool :=
  match i with
  | 0 => !b0
  | 1 => !b1 && b0
  | 2 => !b2
  | 3 => !b3 && b2 && b1
  | 4 => !b4
  | 5 => !b5
  | 6 => !b6 && b4 && b5 && b1 && b3
  | 7 => !b7 && b4 && b5 && b1 && b3 && b6
  | _ => false

set_option maxRecDepth 100000 in
theorem pair_ready (l : Array Oper) (h : l = regionOf Tryd.f6 3) : ∀ b0 b1 b2 b3 b4 b5 b6 b7 : Bool,
    ((Region.ready .any l #[b0, b1, b2, b3, b4, b5, b6, b7]).all (fun i => pairChk i b0 b1 b2 b3 b4 b5 b6 b7) && (!(Region.ready .any l #[b0, b1, b2, b3, b4, b5, b6, b7]).isEmpty || (b0 && b1 && b2 && b3 && b4 && b5 && b6 && b7))) = true := by
  subst h
  intro b0 b1 b2 b3 b4 b5 b6 b7
  cases b0 <;> cases b1 <;> cases b2 <;> cases b3 <;> cases b4 <;> cases b5 <;> cases b6 <;> cases b7 <;> kernel_rfl

theorem pair_mem {l : Array Oper} {b0 b1 b2 b3 b4 b5 b6 b7 : Bool} {i : Nat} (hi : i ∈ Region.ready .any l #[b0, b1, b2, b3, b4, b5, b6, b7]) (h : l = regionOf Tryd.f6 3) : pairChk i b0 b1 b2 b3 b4 b5 b6 b7 = true := by
  have hr := pair_ready l h b0 b1 b2 b3 b4 b5 b6 b7
  rw [Bool.and_eq_true] at hr
  exact List.all_eq_true.1 hr.1 i hi
theorem pair_end {l : Array Oper} {b0 b1 b2 b3 b4 b5 b6 b7 : Bool} (hi : Region.ready .any l #[b0, b1, b2, b3, b4, b5, b6, b7] = []) (h : l = regionOf Tryd.f6 3) : (b0 && b1 && b2 && b3 && b4 && b5 && b6 && b7) = true := by
  have hr := pair_ready l h b0 b1 b2 b3 b4 b5 b6 b7
  rw [Bool.and_eq_true, hi] at hr
  simpa using hr.2

/-- Block g is an array of four numbers. -/
structure A4 (w : World) (g : Nat) (a : Ar) : Prop where
  tag : Tag w g 22
  c0 : w.cell? ⟨g, 0, none⟩ = some (.int .i64 a.p)
  c1 : w.cell? ⟨g, 1, none⟩ = some (.int .i64 a.q)
  c2 : w.cell? ⟨g, 2, none⟩ = some (.int .i64 a.x)
  c3 : w.cell? ⟨g, 3, none⟩ = some (.int .i64 a.y)
theorem A4.same {w w' : World} {g : Nat} {a : Ar} (h : A4 w g a) (hs : Same w w' g) : A4 w' g a :=
  ⟨h.tag.of_block hs, hs.cell.trans h.c0, hs.cell.trans h.c1, hs.cell.trans h.c2, hs.cell.trans h.c3⟩
theorem A4.below {w w' : World} {g : Nat} {a : Ar} (h : A4 w g a) (hb : Below w.heap.size w w') : A4 w' g a := h.same (Same.of_below hb h.tag.lt)
theorem A4.made (w : World) (a : Ar) : A4 (w.alloc (.cells #[.int .i64 a.p, .int .i64 a.q, .int .i64 a.x, .int .i64 a.y] 22)) w.heap.size a := by
  refine ⟨Tag.made w _ _ _ rfl, by simp [go_sem], by simp [go_sem], by simp [go_sem], by simp [go_sem]⟩

/-- All four numbers of a block, stored. -/
def set4 (w : World) (g : Nat) (a : Ar) : World := (((w.setCell ⟨g, 0, none⟩ (.int .i64 a.p)).setCell ⟨g, 1, none⟩ (.int .i64 a.q)).setCell ⟨g, 2, none⟩ (.int .i64 a.x)).setCell ⟨g, 3, none⟩ (.int .i64 a.y)
theorem A4.set {w : World} {g : Nat} {a : Ar} (h : A4 w g a) (b : Ar) : A4 (set4 w g b) g b := by
  unfold set4
  have t1 := ((h.tag.setCell ⟨g, 0, none⟩ (.int .i64 b.p) rfl).setCell ⟨g, 1, none⟩ (.int .i64 b.q) rfl).setCell ⟨g, 2, none⟩ (.int .i64 b.x) rfl
  have e0 := set_same w g 0 (.int .i64 b.p) _ h.c0
  have e1 := set_same (w.setCell ⟨g, 0, none⟩ (.int .i64 b.p)) g 1 (.int .i64 b.q) _ ((set_other w g 0 1 _ (by decide)).trans h.c1)
  have e2 := set_same ((w.setCell ⟨g, 0, none⟩ (.int .i64 b.p)).setCell ⟨g, 1, none⟩ (.int .i64 b.q)) g 2 (.int .i64 b.x) _ ((set_other _ g 1 2 _ (by decide)).trans ((set_other w g 0 2 _ (by decide)).trans h.c2))
  have e3 := set_same (((w.setCell ⟨g, 0, none⟩ (.int .i64 b.p)).setCell ⟨g, 1, none⟩ (.int .i64 b.q)).setCell ⟨g, 2, none⟩ (.int .i64 b.x)) g 3 (.int .i64 b.y) _ ((set_other _ g 2 3 _ (by decide)).trans ((set_other _ g 1 3 _ (by decide)).trans ((set_other w g 0 3 _ (by decide)).trans h.c3)))
  exact ⟨t1.setCell _ _ rfl, (set_other _ g 3 0 _ (by decide)).trans ((set_other _ g 2 0 _ (by decide)).trans ((set_other _ g 1 0 _ (by decide)).trans e0)), (set_other _ g 3 1 _ (by decide)).trans ((set_other _ g 2 1 _ (by decide)).trans e1), (set_other _ g 3 2 _ (by decide)).trans e2, e3⟩
theorem set4_same (w : World) (g : Nat) (a : Ar) (g' : Nat) (h : g' ≠ g) : Same w (set4 w g a) g' :=
  ((Same.of_set ⟨g, 0, none⟩ _ h).trans (Same.of_set ⟨g, 1, none⟩ _ h)).trans ((Same.of_set ⟨g, 2, none⟩ _ h).trans (Same.of_set ⟨g, 3, none⟩ _ h))
theorem set4_below {w0 w : World} {g : Nat} (a : Ar) (hb : Below w0.heap.size w0 w) (hg : w0.heap.size ≤ g) : Below w0.heap.size w0 (set4 w g a) :=
  (((hb.setCell (p := ⟨g, 0, none⟩) hg _).setCell (p := ⟨g, 1, none⟩) hg _).setCell (p := ⟨g, 2, none⟩) hg _).setCell (p := ⟨g, 3, none⟩) hg _

def zeroA : Ar := ⟨0, 0, 0, 0⟩

/-- What holds while 'a, b := f(one), f(two)' is under way: of what has come up (b0 .. b7) the results lie in their slots and blocks. -/
structure PairI (w0 wA : World) (g1 g2 : Nat) (one two X Y : Ar) (b0 b1 b2 b3 b4 b5 b6 b7 : Bool) (s7 s8 s19 s20 s21 s22 : Value) (w : World) : Prop where
  below : Below w0.heap.size w0 w
  belowA : Below wA.heap.size wA w
  box1 : A4 w g1 one
  box2 : A4 w g2 two
  l0 : b0 = true → s19 = one.val
  l1 : b1 = true → s20 = X.val
  l2 : b2 = true → s21 = two.val
  l3 : b3 = true → s22 = Y.val
  l4 : b4 = true → ∃ g, s7 = ptr g ∧ wA.heap.size ≤ g ∧ A4 w g (if b6 then X else zeroA)
  l5 : b5 = true → ∃ g, s8 = ptr g ∧ wA.heap.size ≤ g ∧ A4 w g (if b7 then Y else zeroA)
  ne : b4 = true → b5 = true → s7 ≠ s8
  l6 : b6 = true → b4 = true
  l7 : b7 = true → b5 = true

section
variable {w0 wA w : World} {g1 g2 : Nat} {one two X Y : Ar} {b0 b1 b2 b3 b4 b5 b6 b7 : Bool} {s7 s8 s19 s20 s21 s22 : Value}

theorem PairI.later {w' : World} (h : PairI w0 wA g1 g2 one two X Y b0 b1 b2 b3 b4 b5 b6 b7 s7 s8 s19 s20 s21 s22 w) (hb : Below w.heap.size w w') : PairI w0 wA g1 g2 one two X Y b0 b1 b2 b3 b4 b5 b6 b7 s7 s8 s19 s20 s21 s22 w' :=
  { h with
    below := h.below.trans (hb.mono h.below.size)
    belowA := h.belowA.trans (hb.mono h.belowA.size)
    box1 := h.box1.below hb
    box2 := h.box2.below hb
    l4 := fun hh => by
      obtain ⟨g, hg, hl, ha⟩ := h.l4 hh
      exact ⟨g, hg, hl, ha.below hb⟩
    l5 := fun hh => by
      obtain ⟨g, hg, hl, ha⟩ := h.l5 hh
      exact ⟨g, hg, hl, ha.below hb⟩ }

theorem PairI.new4 (h : PairI w0 wA g1 g2 one two X Y b0 b1 b2 b3 b4 b5 false b7 s7 s8 s19 s20 s21 s22 w) : PairI w0 wA g1 g2 one two X Y b0 b1 b2 b3 true b5 false b7 (.pointer (some ⟨w.heap.size, 0, none⟩)) s8 s19 s20 s21 s22 (w.alloc (.cells #[.int .i64 0, .int .i64 0, .int .i64 0, .int .i64 0] 22)) := by
  have h' := h.later ((Below.refl _ _).alloc (Nat.le_refl _) (.cells #[.int .i64 0, .int .i64 0, .int .i64 0, .int .i64 0] 22))
  exact { h' with
    l4 := fun _ => ⟨_, rfl, h.belowA.size, A4.made w zeroA⟩
    l6 := fun _ => rfl
    ne := fun _ hh e => by
      obtain ⟨g, hg, _, ha⟩ := h.l5 hh
      rw [hg] at e
      unfold ptr at e
      injection e with e
      injection e with e
      injection e with e
      have := ha.tag.lt
      omega }

theorem PairI.new5 (h : PairI w0 wA g1 g2 one two X Y b0 b1 b2 b3 b4 b5 b6 false s7 s8 s19 s20 s21 s22 w) : PairI w0 wA g1 g2 one two X Y b0 b1 b2 b3 b4 true b6 false s7 (.pointer (some ⟨w.heap.size, 0, none⟩)) s19 s20 s21 s22 (w.alloc (.cells #[.int .i64 0, .int .i64 0, .int .i64 0, .int .i64 0] 22)) := by
  have h' := h.later ((Below.refl _ _).alloc (Nat.le_refl _) (.cells #[.int .i64 0, .int .i64 0, .int .i64 0, .int .i64 0] 22))
  exact { h' with
    l5 := fun _ => ⟨_, rfl, h.belowA.size, A4.made w zeroA⟩
    l7 := fun _ => rfl
    ne := fun hh _ e => by
      obtain ⟨g, hg, _, ha⟩ := h.l4 hh
      rw [hg] at e
      unfold ptr at e
      injection e with e
      injection e with e
      injection e with e
      have := ha.tag.lt
      omega }

theorem PairI.put6 {g : Nat} {z : Ar} (h : PairI w0 wA g1 g2 one two X Y b0 b1 b2 b3 true b5 b6 b7 (ptr g) s8 s19 s20 s21 s22 w) (hA : Below w0.heap.size w0 wA) (h1 : g1 < wA.heap.size) (h2 : g2 < wA.heap.size) (hg : wA.heap.size ≤ g) (ha : A4 w g z) : PairI w0 wA g1 g2 one two X Y b0 b1 b2 b3 true b5 true b7 (ptr g) s8 s19 s20 s21 s22 (set4 w g X) :=
  { h with
    below := set4_below X h.below (Nat.le_trans hA.size hg)
    belowA := set4_below X h.belowA hg
    box1 := h.box1.same (set4_same w g X g1 (by omega))
    box2 := h.box2.same (set4_same w g X g2 (by omega))
    l4 := fun _ => ⟨g, rfl, hg, ha.set X⟩
    l6 := fun _ => rfl
    l5 := fun hh => by
      obtain ⟨g', hg', hl, ha'⟩ := h.l5 hh
      refine ⟨g', hg', hl, ha'.same (set4_same w g X g' ?_)⟩
      intro e
      subst e
      exact h.ne rfl hh hg'.symm }

theorem PairI.put7 {g : Nat} {z : Ar} (h : PairI w0 wA g1 g2 one two X Y b0 b1 b2 b3 b4 true b6 b7 s7 (ptr g) s19 s20 s21 s22 w) (hA : Below w0.heap.size w0 wA) (h1 : g1 < wA.heap.size) (h2 : g2 < wA.heap.size) (hg : wA.heap.size ≤ g) (ha : A4 w g z) : PairI w0 wA g1 g2 one two X Y b0 b1 b2 b3 b4 true b6 true s7 (ptr g) s19 s20 s21 s22 (set4 w g Y) :=
  { h with
    below := set4_below Y h.below (Nat.le_trans hA.size hg)
    belowA := set4_below Y h.belowA hg
    box1 := h.box1.same (set4_same w g Y g1 (by omega))
    box2 := h.box2.same (set4_same w g Y g2 (by omega))
    l5 := fun _ => ⟨g, rfl, hg, ha.set Y⟩
    l7 := fun _ => rfl
    l4 := fun hh => by
      obtain ⟨g', hg', hl, ha'⟩ := h.l4 hh
      refine ⟨g', hg', hl, ha'.same (set4_same w g Y g' ?_)⟩
      intro e
      subst e
      exact h.ne hh rfl hg' }
end

theorem bcell {W w1 : World} (hb : Below W.heap.size W w1) : (∀ b o, b < W.heap.size → w1.cell? ⟨b, o, none⟩ = W.cell? ⟨b, o, none⟩) ∧ (∀ b o, b < W.heap.size → w1.frozen? ⟨b, o, none⟩ = W.frozen? ⟨b, o, none⟩) :=
  ⟨fun b o h => hb.cell (p := ⟨b, o, none⟩) h, fun b o h => hb.frozen (p := ⟨b, o, none⟩) h⟩

end Go.Proofs.YtokooampmhcfeaaDoor.Rg
