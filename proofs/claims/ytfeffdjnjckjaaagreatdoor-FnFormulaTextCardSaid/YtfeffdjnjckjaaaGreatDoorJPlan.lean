/- Drawn regions walked along a plan. -/
import Derived.Deep.RegionHeld
import Derived.KernelRfl
import Derived.WalkKit
/- A region that draws its order, walked along one plan: each operation of the plan either may be taken first (it yields the same in every world that meets S) or is the only one that may come up. -/
namespace Go.Proofs.YtfeffdjnjckjaaaGreatDoor.Rg
open Go.RowKit

section
variable {P : Program} {ops : Array Oper} {Q : Exit → Act → World → Prop} {S : World → Prop}

/-- Neighbours change places where the list says so. -/
def swaps {α : Type} : List Bool → List α → List α
  | true :: _ :: bs, x :: y :: l => y :: x :: swaps bs l
  | _ :: bs, x :: l => x :: swaps bs l
  | _, l => l

/-- Whether the plan may be walked: a number marked 'true' may be taken first, another is the only one that may come up. -/
def planB (ops : Array Oper) : List (Bool × Nat) → Array Bool → Bool
  | [], listed => (Region.ready .any ops listed).isEmpty
  | (true, i) :: rest, listed => Region.free .any ops listed i && (Region.ready .any ops listed).contains i && planB ops rest (listed.setIfInBounds i true)
  | (false, i) :: rest, listed => decide (Region.ready .any ops listed = [i]) && planB ops rest (listed.setIfInBounds i true)

/-- The walk along a plan. -/
def wpSeq (P : Program) (ops : Array Oper) (Q : Exit → Act → World → Prop) (S : World → Prop) : List Bool → List Oper → Act → World → Prop
  | true :: fs, o :: rest, a, w => ∃ v, YieldsIf P ops S o v a ∧ wpSeq P ops Q S fs rest (a.put o.dst v) w
  | false :: fs, o :: rest, a, w => if Region.wanted o (yielded ops a.tmps) = true then o.wp P a w (fun a' w' => S w' ∧ wpSeq P ops Q S fs rest a' w') Q else wpSeq P ops Q S fs rest (a.put o.dst undef) w
  | _, [], a, w => Q .normal a w
  | [], _ :: _, _, _ => False

theorem held_of_plan (hs : Region.noSelect ops = true) (hQ : ∀ d v c a w, Q (.panic c) (Act.put a d v) w → Q (.panic c) a w) :
    ∀ (fs : List Bool) (is : List Nat) (l : List Oper), fs.length = l.length → is.map (fun i => ops[i]?) = l.map some → ∀ (listed : Array Bool) (a : Act) (w : World), planB ops (fs.zip is) listed = true → S w →
      wpSeq P ops Q S fs l a w → wpAnyH P .any ops Q S l.length listed a w := by
  intro fs
  induction fs with
  | nil =>
    intro is l hl hm listed a w hp hS h
    obtain rfl : l = [] := List.eq_nil_of_length_eq_zero hl.symm
    exact wpAnyH_done (by simpa [planB] using hp) h 0
  | cons f fs ih =>
    intro is l hl hm listed a w hp hS h
    cases l with
    | nil => simp at hl
    | cons o rest =>
      cases is with
      | nil => simp at hm
      | cons i is =>
        simp only [List.map_cons, List.cons.injEq] at hm
        obtain ⟨ho, hm'⟩ := hm
        have hl' : fs.length = rest.length := by simpa using hl
        cases f with
        | true =>
          obtain ⟨v, hy, hr⟩ := h
          have hp' : planB ops ((true, i) :: fs.zip is) listed = true := hp
          simp only [planB, Bool.and_eq_true] at hp'
          obtain ⟨⟨h1, h2⟩, h3⟩ := hp'
          exact wpAnyH_take ho hs h1 h2 (fun c a' w' => hQ _ _ c a' w') hy hS (ih is rest hl' hm' _ _ w h3 hS hr)
        | false =>
          have hp' : planB ops ((false, i) :: fs.zip is) listed = true := hp
          simp only [planB, Bool.and_eq_true, decide_eq_true_eq] at hp'
          obtain ⟨h1, h3⟩ := hp'
          refine wpAnyH_all h1 (by simp) (fun j hj => ?_)
          obtain rfl : j = i := by simpa using hj
          have h' : (if Region.wanted o (yielded ops a.tmps) = true then o.wp P a w (fun a' w' => S w' ∧ wpSeq P ops Q S fs rest a' w') Q else wpSeq P ops Q S fs rest (a.put o.dst undef) w) := h
          unfold wpOp
          simp only [ho]
          by_cases hw : Region.wanted o (yielded ops a.tmps) = true
          · rw [if_pos hw] at h' ⊢
            exact .inl (Oper.wp_mono (fun a' w' hh => ⟨hh.1, ih is rest hl' hm' _ a' w' h3 hh.1 hh.2⟩) h')
          · rw [if_neg hw] at h' ⊢
            exact ⟨hS, ih is rest hl' hm' _ _ w h3 hS h'⟩

theorem wp_region_plan {id : Nat} {l : List Oper} {a : Act} {w : World} (ms : List Bool) (fs : List Bool) (hm : P.follows .mixedOrders = true)
    (hB : (Region.noSelect l.toArray && planB l.toArray (fs.zip (swaps ms (List.range l.length))) (Array.replicate l.toArray.size false) && decide (fs.length = (swaps ms l).length) && decide ((swaps ms l).length = l.toArray.size)) = true)
    (hidx : (swaps ms (List.range l.length)).map (fun i => l.toArray[i]?) = (swaps ms l).map some)
    (hQ : ∀ d v c a w, Q (.panic c) (Act.put a d v) w → Q (.panic c) a w) (hS : S w.drew)
    (h : wpSeq P l.toArray Q S fs (swaps ms l) a w.drew) : (Code.region id l.toArray true).wp P Q a w := by
  simp only [Bool.and_eq_true, decide_eq_true_eq] at hB
  obtain ⟨⟨⟨h1, h2⟩, h3⟩, h4⟩ := hB
  refine wp_region_held_drew (S := S) hm hS (fun _ => ?_)
  have hh := held_of_plan h1 hQ fs _ _ h3 hidx (Array.replicate l.toArray.size false) a w.drew h2 hS h
  rw [h4] at hh
  exact hh

theorem seq_take {fs : List Bool} {o : Oper} {rest : List Oper} {a : Act} {w : World} {v : Value} (hw : Region.wanted o (yielded ops a.tmps) = true) (hv : ∀ w, S w → (execOp a.eval o).run P w = .ok (.value v) w) (h : wpSeq P ops Q S fs rest (a.put o.dst v) w) : wpSeq P ops Q S (true :: fs) (o :: rest) a w :=
  ⟨v, .inl ⟨hw, hv⟩, h⟩
theorem seq_skip {fs : List Bool} {b : Bool} {o : Oper} {rest : List Oper} {a : Act} {w : World} (hw : Region.wanted o (yielded ops a.tmps) = false) (h : wpSeq P ops Q S fs rest (a.put o.dst undef) w) : wpSeq P ops Q S (b :: fs) (o :: rest) a w := by
  cases b with
  | true => exact ⟨undef, .inr ⟨hw, rfl⟩, h⟩
  | false =>
    show (if Region.wanted o (yielded ops a.tmps) = true then _ else _)
    rw [if_neg (by rw [hw]; simp)]
    exact h
theorem seq_done {fs : List Bool} {a : Act} {w : World} (h : Q .normal a w) : wpSeq P ops Q S fs [] a w := by
  cases fs with
  | nil => exact h
  | cons b fs => cases b <;> exact h
/-- The next n operations all wait for the yes (or no) of operation g, and none of them writes its slot. -/
def skipsB (g d : Nat) (want : Bool) : Nat → List Oper → Bool
  | n + 1, o :: l => (match o.guard with | some (g', w') => g' == g && w' == want | none => false) && (match o.dst with | some d' => d' != d | none => true) && skipsB g d want n l
  | _, _ => true
def skipsA : Nat → List Oper → Act → Act
  | n + 1, o :: l, a => skipsA n l (a.put o.dst undef)
  | _, _, a => a
theorem put_keeps (a : Act) (x : Option Tmp) (v : Value) (d : Nat) (h : ∀ e, x = some e → e ≠ d) : (a.put x v).tmps[d]? = a.tmps[d]? := by
  cases x with
  | none => rfl
  | some e => simp [Act.put, Array.getElem?_setIfInBounds_ne (h e rfl)]
theorem seq_skips (g d : Nat) (want : Bool) (og : Oper) (hg : ops[g]? = some og) (hd : og.dst = some d) : ∀ (n : Nat) {fs : List Bool} {l : List Oper} {a : Act} {w : World}, skipsB g d want n l = true → a.tmps[d]? = some (.bool (!want)) → n ≤ fs.length → wpSeq P ops Q S (fs.drop n) (l.drop n) (skipsA n l a) w → wpSeq P ops Q S fs l a w := by
  intro n
  induction n with
  | zero => intro fs l a w _ _ _ h; simpa [skipsA] using h
  | succ n ih =>
    intro fs l a w hb ha hn h
    cases l with
    | nil => exact seq_done (by
        have h' : wpSeq P ops Q S (fs.drop (n + 1)) [] a w := h
        revert h'
        cases fs.drop (n + 1) with
        | nil => exact id
        | cons b bs => cases b <;> exact id)
    | cons o l =>
      cases fs with
      | nil => simp at hn
      | cons b fs =>
        simp only [skipsB, Bool.and_eq_true] at hb
        obtain ⟨⟨h1, h2⟩, h3⟩ := hb
        refine seq_skip ?_ (ih h3 ?_ (by simpa using hn) h)
        · unfold Region.wanted
          cases hgd : o.guard with
          | none => rw [hgd] at h1; simp at h1
          | some p =>
            obtain ⟨g', w'⟩ := p
            rw [hgd] at h1
            simp only [Bool.and_eq_true, beq_iff_eq] at h1
            obtain ⟨rfl, rfl⟩ := h1
            have hy : yielded ops a.tmps g' = some (!w') := by
              unfold yielded
              rw [hg]
              simp only [Option.bind_some, hd, ha]
            simp only [hy]
            cases w' <;> rfl
        · rw [put_keeps _ _ _ _ (fun e he hed => by rw [he, hed] at h2; simp at h2)]
          exact ha
theorem seq_solo {fs : List Bool} {o : Oper} {rest : List Oper} {a : Act} {w : World} (hw : Region.wanted o (yielded ops a.tmps) = true) (h : ∀ K : Act → World → Prop, Shut (∀ a' w', S w' → (S w' → wpSeq P ops Q S fs rest a' w') → K a' w') → o.wp P a w K Q) : wpSeq P ops Q S (false :: fs) (o :: rest) a w := by
  show (if Region.wanted o (yielded ops a.tmps) = true then _ else _)
  rw [if_pos hw]
  exact h _ (fun a' w' hS hh => ⟨hS, hh hS⟩)
/-! ### The last operation may break the condition: it waits for all others -/

/-- As 'wpAnyH', but behind operation z the condition need not hold. -/
def wpLast (P : Program) (ops : Array Oper) (Q : Exit → Act → World → Prop) (S : World → Prop) (z : Nat) : Nat → Array Bool → Act → World → Prop
  | 0, listed, a, w => Region.ready .any ops listed = [] ∧ Q .normal a w
  | n + 1, listed, a, w => (Region.ready .any ops listed = [] → Q .normal a w) ∧ ∀ i ∈ Region.ready .any ops listed, wpOp P ops Q i (fun a' w' => (i ≠ z → S w') ∧ wpLast P ops Q S z n (listed.setIfInBounds i true) a' w') a w

theorem any_of_last (z : Nat) : ∀ (n : Nat) (listed : Array Bool) (a : Act) (w : World), wpLast P ops Q S z n listed a w → wpAny P .any ops Q n listed a w := by
  intro n
  induction n with
  | zero => intro listed a w h; exact h
  | succ n ih => intro listed a w h; exact ⟨h.1, fun i hi => wpOp_mono (fun a' w' hh => ih _ a' w' hh.2) (h.2 i hi)⟩

/-- Operation z waits for operation i. -/
def waits (ops : Array Oper) (z i : Nat) : Bool := match ops[z]? with
  | some o => o.after.any fun e => Region.binds .any e && e.on == i
  | none => false

theorem last_take {i z : Nat} {oi : Oper} {v : Value} (hi : ops[i]? = some oi) (hs : Region.noSelect ops = true) (hQ : ∀ d v c a w, Q (.panic c) (Act.put a d v) w → Q (.panic c) a w) (hz : waits ops z i = true) :
    ∀ (n : Nat) (listed : Array Bool) (a : Act) (w : World),
      (∀ j oj, ops[j]? = some oj → j ≠ i → listed.getD j true = false → (∀ e ∈ oj.after, Region.binds .any e = true → e.on ≠ i) → oi.apart ops oj = true) →
      i ∈ Region.ready .any ops listed → YieldsIf P ops S oi v a → S w → wpLast P ops Q S z n (listed.setIfInBounds i true) (a.put oi.dst v) w → wpLast P ops Q S z (n + 1) listed a w := by
  have hsel := Region.noSelect_spec hs
  intro n
  induction n with
  | zero =>
    intro listed a w _ hr hy hS H
    refine ⟨fun h => (by rw [h] at hr; cases hr), fun j hj => ?_⟩
    rcases Nat.decEq j i with hji | hji
    · have h1 := ready_mono hj hji
      rw [H.1] at h1
      cases h1
    · subst hji
      exact hy.wpOp hi hS ⟨fun _ => hS, H⟩
  | succ n ih =>
    intro listed a w hfree hr hy hS H
    refine ⟨fun h => (by rw [h] at hr; cases hr), fun j hj => ?_⟩
    rcases Nat.decEq j i with hji | hji
    · obtain ⟨hun, oj, hoj, hall⟩ := mem_ready.1 hj
      obtain ⟨hui, _⟩ := mem_ready.1 hr
      have hno : ∀ e ∈ oj.after, Region.binds .any e = true → e.on ≠ i := by
        intro e he hb hei
        have h1 := hall e he hb
        rw [hei] at h1
        rcases Nat.lt_or_ge i listed.size with h2 | h2
        · simp only [Array.getD_eq_getD_getElem?, Array.getElem?_eq_getElem h2, Option.getD_some] at h1 hui
          rw [h1] at hui
          cases hui
        · simp only [Array.getD_eq_getD_getElem?, Array.getElem?_eq_none h2, Option.getD_none] at h1
          cases h1
      have hjz : j ≠ z := by
        intro e
        subst e
        unfold waits at hz
        rw [hoj] at hz
        obtain ⟨e, he, hb⟩ := Array.any_eq_true'.1 hz
        simp only [Bool.and_eq_true, beq_iff_eq] at hb
        exact hno e he hb.1 hb.2
      have hstep := wpOp_putIf hoj (hfree j oj hoj hji hun hno) (fun cs b => hsel i oi cs b hi) (fun cs b => hsel j oj cs b hoj) (fun c a w => hQ _ _ c a w) hy (H.2 j (ready_mono hj hji))
      refine wpOp_mono (fun a' w' hh => ⟨fun _ => hh.2.1 hjz, ?_⟩) hstep
      refine ih (listed.setIfInBounds j true) a' w' (fun k ok hk hki hku hkno => hfree k ok hk hki ?_ hkno) (ready_mono hr (Ne.symm hji)) hh.1 (hh.2.1 hjz) ?_
      · rcases Nat.decEq j k with hjk | hjk
        · rwa [getD_set_ne true hjk] at hku
        · subst hjk; exact hun
      · rw [Array.setIfInBounds_comm _ _ hji]
        exact hh.2.2
    · subst hji
      exact hy.wpOp hi hS ⟨fun _ => hS, H⟩

/-- The walk along a plan whose last operation may break the condition. -/
def wpSeqT (P : Program) (ops : Array Oper) (Q : Exit → Act → World → Prop) (S : World → Prop) : List Bool → List Oper → Act → World → Prop
  | true :: fs, o :: rest, a, w => ∃ v, YieldsIf P ops S o v a ∧ wpSeqT P ops Q S fs rest (a.put o.dst v) w
  | false :: fs, o :: rest, a, w => if Region.wanted o (yielded ops a.tmps) = true then o.wp P a w (fun a' w' => (rest ≠ [] → S w') ∧ wpSeqT P ops Q S fs rest a' w') Q else wpSeqT P ops Q S fs rest (a.put o.dst undef) w
  | _, [], a, w => Q .normal a w
  | [], _ :: _, _, _ => False

/-- Whether the plan may be walked; z, its last, waits for all others. -/
def planT (ops : Array Oper) (z : Nat) : List (Bool × Nat) → Array Bool → Bool
  | [], listed => (Region.ready .any ops listed).isEmpty
  | (true, i) :: rest, listed => waits ops z i && Region.free .any ops listed i && (Region.ready .any ops listed).contains i && planT ops z rest (listed.setIfInBounds i true)
  | (false, i) :: rest, listed => decide (Region.ready .any ops listed = [i]) && (rest.isEmpty || decide (i ≠ z)) && (!rest.isEmpty || decide (i = z)) && planT ops z rest (listed.setIfInBounds i true)

theorem last_of_plan (z : Nat) (hs : Region.noSelect ops = true) (hQ : ∀ d v c a w, Q (.panic c) (Act.put a d v) w → Q (.panic c) a w) :
    ∀ (fs : List Bool) (is : List Nat) (l : List Oper), fs.length = l.length → is.map (fun i => ops[i]?) = l.map some → ∀ (listed : Array Bool) (a : Act) (w : World), planT ops z (fs.zip is) listed = true → (l ≠ [] → S w) →
      wpSeqT P ops Q S fs l a w → wpLast P ops Q S z l.length listed a w := by
  intro fs
  induction fs with
  | nil =>
    intro is l hl hm listed a w hp hS h
    obtain rfl : l = [] := List.eq_nil_of_length_eq_zero hl.symm
    exact ⟨by simpa [planT] using hp, h⟩
  | cons f fs ih =>
    intro is l hl hm listed a w hp hS h
    cases l with
    | nil => simp at hl
    | cons o rest =>
      have hSw := hS (by simp)
      cases is with
      | nil => simp at hm
      | cons i is =>
        simp only [List.map_cons, List.cons.injEq] at hm
        obtain ⟨ho, hm'⟩ := hm
        have hl' : fs.length = rest.length := by simpa using hl
        have hlen : is.length = rest.length := by
          have := congrArg List.length hm'
          simpa using this
        cases f with
        | true =>
          obtain ⟨v, hy, hr⟩ := h
          have hp' : planT ops z ((true, i) :: fs.zip is) listed = true := hp
          simp only [planT, Bool.and_eq_true] at hp'
          obtain ⟨⟨⟨h0, h1⟩, h2⟩, h3⟩ := hp'
          exact last_take ho hs hQ h0 _ listed a w (Region.free_spec ho h1) (by simpa using h2) hy hSw (ih is rest hl' hm' _ _ w h3 (fun _ => hSw) hr)
        | false =>
          have hp' : planT ops z ((false, i) :: fs.zip is) listed = true := hp
          simp only [planT, Bool.and_eq_true, decide_eq_true_eq, Bool.or_eq_true] at hp'
          obtain ⟨⟨⟨h1, _⟩, hzz⟩, h3⟩ := hp'
          refine ⟨fun h0 => (by rw [h1] at h0; cases h0), fun j hj => ?_⟩
          rw [h1] at hj
          obtain rfl : j = i := by simpa using hj
          have h' : (if Region.wanted o (yielded ops a.tmps) = true then o.wp P a w (fun a' w' => (rest ≠ [] → S w') ∧ wpSeqT P ops Q S fs rest a' w') Q else wpSeqT P ops Q S fs rest (a.put o.dst undef) w) := h
          have hzr : j ≠ z → rest ≠ [] := by
            intro hjz e
            subst e
            have hz1 : fs.zip is = [] := by
              have : fs = [] := List.eq_nil_of_length_eq_zero (by simpa using hl')
              rw [this]
              rfl
            rw [hz1] at hzz
            simp at hzz
            exact hjz hzz
          unfold wpOp
          simp only [ho]
          by_cases hw : Region.wanted o (yielded ops a.tmps) = true
          · rw [if_pos hw] at h' ⊢
            exact .inl (Oper.wp_mono (fun a' w' hh => ⟨fun hj => hh.1 (hzr hj), ih is rest hl' hm' _ a' w' h3 hh.1 hh.2⟩) h')
          · rw [if_neg hw] at h' ⊢
            exact ⟨fun _ => hSw, ih is rest hl' hm' _ _ w h3 (fun _ => hSw) h'⟩

theorem wp_region_last {id : Nat} {l : List Oper} {a : Act} {w : World} (ms : List Bool) (fs : List Bool) (hm : P.follows .mixedOrders = true)
    (hB : (Region.noSelect l.toArray && planT l.toArray (l.length - 1) (fs.zip (swaps ms (List.range l.length))) (Array.replicate l.toArray.size false) && decide (fs.length = (swaps ms l).length) && decide ((swaps ms l).length = l.toArray.size)) = true)
    (hidx : (swaps ms (List.range l.length)).map (fun i => l.toArray[i]?) = (swaps ms l).map some)
    (hQ : ∀ d v c a w, Q (.panic c) (Act.put a d v) w → Q (.panic c) a w) (hS : S w.drew)
    (h : wpSeqT P l.toArray Q S fs (swaps ms l) a w.drew) : (Code.region id l.toArray true).wp P Q a w := by
  simp only [Bool.and_eq_true, decide_eq_true_eq] at hB
  obtain ⟨⟨⟨h1, h2⟩, h3⟩, h4⟩ := hB
  refine wp_region_any hm (any_of_last (S := S) (l.length - 1) _ _ _ _ ?_)
  have hh := last_of_plan (l.length - 1) h1 hQ fs _ _ h3 hidx (Array.replicate l.toArray.size false) a w.drew h2 (fun _ => hS) h
  rw [h4] at hh
  exact hh

theorem seqT_take {fs : List Bool} {o : Oper} {rest : List Oper} {a : Act} {w : World} {v : Value} (hw : Region.wanted o (yielded ops a.tmps) = true) (hv : ∀ w, S w → (execOp a.eval o).run P w = .ok (.value v) w) (h : wpSeqT P ops Q S fs rest (a.put o.dst v) w) : wpSeqT P ops Q S (true :: fs) (o :: rest) a w :=
  ⟨v, .inl ⟨hw, hv⟩, h⟩
theorem seqT_solo {fs : List Bool} {o : Oper} {rest : List Oper} {a : Act} {w : World} (hw : Region.wanted o (yielded ops a.tmps) = true) (h : ∀ K : Act → World → Prop, Shut (∀ a' w', (rest ≠ [] → S w') → wpSeqT P ops Q S fs rest a' w' → K a' w') → o.wp P a w K Q) : wpSeqT P ops Q S (false :: fs) (o :: rest) a w := by
  show (if Region.wanted o (yielded ops a.tmps) = true then _ else _)
  rw [if_pos hw]
  exact h _ (fun a' w' hS hh => ⟨hS, hh⟩)
theorem seqT_done {fs : List Bool} {a : Act} {w : World} (h : Q .normal a w) : wpSeqT P ops Q S fs [] a w := by
  cases fs with
  | nil => exact h
  | cons b fs => cases b <;> exact h
end
end Go.Proofs.YtfeffdjnjckjaaaGreatDoor.Rg

/- A region that draws its order, walked by what holds of it at every step. -/
namespace Go.Proofs.YtfeffdjnjckjaaaGreatDoor.Rg
open Go.RowKit

section
variable {P : Program} {ops : Array Oper} {Q : Exit → Act → World → Prop}

/-! ### A region in whatever order, by what holds of it at every step -/

theorem count_set (l : List Bool) (i : Nat) (h : l[i]? = some false) : (l.set i true).count false + 1 = l.count false := by
  induction l generalizing i with
  | nil => simp at h
  | cons b l ih =>
    cases i with
    | zero =>
      simp at h
      subst h
      simp
    | succ i =>
      have h' : l[i]? = some false := by simpa using h
      have := ih i h'
      cases b <;> simp at this ⊢ <;> omega

theorem any_of_inv (I : Array Bool → Act → World → Prop) (hstep : ∀ listed a w i, I listed a w → i ∈ Region.ready .any ops listed → wpOp P ops Q i (fun a' w' => I (listed.setIfInBounds i true) a' w') a w)
    (hend : ∀ listed a w, I listed a w → Region.ready .any ops listed = [] → Q .normal a w) :
    ∀ (n : Nat) (listed : Array Bool) (a : Act) (w : World), listed.size = ops.size → listed.toList.count false ≤ n → I listed a w → wpAny P .any ops Q n listed a w := by
  intro n
  induction n with
  | zero =>
    intro listed a w hsz hc hI
    have hr : Region.ready .any ops listed = [] := by
      cases hh : Region.ready .any ops listed with
      | nil => rfl
      | cons j t =>
        have hj : j ∈ Region.ready .any ops listed := by rw [hh]; simp
        obtain ⟨h0, o, ho, _⟩ := mem_ready.1 hj
        have hlt : j < listed.size := by rw [hsz]; exact (Array.getElem?_eq_some_iff.1 ho).1
        have hm : false ∈ listed.toList := by
          have : listed.toList[j]? = some false := by
            simp only [Array.getD_eq_getD_getElem?, Array.getElem?_eq_getElem hlt, Option.getD_some] at h0
            rw [Array.getElem?_toList, Array.getElem?_eq_getElem hlt, h0]
          exact List.mem_of_getElem? this
        have := List.count_pos_iff.2 hm
        omega
    exact ⟨hr, hend _ _ _ hI hr⟩
  | succ n ih =>
    intro listed a w hsz hc hI
    refine ⟨fun hr => hend _ _ _ hI hr, fun i hi => ?_⟩
    refine wpOp_mono (fun a' w' hI' => ih _ a' w' (by simp [hsz]) ?_ hI') (hstep listed a w i hI hi)
    obtain ⟨h0, o, ho, _⟩ := mem_ready.1 hi
    have hlt : i < listed.size := by rw [hsz]; exact (Array.getElem?_eq_some_iff.1 ho).1
    have h1 : listed.toList[i]? = some false := by
      simp only [Array.getD_eq_getD_getElem?, Array.getElem?_eq_getElem hlt, Option.getD_some] at h0
      rw [Array.getElem?_toList, Array.getElem?_eq_getElem hlt, h0]
    have := count_set _ i h1
    rw [Array.toList_setIfInBounds]
    omega

theorem wp_region_inv {id : Nat} {l : List Oper} {a : Act} {w : World} (I : Array Bool → Act → World → Prop) (hm : P.follows .mixedOrders = true) (h0 : I (Array.replicate l.toArray.size false) a w.drew)
    (hstep : ∀ listed a w i, I listed a w → i ∈ Region.ready .any l.toArray listed → wpOp P l.toArray Q i (fun a' w' => I (listed.setIfInBounds i true) a' w') a w)
    (hend : ∀ listed a w, I listed a w → Region.ready .any l.toArray listed = [] → Q .normal a w) : (Code.region id l.toArray true).wp P Q a w := by
  refine wp_region_any hm (any_of_inv I hstep hend _ _ _ _ (by simp) ?_ h0)
  simp

/-- One operation, run. -/
theorem inv_step {i : Nat} {o : Oper} {a : Act} {w : World} {J : Act → World → Prop} (ho : ops[i]? = some o) (hw : Region.wanted o (yielded ops a.tmps) = true) (h : ∀ K : Act → World → Prop, Shut (∀ a' w', J a' w' → K a' w') → o.wp P a w K Q) : wpOp P ops Q i J a w := by
  unfold wpOp
  simp only [ho, hw, if_true]
  exact .inl (h _ (fun _ _ h => h))
end
end Go.Proofs.YtfeffdjnjckjaaaGreatDoor.Rg

/- A region that draws its order, walked along a plan; its last operation may break the condition, and waits for the others, some of them through others. -/
namespace Go.Proofs.YtfeffdjnjckjaaaGreatDoor.Rg
open Go.RowKit

section
variable {P : Program} {ops : Array Oper} {Q : Exit → Act → World → Prop} {S : World → Prop}

/-- Operation z waits for operation i, perhaps through others. -/
def waitsT (ops : Array Oper) : Nat → Nat → Nat → Bool
  | 0, _, _ => false
  | n + 1, z, i => match ops[z]? with
    | some o => o.after.any fun e => Region.binds .any e && (e.on == i || waitsT ops n e.on i)
    | none => false

/-- What is done has done ahead of it all that it waits for. -/
def Shutl (ops : Array Oper) (listed : Array Bool) : Prop :=
  ∀ m om, ops[m]? = some om → listed.getD m false = true → ∀ e ∈ om.after, Region.binds .any e = true → listed.getD e.on false = true

theorem getD_set_true (listed : Array Bool) (j m : Nat) (h : listed.getD m false = true) : (listed.setIfInBounds j true).getD m false = true := by
  simp only [Array.getD_eq_getD_getElem?] at h ⊢
  by_cases hjm : j = m
  · subst hjm
    by_cases hj : j < listed.size
    · simp [hj]
    · rw [Array.getElem?_eq_none (by omega)] at h
      cases h
  · rw [Array.getElem?_setIfInBounds_ne hjm]
    exact h

theorem Shutl.set {listed : Array Bool} {j : Nat} (h : Shutl ops listed) (hj : j ∈ Region.ready .any ops listed) : Shutl ops (listed.setIfInBounds j true) := by
  intro m om hm hl e he hb
  by_cases hjm : m = j
  · subst hjm
    obtain ⟨_, oj, hoj, hall⟩ := mem_ready.1 hj
    rw [hm] at hoj
    cases hoj
    exact getD_set_true _ _ _ (hall e he hb)
  · have : listed.getD m false = true := by
      simp only [Array.getD_eq_getD_getElem?] at hl ⊢
      rwa [Array.getElem?_setIfInBounds_ne (Ne.symm hjm)] at hl
    exact getD_set_true _ _ _ (h m om hm this e he hb)

theorem Shutl.through {listed : Array Bool} (h : Shutl ops listed) (i : Nat) : ∀ (n z : Nat), waitsT ops n z i = true → (∀ oz, ops[z]? = some oz → ∀ e ∈ oz.after, Region.binds .any e = true → listed.getD e.on false = true) → listed.getD i false = true := by
  intro n
  induction n with
  | zero => intro z hz; cases hz
  | succ n ih =>
    intro z hz hall
    unfold waitsT at hz
    split at hz
    · rename_i o ho
      obtain ⟨e, he, hb⟩ := Array.any_eq_true'.1 hz
      simp only [Bool.and_eq_true, Bool.or_eq_true, beq_iff_eq] at hb
      have h1 := hall o ho e he hb.1
      rcases hb.2 with h2 | h2
      · rw [← h2]
        exact h1
      · exact ih e.on h2 (fun oz hoz e' he' hb' => h e.on oz hoz h1 e' he' hb')
    · cases hz

theorem late_take {i z f : Nat} {oi : Oper} {v : Value} (hi : ops[i]? = some oi) (hs : Region.noSelect ops = true) (hQ : ∀ d v c a w, Q (.panic c) (Act.put a d v) w → Q (.panic c) a w) (hz : waitsT ops f z i = true) :
    ∀ (n : Nat) (listed : Array Bool) (a : Act) (w : World), Shutl ops listed →
      (∀ j oj, ops[j]? = some oj → j ≠ i → listed.getD j true = false → (∀ e ∈ oj.after, Region.binds .any e = true → e.on ≠ i) → oi.apart ops oj = true) →
      i ∈ Region.ready .any ops listed → YieldsIf P ops S oi v a → S w → wpLast P ops Q S z n (listed.setIfInBounds i true) (a.put oi.dst v) w → wpLast P ops Q S z (n + 1) listed a w := by
  have hsel := Region.noSelect_spec hs
  intro n
  induction n with
  | zero =>
    intro listed a w _ _ hr hy hS H
    refine ⟨fun h => (by rw [h] at hr; cases hr), fun j hj => ?_⟩
    rcases Nat.decEq j i with hji | hji
    · have h1 := ready_mono hj hji
      rw [H.1] at h1
      cases h1
    · subst hji
      exact hy.wpOp hi hS ⟨fun _ => hS, H⟩
  | succ n ih =>
    intro listed a w hsh hfree hr hy hS H
    refine ⟨fun h => (by rw [h] at hr; cases hr), fun j hj => ?_⟩
    rcases Nat.decEq j i with hji | hji
    · obtain ⟨hun, oj, hoj, hall⟩ := mem_ready.1 hj
      obtain ⟨hui, _⟩ := mem_ready.1 hr
      have hnot : listed.getD i false = true → False := by
        intro h1
        rcases Nat.lt_or_ge i listed.size with h2 | h2
        · simp only [Array.getD_eq_getD_getElem?, Array.getElem?_eq_getElem h2, Option.getD_some] at h1 hui
          rw [h1] at hui
          cases hui
        · simp only [Array.getD_eq_getD_getElem?, Array.getElem?_eq_none h2, Option.getD_none] at h1
          cases h1
      have hno : ∀ e ∈ oj.after, Region.binds .any e = true → e.on ≠ i := by
        intro e he hb hei
        have h1 := hall e he hb
        rw [hei] at h1
        exact hnot h1
      have hjz : j ≠ z := by
        intro e
        subst e
        refine hnot (hsh.through i f j hz (fun oz hoz => ?_))
        rw [hoj] at hoz
        cases hoz
        exact hall
      have hstep := wpOp_putIf hoj (hfree j oj hoj hji hun hno) (fun cs b => hsel i oi cs b hi) (fun cs b => hsel j oj cs b hoj) (fun c a w => hQ _ _ c a w) hy (H.2 j (ready_mono hj hji))
      refine wpOp_mono (fun a' w' hh => ⟨fun _ => hh.2.1 hjz, ?_⟩) hstep
      refine ih (listed.setIfInBounds j true) a' w' (hsh.set hj) (fun k ok hk hki hku hkno => hfree k ok hk hki ?_ hkno) (ready_mono hr (Ne.symm hji)) hh.1 (hh.2.1 hjz) ?_
      · rcases Nat.decEq j k with hjk | hjk
        · rwa [getD_set_ne true hjk] at hku
        · subst hjk; exact hun
      · rw [Array.setIfInBounds_comm _ _ hji]
        exact hh.2.2
    · subst hji
      exact hy.wpOp hi hS ⟨fun _ => hS, H⟩

/-- Whether the plan may be walked; z, its last, waits for all others, perhaps through others. -/
def planL (ops : Array Oper) (z : Nat) : List (Bool × Nat) → Array Bool → Bool
  | [], listed => (Region.ready .any ops listed).isEmpty
  | (true, i) :: rest, listed => waitsT ops ops.size z i && Region.free .any ops listed i && (Region.ready .any ops listed).contains i && planL ops z rest (listed.setIfInBounds i true)
  | (false, i) :: rest, listed => decide (Region.ready .any ops listed = [i]) && (rest.isEmpty || decide (i ≠ z)) && (!rest.isEmpty || decide (i = z)) && planL ops z rest (listed.setIfInBounds i true)

theorem late_of_plan (z : Nat) (hs : Region.noSelect ops = true) (hQ : ∀ d v c a w, Q (.panic c) (Act.put a d v) w → Q (.panic c) a w) :
    ∀ (fs : List Bool) (is : List Nat) (l : List Oper), fs.length = l.length → is.map (fun i => ops[i]?) = l.map some → ∀ (listed : Array Bool) (a : Act) (w : World), Shutl ops listed → planL ops z (fs.zip is) listed = true → (l ≠ [] → S w) →
      wpSeqT P ops Q S fs l a w → wpLast P ops Q S z l.length listed a w := by
  intro fs
  induction fs with
  | nil =>
    intro is l hl hm listed a w hsh hp hS h
    obtain rfl : l = [] := List.eq_nil_of_length_eq_zero hl.symm
    exact ⟨by simpa [planL] using hp, h⟩
  | cons f fs ih =>
    intro is l hl hm listed a w hsh hp hS h
    cases l with
    | nil => simp at hl
    | cons o rest =>
      have hSw := hS (by simp)
      cases is with
      | nil => simp at hm
      | cons i is =>
        simp only [List.map_cons, List.cons.injEq] at hm
        obtain ⟨ho, hm'⟩ := hm
        have hl' : fs.length = rest.length := by simpa using hl
        cases f with
        | true =>
          obtain ⟨v, hy, hr⟩ := h
          have hp' : planL ops z ((true, i) :: fs.zip is) listed = true := hp
          simp only [planL, Bool.and_eq_true] at hp'
          obtain ⟨⟨⟨h0, h1⟩, h2⟩, h3⟩ := hp'
          have hmem : i ∈ Region.ready .any ops listed := by simpa using h2
          exact late_take ho hs hQ h0 _ listed a w hsh (Region.free_spec ho h1) hmem hy hSw (ih is rest hl' hm' _ _ w (hsh.set hmem) h3 (fun _ => hSw) hr)
        | false =>
          have hp' : planL ops z ((false, i) :: fs.zip is) listed = true := hp
          simp only [planL, Bool.and_eq_true, decide_eq_true_eq, Bool.or_eq_true] at hp'
          obtain ⟨⟨⟨h1, _⟩, hzz⟩, h3⟩ := hp'
          refine ⟨fun h0 => (by rw [h1] at h0; cases h0), fun j hj => ?_⟩
          have hsh' := hsh.set hj
          rw [h1] at hj
          obtain rfl : j = i := by simpa using hj
          have h' : (if Region.wanted o (yielded ops a.tmps) = true then o.wp P a w (fun a' w' => (rest ≠ [] → S w') ∧ wpSeqT P ops Q S fs rest a' w') Q else wpSeqT P ops Q S fs rest (a.put o.dst undef) w) := h
          have hzr : j ≠ z → rest ≠ [] := by
            intro hjz e
            subst e
            have hz1 : fs.zip is = [] := by
              have : fs = [] := List.eq_nil_of_length_eq_zero (by simpa using hl')
              rw [this]
              rfl
            rw [hz1] at hzz
            simp at hzz
            exact hjz hzz
          unfold wpOp
          simp only [ho]
          by_cases hw : Region.wanted o (yielded ops a.tmps) = true
          · rw [if_pos hw] at h' ⊢
            exact .inl (Oper.wp_mono (fun a' w' hh => ⟨fun hj => hh.1 (hzr hj), ih is rest hl' hm' _ a' w' hsh' h3 hh.1 hh.2⟩) h')
          · rw [if_neg hw] at h' ⊢
            exact ⟨fun _ => hSw, ih is rest hl' hm' _ _ w hsh' h3 (fun _ => hSw) h'⟩

theorem wp_region_late {id : Nat} {l : List Oper} {a : Act} {w : World} (ms : List Bool) (fs : List Bool) (hm : P.follows .mixedOrders = true)
    (hB : (Region.noSelect l.toArray && planL l.toArray (l.length - 1) (fs.zip (swaps ms (List.range l.length))) (Array.replicate l.toArray.size false) && decide (fs.length = (swaps ms l).length) && decide ((swaps ms l).length = l.toArray.size)) = true)
    (hidx : (swaps ms (List.range l.length)).map (fun i => l.toArray[i]?) = (swaps ms l).map some)
    (hQ : ∀ d v c a w, Q (.panic c) (Act.put a d v) w → Q (.panic c) a w) (hS : S w.drew)
    (h : wpSeqT P l.toArray Q S fs (swaps ms l) a w.drew) : (Code.region id l.toArray true).wp P Q a w := by
  simp only [Bool.and_eq_true, decide_eq_true_eq] at hB
  obtain ⟨⟨⟨h1, h2⟩, h3⟩, h4⟩ := hB
  refine wp_region_any hm (any_of_last (S := S) (l.length - 1) _ _ _ _ ?_)
  have hsh : Shutl l.toArray (Array.replicate l.toArray.size false) := by
    intro m om _ hl
    exfalso
    simp only [Array.getD_eq_getD_getElem?, Array.getElem?_replicate] at hl
    split at hl <;> simp at hl
  have hh := late_of_plan (l.length - 1) h1 hQ fs _ _ h3 hidx (Array.replicate l.toArray.size false) a w.drew hsh h2 (fun _ => hS) h
  rw [h4] at hh
  exact hh

theorem wp_append {o : Oper} {a : Act} {w w' : World} {K : Act → World → Prop} (s x : Operand) (t : TypeId) (hop : o.op = .call { callee := .builtin .append, args := #[s, x], argTypes := #[t, t] }) {v u v' : Value} (hs : a.eval s = v) (hx : a.eval x = u)
    (hr : (Builtin.append_ #[t, t] o.type #[v, u]).run P w = .ok v' w') (hK : K (a.put o.dst v') w') : o.wp P a w K Q := by
  unfold Oper.wp execOp
  simp only [hop, resolve, invoke, builtin, Sem.run_bind, Sem.run_pure, Result.andThen_ok, List.map_toArray, List.map_cons, List.map_nil, hs, hx, hr]
  exact hK

theorem wp_mapUpdate {o : Oper} {a : Act} {w w' : World} {K : Act → World → Prop} (m x v : Operand) (t : TypeId) (hop : o.op = Op.mapUpdate t m x v) {vm key val : Value} (hm : a.eval m = vm) (hx : a.eval x = key) (hv : a.eval v = val)
    (hr : (Instr.mapUpdate t vm key val).run P w = .ok () w') (hK : K (a.put o.dst undef) w') : o.wp P a w K Q := by
  unfold Oper.wp
  simp [execOp, hop, hm, hx, hv, hr, Result.andThen]
  exact hK

end
end Go.Proofs.YtfeffdjnjckjaaaGreatDoor.Rg
