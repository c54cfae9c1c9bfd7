/- Flattened runs say of each column what the statement asks: the setting that was made inside its columns, and else what the runs said before. -/
import Derived.Test.YtdobgmeibccjnaaRefLine
import Derived.Test.YtdobgmeibccjnaaRefLines
namespace Go.Proofs.Ytdobgmeibccjnaa.Ln
open Go.RowKit

def Singles (l : List Run) : Prop := ∀ r ∈ l, r.mn = r.mx

theorem has_single {r : Run} (h : r.mn = r.mx) (c : Int) : has c r = isAt c r := by
  unfold has isAt
  rw [Bool.eq_iff_iff]
  simp
  omega

theorem find_isAt {l : List Run} (hs : Singles l) (c : Int) : l.find? (has c) = l.find? (isAt c) := by
  induction l with
  | nil => rfl
  | cons r l ih =>
    have h1 := has_single (hs r (by simp)) c
    have h2 := ih (fun q hq => hs q (by simp [hq]))
    simp only [List.find?_cons, h1, h2]

def Keeps (rep : Run → Run → Run) : Prop := ∀ f c, (rep f c).mn = f.mn ∧ (rep f c).mx = f.mx

theorem find_set {rep : Run → Run → Run} (hk : Keeps rep) (col : Run) (i c : Int) : ∀ (l : List Run) (j : Nat), Singles l → l.findIdx? (isAt i) = some j →
    Singles (l.set j (rep (l[j]?.getD col) col)) ∧ (l.set j (rep (l[j]?.getD col) col)).find? (has c) = if c = i then (l.find? (has i)).map (fun r => rep r col) else l.find? (has c)
  | [], j, _, h => by simp at h
  | r :: l, j, hs, h => by
    have hr : r.mn = r.mx := hs r (by simp)
    have hl : Singles l := fun q hq => hs q (by simp [hq])
    rw [List.findIdx?_cons] at h
    by_cases hi : isAt i r = true
    · rw [if_pos hi] at h
      injection h with h
      subst h
      have hmn : r.mn = i := by simp [isAt] at hi; omega
      have hk' := hk r col
      have hrs : (rep r col).mn = (rep r col).mx := by omega
      refine ⟨?_, ?_⟩
      · intro q hq
        simp at hq
        rcases hq with hq | hq
        · subst hq; exact hrs
        · exact hl q hq
      · simp only [List.set_cons_zero, List.getElem?_cons_zero, Option.getD_some, List.find?_cons]
        rw [has_single hr, has_single hr, has_single hrs, hi]
        by_cases hc : c = i
        · subst hc
          have e : isAt c (rep r col) = true := by simp [isAt]; omega
          rw [e]
          simp
        · have e : isAt c (rep r col) = false := by simp [isAt]; omega
          have e2 : isAt c r = false := by simp [isAt]; omega
          rw [e, e2, if_neg hc]
    · rw [if_neg hi] at h
      cases hf : l.findIdx? (isAt i) with
      | none => rw [hf] at h; simp at h
      | some j' =>
        rw [hf] at h
        simp at h
        subst h
        obtain ⟨s1, s2⟩ := find_set hk col i c l j' hl hf
        have hi' : has i r = false := by rw [has_single hr]; simpa using hi
        refine ⟨?_, ?_⟩
        · intro q hq
          simp at hq
          rcases hq with hq | hq
          · subst hq; exact hr
          · exact s1 q (by simpa using hq)
        · simp only [List.set_cons_succ, List.getElem?_cons_succ, List.find?_cons]
          rw [s2, hi']
          by_cases hc : c = i
          · subst hc
            simp [hi']
          · rw [if_neg hc, if_neg hc]

theorem has_stamp (q : Run) (c : Int) : has c (stamp q c) = true := by simp [has, stamp]
theorem has_stamp_ne (q : Run) {c i : Int} (h : c ≠ i) : has c (stamp q i) = false := by
  rw [Bool.eq_false_iff]
  intro hh
  unfold has at hh
  rw [Bool.and_eq_true, decide_eq_true_iff, decide_eq_true_iff] at hh
  have h2 : i ≤ c ∧ c ≤ i := hh
  omega

theorem find_step {rep : Run → Run → Run} (hk : Keeps rep) (col : Run) (l : List Run) (i c : Int) (hs : Singles l) :
    Singles (stepF rep col l i) ∧ (stepF rep col l i).find? (has c) = if c = i then some (match l.find? (has i) with | some r => rep r col | none => stamp col i) else l.find? (has c) := by
  unfold stepF
  cases hf : l.findIdx? (isAt i) with
  | some j =>
    obtain ⟨s1, s2⟩ := find_set hk col i c l j hs hf
    refine ⟨s1, ?_⟩
    simp only
    rw [s2]
    by_cases hc : c = i
    · rw [if_pos hc, if_pos hc]
      have : ∃ r, l.find? (has i) = some r := by
        rw [find_isAt hs]
        obtain ⟨hj, h1, h2⟩ := List.findIdx?_eq_some_iff_getElem.1 hf
        cases hq : l.find? (isAt i) with
        | some r => exact ⟨r, rfl⟩
        | none =>
          rw [List.find?_eq_none] at hq
          exact absurd h1 (hq _ (List.getElem_mem hj))
      obtain ⟨r, hr⟩ := this
      rw [hr]
      rfl
    · rw [if_neg hc, if_neg hc]
  | none =>
    have hn : l.find? (has i) = none := by
      rw [find_isAt hs, List.find?_eq_none]
      intro q hq
      have := List.findIdx?_eq_none_iff.1 hf q hq
      simp [this]
    have hst : (stamp col i).mn = (stamp col i).mx := rfl
    refine ⟨?_, ?_⟩
    · intro q hq
      simp at hq
      rcases hq with hq | hq
      · exact hs q hq
      · subst hq; exact hst
    · simp only [List.find?_append, List.find?_cons, List.find?_nil]
      by_cases hc : c = i
      · subst hc
        rw [hn]
        simp [has_stamp]
      · rw [if_neg hc]
        simp [has_stamp_ne col hc]

theorem find_inner {rep : Run → Run → Run} (hk : Keeps rep) (col : Run) (l : List Run) (c : Int) (hs : Singles l) (m : Nat) :
    Singles (innerF rep col l m) ∧ (innerF rep col l m).find? (has c) = if col.mn ≤ c ∧ c < col.mn + m then some (match l.find? (has c) with | some r => rep r col | none => stamp col c) else l.find? (has c) := by
  induction m with
  | zero =>
    refine ⟨hs, ?_⟩
    rw [if_neg (by omega)]
    rfl
  | succ m ih =>
    obtain ⟨i1, i2⟩ := ih
    obtain ⟨s1, s2⟩ := find_step hk col (innerF rep col l m) (col.mn + (m : Int)) c i1
    refine ⟨s1, ?_⟩
    show (stepF rep col (innerF rep col l m) (col.mn + (m : Int))).find? (has c) = _
    rw [s2]
    by_cases hc : c = col.mn + (m : Int)
    · rw [if_pos hc, if_pos (by omega), ← hc, i2, if_neg (by omega)]
    · rw [if_neg hc, i2]
      by_cases hc2 : col.mn ≤ c ∧ c < col.mn + (m : Int)
      · rw [if_pos hc2, if_pos (by omega)]
      · rw [if_neg hc2, if_neg (by omega)]

theorem find_fold {rep : Run → Run → Run} (hk : Keeps rep) (c : Int) : ∀ (X l : List Run), Singles l → X.Pairwise (fun a b => a.mx < b.mn) → (∀ r ∈ X, r.mn ≤ r.mx) →
    (X.foldl (fun fc q => innerF rep q fc (q.mx + 1 - q.mn).toNat) l).find? (has c) = match X.find? (has c) with
      | some col => some (match l.find? (has c) with | some r => rep r col | none => stamp col c)
      | none => l.find? (has c)
  | [], l, _, _, _ => rfl
  | col :: X, l, hs, hp, he => by
    rw [List.pairwise_cons] at hp
    obtain ⟨i1, i2⟩ := find_inner hk col l c hs (col.mx + 1 - col.mn).toNat
    have hcol := he col (by simp)
    have ih := find_fold hk c X (innerF rep col l (col.mx + 1 - col.mn).toNat) i1 hp.2 (fun r hr => he r (by simp [hr]))
    rw [List.foldl_cons, ih, List.find?_cons, i2]
    by_cases hc : has c col = true
    · have hc' : col.mn ≤ c ∧ c ≤ col.mx := by simpa [has] using hc
      have hn : X.find? (has c) = none := by
        rw [List.find?_eq_none]
        intro q hq
        have := hp.1 q hq
        simp [has]
        omega
      rw [hn, hc, if_pos (by omega)]
    · have hcf : has c col = false := by simpa using hc
      have hc' : ¬ (col.mn ≤ c ∧ c ≤ col.mx) := by simpa [has] using hc
      rw [hcf, if_neg (by omega)]

theorem find_first (q : Run) (c : Int) (k : Nat) : Singles (firstK q k) ∧ (firstK q k).find? (has c) = if q.mn ≤ c ∧ c < q.mn + k then some (stamp q c) else none := by
  induction k with
  | zero =>
    refine ⟨by simp [firstK, Singles], ?_⟩
    rw [if_neg (by omega)]
    rfl
  | succ k ih =>
    have e : firstK q (k + 1) = firstK q k ++ [stamp q (q.mn + (k : Int))] := by simp [firstK, List.range_succ]
    rw [e]
    refine ⟨?_, ?_⟩
    · intro r hr
      rw [List.mem_append] at hr
      rcases hr with hr | hr
      · exact ih.1 r hr
      · simp at hr; subst hr; rfl
    · rw [List.find?_append, ih.2]
      by_cases h1 : q.mn ≤ c ∧ c < q.mn + (k : Int)
      · rw [if_pos h1, if_pos (by omega)]; rfl
      · rw [if_neg h1]
        by_cases h2 : c = q.mn + (k : Int)
        · rw [if_pos (by omega), ← h2]
          simp [has_stamp]
        · rw [if_neg (by omega)]
          simp [has_stamp_ne q h2]

theorem repV_keeps : Keeps repV := fun _ _ => ⟨rfl, rfl⟩
theorem repS_keeps : Keeps repS := fun _ _ => ⟨rfl, rfl⟩

theorem find_outer {rep : Run → Run → Run} (hk : Keeps rep) (q : Run) (X : List Run) {z : Int} (hX : OkRuns X z) (hq : q.mn ≤ q.mx) (c : Int) :
    (outerF rep q X).find? (has c) = match X.find? (has c) with
      | some col => some (if q.mn ≤ c ∧ c ≤ q.mx then rep (stamp q c) col else stamp col c)
      | none => if q.mn ≤ c ∧ c ≤ q.mx then some (stamp q c) else none := by
  obtain ⟨f1, f2⟩ := find_first q c (q.mx + 1 - q.mn).toNat
  unfold outerF
  rw [find_fold hk c X _ f1 hX.apart (fun r hr => (hX.each r hr).2.1), f2]
  by_cases h : q.mn ≤ c ∧ c ≤ q.mx
  · have h' : q.mn ≤ c ∧ c < q.mn + (((q.mx + 1 - q.mn).toNat : Nat) : Int) := by omega
    simp only [if_pos h, if_pos h']
  · have h' : ¬ (q.mn ≤ c ∧ c < q.mn + (((q.mx + 1 - q.mn).toNat : Nat) : Int)) := by omega
    simp only [if_neg h, if_neg h']

/-- Showing or hiding changes whether the columns are hidden, and nothing else of them. -/
theorem look_hide (a b : Int) (shown : Bool) (X : List Run) {z : Int} (hX : OkRuns X z) (hab : a ≤ b) (c : Int) :
    ∃ wd cu, look (outerF repV (runV a b shown) X) c = { mn := c, mx := c, lv := (look X c).lv, st := (look X c).st, wd := wd, hd := if a ≤ c ∧ c ≤ b then !shown else (look X c).hd, cu := cu } := by
  have h := find_outer repV_keeps (runV a b shown) X hX hab c
  unfold look
  rw [h]
  cases X.find? (has c) with
  | some col =>
    by_cases hc : a ≤ c ∧ c ≤ b
    · have hc' : (runV a b shown).mn ≤ c ∧ c ≤ (runV a b shown).mx := hc
      simp only [if_pos hc, if_pos hc']
      exact ⟨_, _, rfl⟩
    · have hc' : ¬ ((runV a b shown).mn ≤ c ∧ c ≤ (runV a b shown).mx) := hc
      simp only [if_neg hc, if_neg hc']
      exact ⟨_, _, rfl⟩
  | none =>
    by_cases hc : a ≤ c ∧ c ≤ b
    · have hc' : (runV a b shown).mn ≤ c ∧ c ≤ (runV a b shown).mx := hc
      simp only [if_pos hc, if_pos hc']
      exact ⟨_, _, rfl⟩
    · have hc' : ¬ ((runV a b shown).mn ≤ c ∧ c ≤ (runV a b shown).mx) := hc
      simp only [if_neg hc, if_neg hc']
      exact ⟨_, _, rfl⟩

/-- Giving columns a style changes their style, and nothing else of them. -/
theorem look_style (a b style : Int) (X : List Run) {z : Int} (hX : OkRuns X z) (hab : a ≤ b) (c : Int) :
    ∃ wd cu, look (outerF repS (runS a b style) X) c = { mn := c, mx := c, lv := (look X c).lv, st := if a ≤ c ∧ c ≤ b then style else (look X c).st, wd := wd, hd := (look X c).hd, cu := cu } := by
  have h := find_outer repS_keeps (runS a b style) X hX hab c
  unfold look
  rw [h]
  cases X.find? (has c) with
  | some col =>
    by_cases hc : a ≤ c ∧ c ≤ b
    · have hc' : (runS a b style).mn ≤ c ∧ c ≤ (runS a b style).mx := hc
      simp only [if_pos hc, if_pos hc']
      exact ⟨_, _, rfl⟩
    · have hc' : ¬ ((runS a b style).mn ≤ c ∧ c ≤ (runS a b style).mx) := hc
      simp only [if_neg hc, if_neg hc']
      exact ⟨_, _, rfl⟩
  | none =>
    by_cases hc : a ≤ c ∧ c ≤ b
    · have hc' : (runS a b style).mn ≤ c ∧ c ≤ (runS a b style).mx := hc
      simp only [if_pos hc, if_pos hc']
      exact ⟨_, _, rfl⟩
    · have hc' : ¬ ((runS a b style).mn ≤ c ∧ c ≤ (runS a b style).mx) := hc
      simp only [if_neg hc, if_neg hc']
      exact ⟨_, _, rfl⟩

theorem innerF_len (rep : Run → Run → Run) (c : Run) (fc : List Run) (m : Nat) : (innerF rep c fc m).length ≤ fc.length + m := by
  induction m with
  | zero => exact Nat.le_refl _
  | succ m ih =>
    have := stepF_len rep c (innerF rep c fc m) (c.mn + (m : Int))
    show (stepF rep c (innerF rep c fc m) (c.mn + (m : Int))).length ≤ _
    omega

theorem fold_len (rep : Run → Run → Run) : ∀ (X l : List Run), (∀ r ∈ X, 1 ≤ r.mn ∧ r.mx ≤ 60) → (X.foldl (fun fc q => innerF rep q fc (q.mx + 1 - q.mn).toNat) l).length ≤ l.length + 60 * X.length
  | [], l, _ => by simp
  | c :: X, l, h => by
    have h1 := innerF_len rep c l (c.mx + 1 - c.mn).toNat
    have h2 := fold_len rep X (innerF rep c l (c.mx + 1 - c.mn).toNat) (fun r hr => h r (by simp [hr]))
    have h3 := h c (by simp)
    rw [List.foldl_cons, List.length_cons]
    omega

theorem outerF_len (rep : Run → Run → Run) (q : Run) (X : List Run) {z : Int} (hX : OkRuns X z) (hl : X.length ≤ 6) (h1 : 1 ≤ q.mn) (h2 : q.mx ≤ 60) : (outerF rep q X).length ≤ 1000 := by
  have hz := hX.hi
  have := fold_len rep X (firstK q (q.mx + 1 - q.mn).toNat) (fun r hr => by have := hX.each r hr; omega)
  rw [firstK_len] at this
  unfold outerF
  omega

end Go.Proofs.Ytdobgmeibccjnaa.Ln
