/- What the package's merging of areas comes to: areas that do not overlap stay, two that overlap become the smallest area that holds both. -/
import Derived.Test.YtokooampmhcfeaaGreatDoorRGood
namespace Go.Proofs.YtokooampmhcfeaaGreatDoor.Rg
open Go.RowKit

/-- The package's test whether two areas overlap: a corner of one lies in the other, in the order of its text. -/
def pover (a b : Ar) : Bool := within a.p a.q b || within a.x a.q b || within a.p a.y b || within a.x a.y b || within b.p b.q a || within b.x b.q a || within b.p b.y a || within b.x b.y a

theorem pover_corner (a b : Ar) : pover a b = (corner a b || corner b a) := by
  unfold pover corner
  generalize within a.p a.q b = t1
  generalize within a.x a.q b = t2
  generalize within a.p a.y b = t3
  generalize within a.x a.y b = t4
  generalize within b.p b.q a = t5
  generalize within b.x b.q a = t6
  generalize within b.p b.y a = t7
  generalize within b.x b.y a = t8
  revert t1 t2 t3 t4 t5 t6 t7 t8
  decide

theorem pover_not {a b : Ar} (ha : Good a) (hb : Good b) (h : overlap a b = false) : pover a b = false := by
  have h1 := ha.px
  have h2 := ha.qy
  have h3 := hb.px
  have h4 := hb.qy
  unfold overlap at h
  unfold pover within
  simp only [Bool.and_eq_false_iff, Bool.or_eq_false_iff, decide_eq_false_iff_not] at h ⊢
  omega

theorem pover_yes {a b : Ar} (h1 : overlap a b = true) (h2 : crosses a b = false) : pover a b = true := by
  rw [pover_corner]
  unfold crosses at h2
  rw [h1] at h2
  revert h2
  generalize corner a b = t1
  generalize corner b a = t2
  revert t1 t2
  decide

/-- The rounds of the inner loop: the area at hand, whether anything was joined, which areas are used up. -/
def innerI (L : List Ar) (k : Nat) (r : Ar) (m : Bool) (U : List Bool) : Ar × Bool × List Bool :=
  if h : k < L.length then
    if U[k]? = some true then innerI L (k + 1) r m U
    else if pover r L[k] then innerI L (k + 1) (join r L[k]) true (U.set k true)
    else innerI L (k + 1) r m U
  else (r, m, U)
termination_by L.length - k

theorem innerI_stop {L : List Ar} {k : Nat} {r : Ar} {m : Bool} {U : List Bool} (h : ¬ k < L.length) : innerI L k r m U = (r, m, U) := by
  rw [innerI, dif_neg h]
theorem innerI_used {L : List Ar} {k : Nat} {r : Ar} {m : Bool} {U : List Bool} (h : k < L.length) (hu : U[k]? = some true) : innerI L k r m U = innerI L (k + 1) r m U := by
  rw [innerI, dif_pos h, if_pos hu]
theorem innerI_hit {L : List Ar} {k : Nat} {r : Ar} {m : Bool} {U : List Bool} (h : k < L.length) (hu : U[k]? = some false) (hp : pover r L[k] = true) : innerI L k r m U = innerI L (k + 1) (join r L[k]) true (U.set k true) := by
  rw [innerI, dif_pos h, if_neg (by rw [hu]; simp), if_pos hp]
theorem innerI_miss {L : List Ar} {k : Nat} {r : Ar} {m : Bool} {U : List Bool} (h : k < L.length) (hu : U[k]? = some false) (hp : pover r L[k] = false) : innerI L k r m U = innerI L (k + 1) r m U := by
  rw [innerI, dif_pos h, if_neg (by rw [hu]; simp), if_neg (by rw [hp]; simp)]

theorem innerI_len (L : List Ar) : ∀ (d k : Nat), L.length - k = d → ∀ (r : Ar) (m : Bool) (U : List Bool), (innerI L k r m U).2.2.length = U.length := by
  intro d
  induction d with
  | zero => intro k hd r m U; rw [innerI_stop (by omega)]
  | succ d ih =>
    intro k hd r m U
    have hk : k < L.length := by omega
    rw [innerI, dif_pos hk]
    split
    · exact ih (k + 1) (by omega) _ _ _
    · split
      · rw [ih (k + 1) (by omega)]; simp
      · exact ih (k + 1) (by omega) _ _ _

/-- The rounds of the outer loop. -/
def outerI (L : List Ar) (i : Nat) (acc : List Ar) (m : Bool) (U : List Bool) : List Ar × Bool :=
  if h : i < L.length then
    if U[i]? = some true then outerI L (i + 1) acc m U
    else outerI L (i + 1) (acc ++ [(innerI L (i + 1) L[i] m U).1]) (innerI L (i + 1) L[i] m U).2.1 (innerI L (i + 1) L[i] m U).2.2
  else (acc, m)
termination_by L.length - i

theorem outerI_stop {L : List Ar} {i : Nat} {acc : List Ar} {m : Bool} {U : List Bool} (h : ¬ i < L.length) : outerI L i acc m U = (acc, m) := by
  rw [outerI, dif_neg h]
theorem outerI_used {L : List Ar} {i : Nat} {acc : List Ar} {m : Bool} {U : List Bool} (h : i < L.length) (hu : U[i]? = some true) : outerI L i acc m U = outerI L (i + 1) acc m U := by
  rw [outerI, dif_pos h, if_pos hu]
theorem outerI_free {L : List Ar} {i : Nat} {acc : List Ar} {m : Bool} {U : List Bool} (h : i < L.length) (hu : U[i]? = some false) : outerI L i acc m U = outerI L (i + 1) (acc ++ [(innerI L (i + 1) L[i] m U).1]) (innerI L (i + 1) L[i] m U).2.1 (innerI L (i + 1) L[i] m U).2.2 := by
  rw [outerI, dif_pos h, if_neg (by rw [hu]; simp)]

/-- One pass over the areas. -/
def pass (L : List Ar) : List Ar × Bool := outerI L 0 [] false (List.replicate L.length false)

/-- The passes end with these areas. -/
inductive Runs : List Ar → List Ar → Prop
  | last (L F : List Ar) : pass L = (F, false) → Runs L F
  | more (L L' F : List Ar) : pass L = (L', true) → L'.length < L.length → Runs L' F → Runs L F

/-- No two of them overlap. -/
def Apart (L : List Ar) : Prop := L.Pairwise fun a b => overlap a b = false

theorem innerI_apart (L : List Ar) (r : Ar) : ∀ (d k : Nat), L.length - k = d → (∀ j (h : j < L.length), k ≤ j → pover r L[j] = false) → ∀ m, innerI L k r m (List.replicate L.length false) = (r, m, List.replicate L.length false) := by
  intro d
  induction d with
  | zero => intro k hd _ m; rw [innerI_stop (by omega)]
  | succ d ih =>
    intro k hd h m
    have hk : k < L.length := by omega
    rw [innerI_miss hk (by simp [hk]) (h k hk (Nat.le_refl _))]
    exact ih (k + 1) (by omega) (fun j hj hkj => h j hj (by omega)) m

theorem outerI_apart (L : List Ar) (hp : ∀ i j (hi : i < L.length) (hj : j < L.length), i < j → pover L[i] L[j] = false) : ∀ (d i : Nat), L.length - i = d → i ≤ L.length → outerI L i (L.take i) false (List.replicate L.length false) = (L, false) := by
  intro d
  induction d with
  | zero =>
    intro i hd hi
    rw [outerI_stop (by omega), List.take_of_length_le (by omega)]
  | succ d ih =>
    intro i hd hi
    have hk : i < L.length := by omega
    rw [outerI_free hk (by simp [hk]), innerI_apart L L[i] _ (i + 1) rfl (fun j hj hkj => hp i j hk hj (by omega))]
    have h := ih (i + 1) (by omega) (by omega)
    rw [List.take_succ_eq_append_getElem hk] at h
    exact h

theorem apart_pover {L : List Ar} (hg : ∀ a ∈ L, Good a) (h : Apart L) : ∀ i j (hi : i < L.length) (hj : j < L.length), i < j → pover L[i] L[j] = false := by
  intro i j hi hj hij
  exact pover_not (hg _ (List.getElem_mem hi)) (hg _ (List.getElem_mem hj)) (List.pairwise_iff_getElem.1 h i j hi hj hij)

theorem runs_apart {L : List Ar} (hg : ∀ a ∈ L, Good a) (h : Apart L) : Runs L L :=
  .last L L (outerI_apart L (apart_pover hg h) _ 0 rfl (Nat.zero_le _))

theorem runs_two {a b : Ar} (h : pover a b = true) : Runs [a, b] [join a b] := by
  have e1 : innerI [a, b] 1 a false [false, false] = (join a b, true, [false, true]) :=
    (innerI_hit (L := [a, b]) (k := 1) (r := a) (m := false) (U := [false, false]) (by simp) rfl h).trans (innerI_stop (by simp))
  have e2 : innerI [join a b] 1 (join a b) false [false] = (join a b, false, [false]) := innerI_stop (by simp)
  have f1 : outerI [a, b] 0 [] false [false, false] = ([join a b], true) := by
    refine (outerI_free (L := [a, b]) (i := 0) (acc := []) (m := false) (U := [false, false]) (by simp) rfl).trans ?_
    simp only [List.getElem_cons_zero, Nat.zero_add]
    rw [e1]
    exact (outerI_used (L := [a, b]) (i := 1) (by simp) rfl).trans (outerI_stop (by simp))
  have f2 : outerI [join a b] 0 [] false [false] = ([join a b], false) := by
    refine (outerI_free (L := [join a b]) (i := 0) (acc := []) (m := false) (U := [false]) (by simp) rfl).trans ?_
    simp only [List.getElem_cons_zero, Nat.zero_add]
    rw [e2]
    exact outerI_stop (by simp)
  exact .more [a, b] [join a b] _ f1 (by simp) (.last _ _ f2)

theorem Good.join {a b : Ar} (ha : Good a) (hb : Good b) : Good (join a b) := by
  obtain ⟨a1, a2, a3, a4, a5, a6, a7⟩ := ha
  obtain ⟨b1, b2, b3, b4, b5, b6, b7⟩ := hb
  unfold Rg.join
  refine ⟨?_, ?_, ?_, ?_, ?_, ?_, ?_⟩ <;> show _ <;> simp only [] <;> omega
end Go.Proofs.YtokooampmhcfeaaGreatDoor.Rg
