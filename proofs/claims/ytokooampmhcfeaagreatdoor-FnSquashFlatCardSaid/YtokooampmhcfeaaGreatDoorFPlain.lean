/- Columns with the rows of areas that do not overlap: in plain Lean. -/
import Derived.Test.YtokooampmhcfeaaGreatDoorFColsDef
namespace Go.Proofs.YtokooampmhcfeaaGreatDoor.Rg
open Go.RowKit Go.Maps

/-- A record of column c holds row r. -/
def hasIn (K : List (Int × Value)) (R : Int → List Int) (c r : Int) : Bool := K.any fun p => decide (p.1 = c) && (R p.1).any fun x => decide (x = r)

theorem mem_full {a : Ar} {c r : Int} : r ∈ full a c ↔ within c r a = true := by
  unfold full within
  split
  · rename_i h
    rw [mem_rowsTo]
    simp
    omega
  · rename_i h
    simp
    omega

theorem mem_cols {L : List Ar} {c r : Int} : r ∈ cols L c ↔ (L.any fun a => within c r a) = true := by
  unfold cols
  simp only [List.mem_flatMap, List.any_eq_true, mem_full]

theorem full_nodup (a : Ar) (c : Int) : (full a c).Nodup := by
  unfold full
  split
  · exact rowsTo_nodup _ _
  · exact List.nodup_nil

theorem cols_nodup {L : List Ar} (h : Apart L) (c : Int) : (cols L c).Nodup := by
  unfold cols List.Nodup
  rw [List.pairwise_flatMap]
  refine ⟨fun a _ => full_nodup a c, ?_⟩
  unfold Apart at h
  refine h.imp (fun {a b} hab x hx y hy e => ?_)
  subst e
  rw [mem_full] at hx hy
  unfold within at hx hy
  unfold overlap at hab
  simp only [Bool.and_eq_true, decide_eq_true_eq] at hx hy
  have : (decide (a.p ≤ b.x) && decide (b.p ≤ a.x) && decide (a.q ≤ b.y) && decide (b.q ≤ a.y)) = true := by
    simp only [Bool.and_eq_true, decide_eq_true_eq]
    omega
  rw [this] at hab
  cases hab

theorem rows_rise {L : List Ar} (h : Apart L) {c : Int} {X : List Int} (hp : X.Perm (cols L c)) (hs : X.Pairwise (· ≤ ·)) : X.Pairwise (· < ·) := by
  have hn : X.Nodup := hp.nodup_iff.2 (cols_nodup h c)
  refine (hs.and hn).imp (fun {a b} hab => ?_)
  have h1 := hab.1
  have h2 := hab.2
  omega

theorem hasIn_eq {L : List Ar} {K : List (Int × Value)} {R : Int → List Int} {c : Int} (hp : (R c).Perm (cols L c)) (hk : R c ≠ [] → c ∈ K.map Prod.fst) (r : Int) : hasIn K R c r = L.any fun a => within c r a := by
  rw [Bool.eq_iff_iff, ← mem_cols, ← hp.mem_iff]
  unfold hasIn
  simp only [List.any_eq_true, Bool.and_eq_true, decide_eq_true_eq]
  constructor
  · rintro ⟨p, _, rfl, x, hx, rfl⟩
    exact hx
  · intro hr
    obtain ⟨p, hpm, e⟩ := List.mem_map.1 (hk (List.ne_nil_of_mem hr))
    exact ⟨p, hpm, e, r, by rw [e]; exact hr, rfl⟩

/-- What refTidy asks. -/
structure TidyK (K : List (Int × Value)) (R : Int → List Int) : Prop where
  some_ : ∀ p ∈ K, R p.1 ≠ []
  cols_ : (K.map Prod.fst).Pairwise (· < ·)
  rows_ : ∀ p ∈ K, (R p.1).Pairwise (· < ·)

theorem hasIn_take {K : List (Int × Value)} {R : Int → List Int} {c r : Int} {k : Nat} {p : Int × Value} (h : K[k]? = some p) : hasIn (K.take (k + 1)) R c r = (hasIn (K.take k) R c r || (decide (p.1 = c) && (R p.1).any fun x => decide (x = r))) := by
  unfold hasIn
  rw [List.take_add_one, h, List.any_append]
  simp

theorem hasIn_of {K : List (Int × Value)} {R : Int → List Int} {c r : Int} {p : Int × Value} (hp : p ∈ K) (h : p.1 = c) (hr : r ∈ R p.1) : hasIn K R c r = true := by
  unfold hasIn
  simp only [List.any_eq_true, Bool.and_eq_true, decide_eq_true_eq]
  exact ⟨p, hp, h, r, hr, rfl⟩
end Go.Proofs.YtokooampmhcfeaaGreatDoor.Rg
