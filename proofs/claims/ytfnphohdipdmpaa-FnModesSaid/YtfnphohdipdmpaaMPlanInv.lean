/- A region that draws its order, walked by what holds of it at every step. -/
import Derived.Test.YtfnphohdipdmpaaMPlan
namespace Go.Proofs.Ytfnphohdipdmpaa.Rg
open Go.RowKit

section
variable {P : Program} {ops : Array Oper} {Q : Exit → Act → World → Prop}

/-! ### A region in whatever order, by what holds of it at every step -/

theorem count_set (l : List Bool) (i : Nat) (h : l[i]? = some false) : (l.set i true).count false + 1 = l.count false := by
  induction l generalizing i with
  | nil => simp at h
  | cons b l ih =>
    cases i with
    | zero =>
      simp at h
      subst h
      simp
    | succ i =>
      have h' : l[i]? = some false := by simpa using h
      have := ih i h'
      cases b <;> simp at this ⊢ <;> omega

theorem any_of_inv (I : Array Bool → Act → World → Prop) (hstep : ∀ listed a w i, I listed a w → i ∈ Region.ready .any ops listed → wpOp P ops Q i (fun a' w' => I (listed.setIfInBounds i true) a' w') a w)
    (hend : ∀ listed a w, I listed a w → Region.ready .any ops listed = [] → Q .normal a w) :
    ∀ (n : Nat) (listed : Array Bool) (a : Act) (w : World), listed.size = ops.size → listed.toList.count false ≤ n → I listed a w → wpAny P .any ops Q n listed a w := by
  intro n
  induction n with
  | zero =>
    intro listed a w hsz hc hI
    have hr : Region.ready .any ops listed = [] := by
      cases hh : Region.ready .any ops listed with
      | nil => rfl
      | cons j t =>
        have hj : j ∈ Region.ready .any ops listed := by rw [hh]; simp
        obtain ⟨h0, o, ho, _⟩ := mem_ready.1 hj
        have hlt : j < listed.size := by rw [hsz]; exact (Array.getElem?_eq_some_iff.1 ho).1
        have hm : false ∈ listed.toList := by
          have : listed.toList[j]? = some false := by
            simp only [Array.getD_eq_getD_getElem?, Array.getElem?_eq_getElem hlt, Option.getD_some] at h0
            rw [Array.getElem?_toList, Array.getElem?_eq_getElem hlt, h0]
          exact List.mem_of_getElem? this
        have := List.count_pos_iff.2 hm
        omega
    exact ⟨hr, hend _ _ _ hI hr⟩
  | succ n ih =>
    intro listed a w hsz hc hI
    refine ⟨fun hr => hend _ _ _ hI hr, fun i hi => ?_⟩
    refine wpOp_mono (fun a' w' hI' => ih _ a' w' (by simp [hsz]) ?_ hI') (hstep listed a w i hI hi)
    obtain ⟨h0, o, ho, _⟩ := mem_ready.1 hi
    have hlt : i < listed.size := by rw [hsz]; exact (Array.getElem?_eq_some_iff.1 ho).1
    have h1 : listed.toList[i]? = some false := by
      simp only [Array.getD_eq_getD_getElem?, Array.getElem?_eq_getElem hlt, Option.getD_some] at h0
      rw [Array.getElem?_toList, Array.getElem?_eq_getElem hlt, h0]
    have := count_set _ i h1
    rw [Array.toList_setIfInBounds]
    omega

theorem wp_region_inv {id : Nat} {l : List Oper} {a : Act} {w : World} (I : Array Bool → Act → World → Prop) (hm : P.follows .mixedOrders = true) (h0 : I (Array.replicate l.toArray.size false) a w.drew)
    (hstep : ∀ listed a w i, I listed a w → i ∈ Region.ready .any l.toArray listed → wpOp P l.toArray Q i (fun a' w' => I (listed.setIfInBounds i true) a' w') a w)
    (hend : ∀ listed a w, I listed a w → Region.ready .any l.toArray listed = [] → Q .normal a w) : (Code.region id l.toArray true).wp P Q a w := by
  refine wp_region_any hm (any_of_inv I hstep hend _ _ _ _ (by simp) ?_ h0)
  simp

/-- One operation, run. -/
theorem inv_step {i : Nat} {o : Oper} {a : Act} {w : World} {J : Act → World → Prop} (ho : ops[i]? = some o) (hw : Region.wanted o (yielded ops a.tmps) = true) (h : ∀ K : Act → World → Prop, Shut (∀ a' w', J a' w' → K a' w') → o.wp P a w K Q) : wpOp P ops Q i J a w := by
  unfold wpOp
  simp only [ho, hw, if_true]
  exact .inl (h _ (fun _ _ h => h))
end
end Go.Proofs.Ytfnphohdipdmpaa.Rg
