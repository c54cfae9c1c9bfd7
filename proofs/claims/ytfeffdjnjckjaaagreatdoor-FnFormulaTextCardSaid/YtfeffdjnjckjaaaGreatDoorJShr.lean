/- The reader never grows. -/
import Derived.Test.YtfeffdjnjckjaaaGreatDoorJPure
/- What the parts of the reader leave is no longer than what came. -/
namespace Go.Proofs.YtfeffdjnjckjaaaGreatDoor.Rg
open Go.RowKit

def Shr (f : Nat → List UInt8 → R) : Prop := ∀ d r x r2, f d r = .ok x r2 → r2.length ≤ r.length

theorem tail_le (r : List UInt8) : r.tail.length ≤ r.length := by simp
theorem blk_le (r : List UInt8) : (blk r).length ≤ r.length := (blk_suf r).length_le
theorem dol_le (r : List UInt8) : (dol r).2.length ≤ r.length := by
  unfold dol
  split
  · exact tail_le r
  · exact Nat.le_refl _
theorem lets_le : ∀ (k c n : Nat) (r : List UInt8), (letsA k c n r).2.2.length ≤ r.length
  | 0, _, _, _ => Nat.le_refl _
  | k + 1, c, n, r => by
    unfold letsA
    split
    · exact Nat.le_trans (lets_le k _ _ _) (tail_le r)
    · exact Nat.le_refl _
theorem digs_le : ∀ (k c n : Nat) (r : List UInt8), (digsA k c n r).2.2.length ≤ r.length
  | 0, _, _, _ => Nat.le_refl _
  | k + 1, c, n, r => by
    unfold digsA
    split
    · exact Nat.le_trans (digs_le k _ _ _) (tail_le r)
    · exact Nat.le_refl _
theorem cell_le (r : List UInt8) : (cellP r).rest.length ≤ r.length := by
  rcases e1 : dol r with ⟨fa, r1⟩
  rcases e2 : letsA 4 0 0 r1 with ⟨c, n, r2⟩
  rcases e3 : dol r2 with ⟨fb, r3⟩
  rcases e4 : digsA 8 0 0 r3 with ⟨d, m, r4⟩
  have h1 := dol_le r
  have h2 := lets_le 4 0 0 r1
  have h3 := dol_le r2
  have h4 := digs_le 8 0 0 r3
  rw [e1] at h1
  rw [e2] at h2
  rw [e3] at h3
  rw [e4] at h4
  simp only at h1 h2 h3 h4
  unfold cellP
  simp only [e1, e2]
  split
  · simp only
    omega
  · simp only [e3, e4]
    omega
theorem place_le {sheet r rest : List UInt8} {x : Ex} (h : placeP sheet r = .ok x rest) : rest.length ≤ r.length := by
  have h1 := cell_le r
  have h2 := tail_le (cellP r).rest
  have h3 := cell_le (cellP r).rest.tail
  unfold placeP at h
  simp only at h
  generalize cellP (cellP r).rest.tail = D at h h3
  generalize cellP r = C at h h1 h2 h3
  by_cases a1 : C.ok = false ∨ isNamed (pk C.rest) = true
  · rw [if_pos a1] at h
    cases h
  · rw [if_neg a1] at h
    by_cases a2 : pk C.rest = 58
    · rw [if_pos a2] at h
      by_cases a3 : D.ok = false ∨ isNamed (pk D.rest) = true
      · rw [if_pos a3] at h
        cases h
      · rw [if_neg a3] at h
        injection h with _ h
        subst h
        omega
    · rw [if_neg a2] at h
      injection h with _ h
      subst h
      exact h1
theorem num_le {r rest : List UInt8} {x : Ex} (h : numP r = .ok x rest) : rest.length ≤ r.length := by
  unfold numP at h
  simp only at h
  split at h
  · cases h
  · injection h with _ h
    subst h
    exact (numRest_suf r).length_le
theorem quo_le {m : UInt8} : ∀ (acc r t rest : List UInt8), quoA m acc r = some (t, rest) → rest.length ≤ r.length
  | acc, [], t, rest, h => by simp [quoA] at h
  | acc, [c], t, rest, h => by
    simp only [quoA] at h
    split at h
    · simp at h
      rw [← h.2]
      simp
    · cases h
  | acc, c :: c2 :: l, t, rest, h => by
    unfold quoA at h
    split at h
    · split at h
      · have := quo_le _ l t rest h
        simp
        omega
      · simp at h
        rw [← h.2]
        simp
    · have := quo_le _ (c2 :: l) t rest h
      simp at this ⊢
      omega
theorem fail_le {r rest : List UInt8} {x : Ex} (h : failP r = .ok x rest) : rest.length ≤ r.length := by
  unfold failP at h
  split at h
  · injection h with _ h
    subst h
    simp
  · cases h
theorem lit_le {r rest : List UInt8} {x : Ex} (h : litP r = .ok x rest) : rest.length ≤ r.length := by
  unfold litP at h
  split at h
  · exact num_le h
  · split at h
    · split at h
      · rename_i t rest2 hq
        injection h with _ h
        subst h
        exact Nat.le_trans (quo_le _ _ _ _ hq) (tail_le r)
      · cases h
    · exact fail_le h
theorem args_le {f : Nat → List UInt8 → R} (hf : Shr f) {d : Nat} : ∀ (k : Nat) (acc l : List Ex) (r rest : List UInt8), argsP f d k acc r = .ok l rest → rest.length ≤ r.length
  | 0, _, _, _, _, h => by cases h
  | k + 1, acc, l, r, rest, h => by
    unfold argsP at h
    have hb := blk_le r
    have key : ∀ x r2, (if pk (blk r) = 44 ∨ pk (blk r) = 41 then R.ok .odd (blk r) else f d (blk r)) = .ok x r2 → r2.length ≤ r.length := by
      intro x r2 hx
      split at hx
      · injection hx with _ hx
        subst hx
        exact hb
      · exact Nat.le_trans (hf _ _ _ _ hx) hb
    split at h
    · cases h
    · cases h
    · rename_i x r2 hx
      have h2 := key x r2 hx
      have h3 := blk_le r2
      have h4 := tail_le (blk r2)
      split at h
      · injection h with _ h
        subst h
        omega
      · split at h
        · have := args_le hf k _ _ _ _ h
          omega
        · cases h
theorem call_le {f : Nat → List UInt8 → R} (hf : Shr f) {d : Nat} {name r rest : List UInt8} {x : Ex} (h : callP f name d r = .ok x rest) : rest.length ≤ r.length := by
  have h1 := tail_le r
  have h2 := blk_le r.tail
  have h3 := tail_le (blk r.tail)
  unfold callP at h
  split at h
  · injection h with _ h
    subst h
    omega
  · split at h
    · cases h
    · cases h
    · rename_i l r2 hx
      injection h with _ h
      subst h
      have := args_le hf _ _ _ _ _ hx
      omega
theorem word_le {f : Nat → List UInt8 → R} (hf : Shr f) {d : Nat} {r rest : List UInt8} {x : Ex} (h : wordP f d r = .ok x rest) : rest.length ≤ r.length := by
  have h1 : (r.dropWhile isNamed).length ≤ r.length := (List.dropWhile_suffix _).length_le
  have h2 := tail_le (r.dropWhile isNamed)
  unfold wordP at h
  split at h
  · exact place_le h
  · split at h
    · cases h
    · split at h
      · exact Nat.le_trans (call_le hf h) h1
      · split at h
        · exact Nat.le_trans (place_le h) (Nat.le_trans h2 h1)
        · split at h
          · injection h with _ h
            subst h
            exact h1
          · split at h
            · injection h with _ h
              subst h
              exact h1
            · exact place_le h
theorem const_le {f : Nat → List UInt8 → R} (hf : Shr f) {d : Nat} {r rest : List UInt8} {x : Ex} (h : constP f d r = .ok x rest) : rest.length ≤ r.length := by
  have h1 := blk_le r
  have h2 := tail_le (blk r)
  unfold constP at h
  split at h
  · split at h
    · cases h
    · split at h
      · rename_i y rest2 hx
        injection h with _ h
        subst h
        have := num_le hx
        omega
      · rename_i hx
        exact absurd h (hx _ _)
  · split at h
    · exact Nat.le_trans (lit_le h) h1
    · split at h
      · rename_i b rest2 hx
        injection h with _ h
        subst h
        exact Nat.le_trans (word_le hf hx) h1
      · cases h
      · cases h

end Go.Proofs.YtfeffdjnjckjaaaGreatDoor.Rg

/- What the reader leaves is no longer than what came, at every level. -/
namespace Go.Proofs.YtfeffdjnjckjaaaGreatDoor.Rg
open Go.RowKit

theorem arr_le {f : Nat → List UInt8 → R} (hf : Shr f) {d : Nat} : ∀ (k wide n : Nat) (r rest : List UInt8) (x : Ex), arrA f d k wide n r = .ok x rest → rest.length ≤ r.length
  | 0, _, _, _, _, _, h => by cases h
  | k + 1, wide, n, r, rest, x, h => by
    unfold arrA at h
    split at h
    · cases h
    · cases h
    · rename_i y r1 hy
      have h1 := const_le hf hy
      have h2 := blk_le r1
      have h3 := tail_le (blk r1)
      split at h
      · have := arr_le hf k _ _ _ _ _ h
        omega
      · split at h
        · cases h
        · split at h
          · injection h with _ h
            subst h
            omega
          · split at h
            · have := arr_le hf k _ _ _ _ _ h
              omega
            · cases h
theorem thing_le {f : Nat → List UInt8 → R} (hf : Shr f) {d : Nat} {r rest : List UInt8} {x : Ex} (h : thingP f d r = .ok x rest) : rest.length ≤ r.length := by
  have h1 := tail_le r
  unfold thingP at h
  split at h
  · exact lit_le h
  · split at h
    · have := arr_le hf _ _ _ _ _ _ h
      omega
    · split at h
      · split at h
        · rename_i y r2 hy
          have h2 := hf _ _ _ _ hy
          have h3 := blk_le r2
          have h4 := tail_le (blk r2)
          split at h
          · injection h with _ h
            subst h
            omega
          · cases h
        · rename_i hy
          exact absurd h (hy _ _)
      · split at h
        · split at h
          · rename_i t rest2 hq
            have h2 := quo_le _ _ _ _ hq
            have h3 := tail_le rest2
            split at h
            · have := place_le h
              omega
            · cases h
          · cases h
        · exact word_le hf h
theorem signed_le {f : Nat → List UInt8 → R} (hf : Shr f) : ∀ (k d : Nat) (r rest : List UInt8) (x : Ex), signedA f k d r = .ok x rest → rest.length ≤ r.length
  | 0, _, _, _, _, h => by cases h
  | k + 1, d, r, rest, x, h => by
    have h1 := blk_le r
    have h2 := tail_le (blk r)
    unfold signedA at h
    split at h
    · split at h
      · cases h
      · split at h
        · rename_i y rest2 hy
          have := signed_le hf k _ _ _ _ hy
          injection h with _ h
          subst h
          omega
        · rename_i hy
          exact absurd h (hy _ _)
    · have := thing_le hf h
      omega
theorem pctL_le : ∀ (k : Nat) (y : Ex) (r rest : List UInt8) (x : Ex), pctL k y r = .ok x rest → rest.length ≤ r.length
  | 0, _, _, _, _, h => by cases h
  | k + 1, y, r, rest, x, h => by
    have h1 := blk_le r
    have h2 := tail_le (blk r)
    unfold pctL at h
    split at h
    · have := pctL_le k _ _ _ _ h
      omega
    · injection h with _ h
      subst h
      exact h1
theorem pct_le {f : Nat → List UInt8 → R} (hf : Shr f) {d : Nat} {r rest : List UInt8} {x : Ex} (h : pctP f d r = .ok x rest) : rest.length ≤ r.length := by
  unfold pctP at h
  split at h
  · rename_i y r1 hy
    have h1 := signed_le hf _ _ _ _ _ hy
    have h2 := pctL_le _ _ _ _ _ h
    omega
  · rename_i hy
    exact absurd h (hy _ _)
theorem ops_le {f : List UInt8 → R} (hf : ∀ r x r2, f r = .ok x r2 → r2.length ≤ r.length) {n : Nat} : ∀ (k : Nat) (y : Ex) (r rest : List UInt8) (x : Ex), opsP f n k y r = .ok x rest → rest.length ≤ r.length
  | 0, _, _, _, _, h => by cases h
  | k + 1, y, r, rest, x, h => by
    have h1 := blk_le r
    unfold opsP at h
    split at h
    · injection h with _ h
      subst h
      exact h1
    · rename_i o ho
      split at h
      · rename_i z r2 hz
        have h2 := hf _ _ _ hz
        have h3 := ops_le hf k _ _ _ _ h
        simp at h2
        omega
      · rename_i hz
        exact absurd h (hz _ _)
theorem lv_le : ∀ (k n d : Nat) (r rest : List UInt8) (x : Ex), lv k n d r = .ok x rest → rest.length ≤ r.length
  | 0, _, _, _, _, _, h => by cases h
  | k + 1, n, d, r, rest, x, h => by
    unfold lv at h
    split at h
    · exact pct_le (fun d r x r2 h => lv_le k 1 d r r2 x h) h
    · split at h
      · cases h
      · split at h
        · rename_i y r1 hy
          have h1 := lv_le k _ _ _ _ _ hy
          have h2 := ops_le (fun r x r2 h => lv_le k (n + 1) (d + 1) r r2 x h) _ _ _ _ _ h
          omega
        · rename_i hy
          exact absurd h (hy _ _)

end Go.Proofs.YtfeffdjnjckjaaaGreatDoor.Rg
