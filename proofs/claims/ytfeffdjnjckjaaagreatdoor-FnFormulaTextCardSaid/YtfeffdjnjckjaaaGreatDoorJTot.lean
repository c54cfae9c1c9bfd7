/- The reader ends. -/
import Derived.Test.YtfeffdjnjckjaaaGreatDoorPLevel
/- The reader's levels, at every depth and any number of rounds. -/
namespace Go.Proofs.YtfeffdjnjckjaaaGreatDoor.Rg
open Go.RowKit

theorem lvlOk_of {k : Nat} (h : LvOk k) : LvlOk (fun d r => lv k 1 d r) where
  run := fun g s r d w hA hd ho => h 1 g s r d w hA hd (Nat.le_refl _) (by decide) ho
  shr := fun d r x r2 h => lv_le k 1 d r r2 x h

theorem lv_ok : ∀ k : Nat, LvOk k
  | 0 => fun n g s r d w _ _ _ _ ho => absurd rfl ho
  | k + 1 => fun n g s r d w hA hd h1 h6 ho => by
    by_cases hn : 5 < n
    · exact level_top k (lvlOk_of (lv_ok k)) n hn h6 g s r d w hA hd ho
    · exact level_step k (lv_ok k) n h1 (by omega) g s r d w hA hd ho

end Go.Proofs.YtfeffdjnjckjaaaGreatDoor.Rg

/- The reader of formulas ends: enough rounds, an answer. -/
namespace Go.Proofs.YtfeffdjnjckjaaaGreatDoor.Rg
open Go.RowKit

theorem tail_lt {r : List UInt8} {c : UInt8} (h : pk r = c) (hc : c ≠ 0) : r.tail.length < r.length := by
  cases r with
  | nil => exact absurd h.symm hc
  | cons a l => simp
theorem num_tot (r : List UInt8) : numP r ≠ .out := by
  unfold numP
  simp only
  split <;> simp
theorem fail_tot (r : List UInt8) : failP r ≠ .out := by
  unfold failP
  split <;> simp
theorem place_tot (s r : List UInt8) : placeP s r ≠ .out := by
  unfold placeP
  simp only
  split
  · simp
  · split
    · split <;> simp
    · simp
theorem lit_tot (r : List UInt8) : litP r ≠ .out := by
  unfold litP
  split
  · exact num_tot r
  · split
    · split <;> simp
    · exact fail_tot r
theorem args_tot {f : Nat → List UInt8 → R} (hf : Shr f) {d L : Nat} (ht : ∀ r, r.length ≤ L → f d r ≠ .out) : ∀ (k : Nat) (acc : List Ex) (r : List UInt8), r.length < k → r.length ≤ L → argsP f d k acc r ≠ .out
  | 0, _, _, h, _ => absurd h (Nat.not_lt_zero _)
  | k + 1, acc, r, h, hL => by
    unfold argsP
    have hb := blk_le r
    have key : ∀ (x : Ex) (r2 : List UInt8), r2.length ≤ r.length → (if pk (blk r2) = 41 then RL.ok (acc ++ [x]) (blk r2).tail else if pk (blk r2) = 44 then argsP f d k (acc ++ [x]) (blk r2).tail else .bad) ≠ .out := by
      intro x r2 h2
      have hb2 := blk_le r2
      split
      · simp
      · split
        · rename_i h44
          have h3 := tail_lt h44 (by decide)
          exact args_tot hf ht k _ _ (by omega) (by omega)
        · simp
    split
    · rename_i he
      split at he
      · cases he
      · exact absurd he (ht _ (by omega))
    · simp
    · rename_i x r2 he
      refine key x r2 ?_
      split at he
      · cases he
        exact hb
      · exact Nat.le_trans (hf _ _ _ _ he) hb
theorem call_tot {f : Nat → List UInt8 → R} (hf : Shr f) {d : Nat} {name r : List UInt8} (hr : pk r = 40) (ht : ∀ r2, r2.length < r.length → f d r2 ≠ .out) : callP f name d r ≠ .out := by
  have h1 := tail_lt hr (by decide)
  have h2 := blk_le r.tail
  unfold callP
  split
  · simp
  · split
    · rename_i he
      exact absurd he (args_tot hf (L := r.length - 1) (fun q hq => ht q (by omega)) _ _ _ (by omega) (by omega))
    · simp
    · simp
theorem word_tot {f : Nat → List UInt8 → R} (hf : Shr f) {d : Nat} {r : List UInt8} (ht : ∀ r2, r2.length < r.length → f d r2 ≠ .out) : wordP f d r ≠ .out := by
  have h1 := (List.dropWhile_suffix (l := r) isNamed).length_le
  unfold wordP
  split
  · exact place_tot _ _
  · split
    · simp
    · split
      · rename_i h40
        exact call_tot hf h40 (fun q hq => ht q (by omega))
      · split
        · exact place_tot _ _
        · split
          · simp
          · split
            · simp
            · exact place_tot _ _
theorem const_tot {f : Nat → List UInt8 → R} (hf : Shr f) {d : Nat} {r : List UInt8} (ht : ∀ r2, r2.length < r.length → f d r2 ≠ .out) : constP f d r ≠ .out := by
  have h1 := blk_le r
  unfold constP
  split
  · split
    · simp
    · split
      · simp
      · exact num_tot _
  · split
    · exact lit_tot _
    · split
      · simp
      · rename_i he
        exact absurd he (word_tot hf (fun q hq => ht q (by omega)))
      · simp
theorem arr_tot {f : Nat → List UInt8 → R} (hf : Shr f) {d L : Nat} (ht : ∀ r2, r2.length < L → f d r2 ≠ .out) : ∀ (k wide n : Nat) (r : List UInt8), r.length < k → r.length ≤ L → arrA f d k wide n r ≠ .out
  | 0, _, _, _, h, _ => absurd h (Nat.not_lt_zero _)
  | k + 1, wide, n, r, h, hL => by
    unfold arrA
    split
    · rename_i he
      exact absurd he (const_tot hf (fun q hq => ht q (by omega)))
    · simp
    · rename_i x r1 he
      have h1 := const_le hf he
      have h2 := blk_le r1
      split
      · rename_i h44
        have h3 := tail_lt h44 (by decide)
        exact arr_tot hf ht k _ _ _ (by omega) (by omega)
      · split
        · simp
        · split
          · simp
          · split
            · rename_i h59
              have h3 := tail_lt h59 (by decide)
              exact arr_tot hf ht k _ _ _ (by omega) (by omega)
            · simp
theorem thing_tot {f : Nat → List UInt8 → R} (hf : Shr f) {d : Nat} {r : List UInt8} (ht : ∀ r2, r2.length < r.length → f d r2 ≠ .out) : thingP f d r ≠ .out := by
  unfold thingP
  split
  · exact lit_tot r
  · split
    · rename_i h123
      have h3 := tail_lt h123 (by decide)
      exact arr_tot hf ht _ _ _ _ (by omega) (by omega)
    · split
      · rename_i h40
        have h3 := tail_lt h40 (by decide)
        split
        · split <;> simp
        · exact ht _ h3
      · split
        · split
          · split
            · exact place_tot _ _
            · simp
          · simp
        · exact word_tot hf ht
theorem signed_tot {f : Nat → List UInt8 → R} (hf : Shr f) {L : Nat} (ht : ∀ d r2, r2.length < L → f d r2 ≠ .out) : ∀ (k d : Nat) (r : List UInt8), r.length < k → r.length ≤ L → signedA f k d r ≠ .out
  | 0, _, _, h, _ => absurd h (Nat.not_lt_zero _)
  | k + 1, d, r, h, hL => by
    have h1 := blk_le r
    unfold signedA
    split
    · rename_i hs
      have h3 : (blk r).tail.length < (blk r).length := by
        rcases hs with h | h
        · exact tail_lt h (by decide)
        · exact tail_lt h (by decide)
      split
      · simp
      · split
        · simp
        · exact signed_tot hf ht k _ _ (by omega) (by omega)
    · exact thing_tot hf (fun q hq => ht d q (by omega))
theorem pctL_tot : ∀ (k : Nat) (x : Ex) (r : List UInt8), r.length < k → pctL k x r ≠ .out
  | 0, _, _, h => absurd h (Nat.not_lt_zero _)
  | k + 1, x, r, h => by
    have h1 := blk_le r
    unfold pctL
    split
    · rename_i h37
      have h3 := tail_lt h37 (by decide)
      exact pctL_tot k _ _ (by omega)
    · simp
theorem pct_tot {f : Nat → List UInt8 → R} (hf : Shr f) {d : Nat} {r : List UInt8} (ht : ∀ d r2, r2.length < r.length → f d r2 ≠ .out) : pctP f d r ≠ .out := by
  unfold pctP
  split
  · exact pctL_tot _ _ _ (by omega)
  · exact signed_tot hf ht _ _ _ (by omega) (Nat.le_refl _)
theorem ops_tot {f : List UInt8 → R} (hf : ∀ r x r2, f r = .ok x r2 → r2.length ≤ r.length) {n L : Nat} (ht : ∀ r, r.length ≤ L → f r ≠ .out) : ∀ (k : Nat) (x : Ex) (r : List UInt8), r.length < k → r.length ≤ L → opsP f n k x r ≠ .out
  | 0, _, _, h, _ => absurd h (Nat.not_lt_zero _)
  | k + 1, x, r, h, hL => by
    have h1 := blk_le r
    unfold opsP
    split
    · simp
    · rename_i o ho
      have h2 := op_drop ho
      split
      · rename_i y r2 he
        have h3 := hf _ _ _ he
        exact ops_tot hf ht k _ _ (by omega) (by omega)
      · exact ht _ (by omega)
/-- So many rounds do. -/
theorem lv_tot : ∀ (k n d : Nat) (r : List UInt8), 7 * r.length + 7 ≤ k + n → 1 ≤ n → n ≤ 6 → lv k n d r ≠ .out
  | 0, n, d, r, h, h1, h6 => by omega
  | k + 1, n, d, r, h, h1, h6 => by
    unfold lv
    split
    · exact pct_tot (fun d r x r2 h => lv_le k 1 d r r2 x h) (fun d r2 h2 => lv_tot k 1 d r2 (by omega) (by omega) (by omega))
    · split
      · simp
      · split
        · rename_i x r1 he
          have h2 := lv_le _ _ _ _ _ _ he
          exact ops_tot (L := r1.length) (fun r x r2 h => lv_le k (n + 1) (d + 1) r r2 x h) (fun q hq => lv_tot k (n + 1) (d + 1) q (by omega) (by omega) (by omega)) _ _ _ (by omega) (Nat.le_refl _)
        · exact lv_tot k (n + 1) (d + 1) r (by omega) (by omega) (by omega)

end Go.Proofs.YtfeffdjnjckjaaaGreatDoor.Rg
