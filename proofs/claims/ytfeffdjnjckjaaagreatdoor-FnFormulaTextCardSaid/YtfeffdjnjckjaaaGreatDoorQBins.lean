/- Every tree that is read has operators of two alone where it has two parts, and no more parts than bytes. -/
import Derived.Test.YtfeffdjnjckjaaaGreatDoorJForth
import Derived.Test.YtfeffdjnjckjaaaGreatDoorJTot
namespace Go.Proofs.YtfeffdjnjckjaaaGreatDoor.Rg
open Go.RowKit

mutual
def binX : Ex → Prop
  | .bin o a b => o ∈ opsL ∧ binX a ∧ binX b
  | .call _ kids => kids.length ≤ 10000 ∧ binL kids
  | .num _ => True
  | .truth _ => True
  | .err _ => True
  | .name _ => True
  | .cell _ _ _ _ _ => True
  | .area _ _ _ _ _ _ _ _ _ => True
  | .odd => True
def binL : List Ex → Prop
  | [] => True
  | x :: l => binX x ∧ binL l
end
def BinF (f : Nat → List UInt8 → R) : Prop := ∀ d r x r', r.length ≤ 10000 → f d r = .ok x r' → binX x
theorem bin_odd : binX .odd := by unfold binX; trivial
theorem binL_app : ∀ (a b : List Ex), binL (a ++ b) ↔ binL a ∧ binL b
  | [], b => by
    rw [binL]
    simp
  | x :: a, b => by
    show binL (x :: (a ++ b)) ↔ _
    rw [binL, binL, binL_app a b, and_assoc]
theorem num_b (r r' : List UInt8) (x : Ex) (h : numP r = .ok x r') : binX x := by
  unfold numP at h
  simp only at h
  split at h
  · cases h
  · injection h with h1 _
    subst h1
    unfold binX
    trivial
theorem fail_b (r r' : List UInt8) (x : Ex) (h : failP r = .ok x r') : binX x := by
  unfold failP at h
  split at h
  · injection h with h1 _
    subst h1
    unfold binX
    trivial
  · cases h
theorem place_b (s r r' : List UInt8) (x : Ex) (h : placeP s r = .ok x r') : binX x := by
  unfold placeP at h
  simp only at h
  split at h
  · cases h
  · split at h
    · split at h
      · cases h
      · injection h with h1 _
        subst h1
        unfold binX
        trivial
    · injection h with h1 _
      subst h1
      unfold binX
      trivial
theorem lit_b (r r' : List UInt8) (x : Ex) (h : litP r = .ok x r') : binX x := by
  unfold litP at h
  split at h
  · exact num_b _ _ _ h
  · split at h
    · split at h
      · injection h with h1 _
        subst h1
        exact bin_odd
      · cases h
    · exact fail_b _ _ _ h
theorem args_b (f : Nat → List UInt8 → R) (hs : Shr f) (hf : BinF f) (d : Nat) : ∀ (k : Nat) (acc l : List Ex) (r rest : List UInt8), binL acc → r.length ≤ 10000 → argsP f d k acc r = .ok l rest → binL l ∧ l.length + rest.length ≤ acc.length + r.length
  | 0, _, _, _, _, _, _, h => by cases h
  | k + 1, acc, l, r, rest, ha, hr, h => by
    have hb := blk_le r
    unfold argsP at h
    split at h
    · cases h
    · cases h
    · rename_i x r2 he
      have hb2 := blk_le r2
      have key : binX x ∧ r2.length ≤ r.length := by
        split at he
        · injection he with e1 e2
          subst e1
          subst e2
          exact ⟨bin_odd, hb⟩
        · exact ⟨hf d _ x r2 (by omega) he, Nat.le_trans (hs _ _ _ _ he) hb⟩
      have hacc : binL (acc ++ [x]) := (binL_app _ _).2 ⟨ha, by
        rw [binL]
        exact ⟨key.1, by rw [binL]; trivial⟩⟩
      split at h
      · rename_i h41
        have h3 := tail_lt' h41 (by decide)
        injection h with h1 h2
        subst h1
        subst h2
        refine ⟨hacc, ?_⟩
        simp
        have := key.2
        simp at h3
        omega
      · split at h
        · rename_i h44
          have h3 := tail_lt' h44 (by decide)
          have hk := key.2
          obtain ⟨i1, i2⟩ := args_b f hs hf d k _ l _ rest hacc (by omega) h
          refine ⟨i1, ?_⟩
          rw [List.length_append, List.length_singleton] at i2
          omega
        · cases h
theorem call_b (f : Nat → List UInt8 → R) (hs : Shr f) (hf : BinF f) (d : Nat) (t r r' : List UInt8) (x : Ex) (hr : r.length ≤ 10000) (h : callP f t d r = .ok x r') : binX x := by
  have hb := blk_le r.tail
  have ht := tail_le r
  unfold callP at h
  split at h
  · injection h with h1 _
    subst h1
    unfold binX
    exact ⟨by simp, by unfold binL; trivial⟩
  · split at h
    · cases h
    · cases h
    · rename_i l rest he
      injection h with h1 _
      subst h1
      obtain ⟨i1, i2⟩ := args_b f hs hf d _ [] l _ rest (by unfold binL; trivial) (by omega) he
      unfold binX
      simp only [List.length_nil, Nat.zero_add] at i2
      exact ⟨by omega, i1⟩
theorem word_b (f : Nat → List UInt8 → R) (hs : Shr f) (hf : BinF f) (d : Nat) (r r' : List UInt8) (x : Ex) (hr : r.length ≤ 10000) (h : wordP f d r = .ok x r') : binX x := by
  have hd := (List.dropWhile_suffix (l := r) isNamed).length_le
  unfold wordP at h
  split at h
  · exact place_b _ _ _ _ h
  · split at h
    · cases h
    · split at h
      · exact call_b f hs hf d _ _ _ _ (by omega) h
      · split at h
        · exact place_b _ _ _ _ h
        · split at h
          · injection h with h1 _
            subst h1
            unfold binX
            trivial
          · split at h
            · injection h with h1 _
              subst h1
              unfold binX
              trivial
            · exact place_b _ _ _ _ h
theorem thing_b (f : Nat → List UInt8 → R) (hs : Shr f) (hf : BinF f) (d : Nat) (r r' : List UInt8) (x : Ex) (hr : r.length ≤ 10000) (h : thingP f d r = .ok x r') : binX x := by
  have ht := tail_le r
  unfold thingP at h
  split at h
  · exact lit_b _ _ _ h
  · split at h
    · rw [arr_odd f d _ _ _ _ _ _ h]
      exact bin_odd
    · split at h
      · split at h
        · rename_i y r2 he
          split at h
          · injection h with h1 _
            subst h1
            exact hf d _ y r2 (by omega) he
          · cases h
        · rename_i hno
          exact absurd h (hno _ _)
      · split at h
        · split at h
          · split at h
            · exact place_b _ _ _ _ h
            · cases h
          · cases h
        · exact word_b f hs hf d _ _ _ hr h
theorem signed_b (f : Nat → List UInt8 → R) (hs : Shr f) (hf : BinF f) (k d : Nat) (r r' : List UInt8) (x : Ex) (hr : r.length ≤ 10000) (h : signedA f k d r = .ok x r') : binX x := by
  cases k with
  | zero => cases h
  | succ k =>
    have hb := blk_le r
    unfold signedA at h
    split at h
    · split at h
      · cases h
      · split at h
        · injection h with h1 _
          subst h1
          exact bin_odd
        · rename_i hno
          exact absurd h (hno _ _)
    · exact thing_b f hs hf d _ _ _ (by omega) h
theorem pct_b (f : Nat → List UInt8 → R) (hs : Shr f) (hf : BinF f) (d : Nat) (r r' : List UInt8) (x : Ex) (hr : r.length ≤ 10000) (h : pctP f d r = .ok x r') : binX x := by
  unfold pctP at h
  split at h
  · rename_i y r1 he
    rcases pctL_same _ _ _ _ _ h with ⟨rfl, _⟩ | hx
    · exact signed_b f hs hf _ d _ _ _ hr he
    · rw [hx]
      exact bin_odd
  · rename_i hno
    exact absurd h (hno _ _)
theorem ops_b (h : List UInt8 → R) (hs : ∀ r x r', h r = .ok x r' → r'.length ≤ r.length) (hh : ∀ r x r', r.length ≤ 10000 → h r = .ok x r' → binX x) (n : Nat) : ∀ (k : Nat) (y x : Ex) (r rest : List UInt8), binX y → r.length ≤ 10000 → opsP h n k y r = .ok x rest → binX x
  | 0, _, _, _, _, _, _, he => by cases he
  | k + 1, y, x, r, rest, hy, hr, he => by
    have hb := blk_le r
    unfold opsP at he
    split at he
    · injection he with e1 _
      subst e1
      exact hy
    · rename_i o hop
      have hm := List.mem_of_find?_eq_some hop
      have hdl : ((blk r).drop o.length).length ≤ 10000 := by
        rw [List.length_drop]
        omega
      split at he
      · rename_i z r2 hz
        have := hs _ _ _ hz
        exact ops_b h hs hh n k _ x r2 rest (by unfold binX; exact ⟨hm, hy, hh _ _ _ hdl hz⟩) (by omega) he
      · rename_i hno
        exact absurd he (hno _ _)
theorem lv_b : ∀ (k n d : Nat) (r r' : List UInt8) (x : Ex), r.length ≤ 10000 → lv k n d r = .ok x r' → binX x
  | 0, _, _, _, _, _, _, h => by cases h
  | k + 1, n, d, r, r', x, hr, h => by
    have hs : Shr (fun d r => lv k 1 d r) := fun d r x r' h => lv_le k 1 d r r' x h
    have hf : BinF (fun d r => lv k 1 d r) := fun d r x r' hr h => lv_b k 1 d r r' x hr h
    unfold lv at h
    split at h
    · exact pct_b _ hs hf d _ _ _ hr h
    · split at h
      · cases h
      · split at h
        · rename_i y r1 hy
          have h1 := lv_le _ _ _ _ _ _ hy
          exact ops_b _ (fun r x r' h => lv_le k (n + 1) (d + 1) r r' x h) (fun r x r' hr h => lv_b k (n + 1) (d + 1) r r' x hr h) n _ y x r1 r' (lv_b k (n + 1) (d + 1) _ _ _ hr hy) (by omega) h
        · rename_i hno
          exact absurd h (hno _ _)

end Go.Proofs.YtfeffdjnjckjaaaGreatDoor.Rg
