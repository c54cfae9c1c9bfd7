/- What was read is as it should be. -/
import Derived.Test.YtfeffdjnjckjaaaGreatDoorJBack
import Derived.Test.YtfeffdjnjckjaaaGreatDoorJShr
/- What was read is as it should be: the parts without operators. -/
namespace Go.Proofs.YtfeffdjnjckjaaaGreatDoor.Rg
open Go.RowKit

mutual
/-- A tree with a collapsed part. -/
def oddX : Ex → Bool
  | .odd => true
  | .call _ kids => oddL kids
  | .bin _ a b => oddX a || oddX b
  | .num _ => false
  | .truth _ => false
  | .err _ => false
  | .name _ => false
  | .cell _ _ _ _ _ => false
  | .area _ _ _ _ _ _ _ _ _ => false
def oddL : List Ex → Bool
  | [] => false
  | x :: l => oddX x || oddL l
end
/-- A part that was read at a level, with so much consumed. -/
structure Good (n d : Nat) (x : Ex) (r r' : List UInt8) : Prop where
  ok : okX x
  fit : fit n d x
  len : (prt n x).length + 15 * r'.length ≤ 15 * r.length
def Sound (f : Nat → List UInt8 → R) : Prop := ∀ d r x r', d ≤ 360 → r.length ≤ 500 → f d r = .ok x r' → oddX x = false → Good 1 d x r r'

theorem split_app (p : UInt8 → Bool) (r : List UInt8) (h0 : p 0 = false) : ∃ a b, r = a ++ b ∧ (∀ c ∈ a, p c = true) ∧ p (pk b) = false ∧ r.takeWhile p = a ∧ r.dropWhile p = b := by
  induction r with
  | nil => exact ⟨[], [], rfl, by simp, h0, rfl, rfl⟩
  | cons c r ih =>
    by_cases hc : p c = true
    · obtain ⟨a, b, h1, h2, h3, h4, h5⟩ := ih
      refine ⟨c :: a, b, by rw [h1]; rfl, ?_, h3, ?_, ?_⟩
      · intro x hx
        rcases List.mem_cons.1 hx with rfl | hx
        · exact hc
        · exact h2 x hx
      · rw [List.takeWhile_cons, if_pos hc, h4]
      · rw [List.dropWhile_cons, if_pos hc, h5]
    · have hc : p c = false := by simpa using hc
      refine ⟨[], c :: r, rfl, by simp, hc, ?_, ?_⟩
      · rw [List.takeWhile_cons, if_neg (by simp [hc])]
      · rw [List.dropWhile_cons, if_neg (by simp [hc])]

/-- A number that was read. -/
theorem num_good (d : Nat) (r r' : List UInt8) (x : Ex) (hd : d ≤ 360) (hp : isNum (pk r) = true) (h : numP r = .ok x r') : Good 6 d x r r' := by
  obtain ⟨a, b, hr, ha, hb, _, hdw⟩ := split_app isNum r (by decide)
  have ha0 : a ≠ [] := by
    rintro rfl
    rw [hr] at hp
    rw [show pk ([] ++ b) = pk b from rfl, hb] at hp
    cases hp
  unfold numP at h
  rw [hdw] at h
  simp only at h
  by_cases h46 : pk b = 46
  · obtain ⟨c, hc⟩ : ∃ c, b = 46 :: c := ⟨b.tail, by rw [pk_cons (r := b) (by rw [h46]; decide), h46]; rfl⟩
    subst hc
    obtain ⟨a2, b2, hr2, ha2, hb2, _, hdw2⟩ := split_app isNum c (by decide)
    have hnr : numRest (46 :: c) = b2 := by
      unfold numRest
      rw [pkc, if_pos rfl, List.tail_cons, hdw2]
    rw [hnr] at h
    by_cases hbad : numBad (46 :: c) = true ∨ 15 < r.length - b2.length
    · rw [if_pos hbad] at h
      cases h
    · rw [if_neg hbad] at h
      injection h with h1 h2
      subst h2
      have hbad2 : numBad (46 :: c) = false := by simpa using fun q => hbad (.inl q)
      have hn2 : isNum (pk c) = true := by
        unfold numBad at hbad2
        simp only [List.tail_cons, pkc] at hbad2
        simpa using hbad2
      have ha20 : a2 ≠ [] := by
        rintro rfl
        rw [hr2] at hn2
        rw [show pk ([] ++ b2) = pk b2 from rfl, hb2] at hn2
        cases hn2
      have hlen : r.length - b2.length = (a ++ 46 :: a2).length := by
        rw [hr, hr2]
        simp
        omega
      have ht : r.take (r.length - b2.length) = a ++ 46 :: a2 := by
        rw [hlen, hr, hr2]
        have e : a ++ 46 :: (a2 ++ b2) = (a ++ 46 :: a2) ++ b2 := by simp
        rw [e, List.take_left]
      rw [ht] at h1
      subst h1
      rw [hlen] at hbad
      have h15 : (a ++ 46 :: a2).length ≤ 15 := by omega
      have hrl : r.length = (a ++ 46 :: a2).length + b2.length := by
        rw [hr, hr2]
        simp
        omega
      refine ⟨?_, ?_, ?_⟩
      · unfold okX
        refine ⟨?_, by omega, ?_⟩
        · rw [pk_app ha0]
          exact ha _ (pk_mem ha0)
        · intro rest hs
          have e : a ++ 46 :: a2 ++ rest = a ++ 46 :: (a2 ++ rest) := by simp
          have t1 := (take_app (p := isNum) a (46 :: (a2 ++ rest)) ha (show isNum 46 = false by decide) (by decide)).2
          have t2 := (take_app (p := isNum) a2 rest ha2 (num_of_named hs.named) (by decide)).2
          have t3 : numRest (46 :: (a2 ++ rest)) = rest := by
            unfold numRest
            rw [pkc, if_pos rfl, List.tail_cons, t2]
          have t4 : numBad (46 :: (a2 ++ rest)) = false := by
            unfold numBad
            rw [List.tail_cons, pk_app ha20, ha2 _ (pk_mem ha20)]
            simp
          unfold numP
          rw [e, t1]
          simp only [t3, t4]
          have t5 : (a ++ 46 :: (a2 ++ rest)).length - rest.length = (a ++ 46 :: a2).length := by
            simp
            omega
          rw [t5, if_neg (by simp at h15 ⊢; omega), ← e, List.take_left]
      · unfold fit
        omega
      · unfold prt
        omega
  · have hnr : numRest b = b := by
      unfold numRest
      rw [if_neg h46]
    rw [hnr] at h
    by_cases hbad : numBad b = true ∨ 15 < r.length - b.length
    · rw [if_pos hbad] at h
      cases h
    · rw [if_neg hbad] at h
      injection h with h1 h2
      subst h2
      have hlen : r.length - b.length = a.length := by
        rw [hr]
        simp
      have ht : r.take (r.length - b.length) = a := by
        rw [hlen, hr, List.take_left]
      rw [ht] at h1
      subst h1
      have h15 : a.length ≤ 15 := by omega
      have hrl : r.length = a.length + b.length := by
        rw [hr]
        simp
      refine ⟨?_, ?_, ?_⟩
      · unfold okX
        refine ⟨ha _ (pk_mem ha0), by omega, ?_⟩
        intro rest hs
        have t1 := (take_app (p := isNum) a rest ha (num_of_named hs.named) (by decide)).2
        have h46 : pk rest ≠ 46 := by
          intro q
          have := hs.named
          rw [q] at this
          revert this
          decide
        have t3 : numRest rest = rest := by
          unfold numRest
          rw [if_neg h46]
        have t4 : numBad rest = false := by
          unfold numBad
          simp [h46]
        unfold numP
        rw [t1]
        simp only [t3, t4]
        have t5 : (a ++ rest).length - rest.length = a.length := by simp
        rw [t5, if_neg (by simp; omega), List.take_left]
      · unfold fit
        omega
      · unfold prt
        omega

theorem fail_good (d : Nat) (r r' : List UInt8) (x : Ex) (hd : d ≤ 360) (h : failP r = .ok x r') : Good 6 d x r r' := by
  unfold failP at h
  split at h
  · rename_i t ht
    injection h with h1 h2
    subst h1
    subst h2
    have hm := List.mem_of_find?_eq_some ht
    have hp := List.find?_some ht
    have hp : t <+: r := by simpa using hp
    obtain ⟨s, hs⟩ := hp
    refine ⟨?_, ?_, ?_⟩
    · unfold okX
      exact hm
    · unfold fit
      omega
    · unfold prt
      rw [← hs]
      simp
      omega
  · cases h

theorem lets_pos : ∀ (k c n : Nat) (r : List UInt8), (n = 0 ∨ 1 ≤ c) → ((letsA k c n r).2.1 = 0 ∨ 1 ≤ (letsA k c n r).1) ∧ (letsA k c n r).2.2.length + (letsA k c n r).2.1 ≤ r.length + n
  | 0, c, n, r, h => ⟨h, by unfold letsA; exact Nat.le_refl _⟩
  | k + 1, c, n, r, h => by
    unfold letsA
    split
    · rename_i ha
      have hr := pk_cons (alpha_pos ha)
      have hl : r.length = r.tail.length + 1 := by
        rw [hr]
        simp
      have ih := lets_pos k (26 * c + colOf (pk r)) (n + 1) r.tail (.inr (by unfold colOf; omega))
      exact ⟨ih.1, by omega⟩
    · exact ⟨h, Nat.le_refl _⟩
/-- A cell that was read. -/
theorem cell_good (r : List UInt8) (s : List UInt8) (hs : s.length ≤ 500) (h : (cellP r).ok = true) : CellOk s (cellP r).col (cellP r).row ∧ (cellP r).rest.length + 1 ≤ r.length := by
  have hl := lets_pos 4 0 0 (dol r).2 (.inl rfl)
  have hdl := dol_le r
  unfold cellP at h ⊢
  generalize dol r = D at *
  obtain ⟨fa, r1⟩ := D
  simp only at *
  generalize letsA 4 0 0 r1 = A at *
  obtain ⟨c, n, r2⟩ := A
  simp only at *
  by_cases hn : n = 0 ∨ c > 16384
  · rw [if_pos hn] at h
    cases h
  · rw [if_neg hn] at h ⊢
    have hd2 := dol_le r2
    generalize dol r2 = D at *
    obtain ⟨fb, r3⟩ := D
    simp only at *
    have hd3 := digs_le 8 0 0 r3
    generalize digsA 8 0 0 r3 = A at *
    obtain ⟨row, m, r4⟩ := A
    simp only at *
    simp only [Bool.and_eq_true, decide_eq_true_eq] at h
    refine ⟨⟨?_, ?_, ?_, ?_, hs⟩, ?_⟩
    · omega
    · omega
    · omega
    · omega
    · omega
theorem dbl_len (m : UInt8) : ∀ l : List UInt8, (dbl m l).length ≤ 2 * l.length
  | [] => by simp [dbl]
  | c :: l => by
    have := dbl_len m l
    unfold dbl
    split <;> simp <;> omega
theorem sheetT_len (s : List UInt8) : (sheetT s).length ≤ 2 * s.length + 3 := by
  have := dbl_len 39 s
  unfold sheetT
  split
  · simp
  · split <;> simp <;> omega
/-- A cell or an area that was read. -/
theorem place_good (d : Nat) (s r r' : List UInt8) (x : Ex) (hd : d ≤ 360) (hs : s.length ≤ 500) (h : placeP s r = .ok x r') : okX x ∧ fit 6 d x ∧ (prt 6 x).length + 15 * r'.length ≤ (sheetT s).length + 15 * r.length := by
  unfold placeP at h
  simp only at h
  by_cases h1 : (cellP r).ok = false ∨ isNamed (pk (cellP r).rest) = true
  · rw [if_pos h1] at h
    cases h
  · rw [if_neg h1] at h
    have hok : (cellP r).ok = true := by
      cases q : (cellP r).ok with
      | true => rfl
      | false => exact absurd (.inl q) h1
    obtain ⟨hc, hl⟩ := cell_good r s hs hok
    have hlen := cornerT_len (cellP r).col (cellP r).row (cellP r).fa (cellP r).fb hc.c1 hc.c2 hc.r2
    by_cases h2 : pk (cellP r).rest = 58
    · rw [if_pos h2] at h
      by_cases h3 : (cellP (cellP r).rest.tail).ok = false ∨ isNamed (pk (cellP (cellP r).rest.tail).rest) = true
      · rw [if_pos h3] at h
        cases h
      · rw [if_neg h3] at h
        have hok2 : (cellP (cellP r).rest.tail).ok = true := by
          cases q : (cellP (cellP r).rest.tail).ok with
          | true => rfl
          | false => exact absurd (.inl q) h3
        obtain ⟨hc2, hl2⟩ := cell_good _ s hs hok2
        have hlen2 := cornerT_len (cellP (cellP r).rest.tail).col (cellP (cellP r).rest.tail).row (cellP (cellP r).rest.tail).fa (cellP (cellP r).rest.tail).fb hc2.c1 hc2.c2 hc2.r2
        injection h with e1 e2
        subst e1
        subst e2
        have ht := tail_le (cellP r).rest
        refine ⟨?_, ?_, ?_⟩
        · unfold okX
          exact ⟨hc, hc2⟩
        · unfold fit
          omega
        · unfold prt
          simp only [List.length_append, List.length_cons]
          omega
    · rw [if_neg h2] at h
      injection h with e1 e2
      subst e1
      subst e2
      refine ⟨?_, ?_, ?_⟩
      · unfold okX
        exact hc
      · unfold fit
        omega
      · unfold prt
        simp only [List.length_append]
        omega
theorem quo_len {m : UInt8} : ∀ (acc r t rest : List UInt8), quoA m acc r = some (t, rest) → t.length + rest.length + 1 ≤ acc.length + r.length
  | acc, [], t, rest, h => by simp [quoA] at h
  | acc, [c], t, rest, h => by
    rw [quoA] at h
    split at h
    · injection h with h
      injection h with h1 h2
      subst h1
      subst h2
      simp
    · cases h
  | acc, c :: c2 :: l, t, rest, h => by
    rw [quoA] at h
    split at h
    · split at h
      · have := quo_len _ _ _ _ h
        simp at this ⊢
        omega
      · injection h with h
        injection h with h1 h2
        subst h1
        subst h2
        simp
        omega
    · have := quo_len _ _ _ _ h
      simp at this ⊢
      omega
/-- Whether a word is a cell, whatever stands behind it. -/
theorem cell_app2 (t rest : List UInt8) (ht : ∀ x ∈ t, isNamed x = true) (h0 : t ≠ []) (hn : isNamed (pk rest) = false) :
    (cellP t).ok = false ∨ ((cellP (t ++ rest)).ok = (cellP t).ok ∧ (cellP (t ++ rest)).rest = (cellP t).rest ++ rest) := by
  have hp : pk (t ++ rest) ≠ 36 := by
    rw [pk_app h0]
    intro q
    have := ht _ (pk_mem h0)
    rw [q] at this
    revert this
    decide
  have hp2 : pk t ≠ 36 := by
    rw [pk_app h0] at hp
    exact hp
  have hl := lets_app 4 0 0 t rest ht (alpha_of_named hn)
  have hm := lets_mem 4 0 0 t
  unfold cellP
  rw [dol_no hp, dol_no hp2]
  simp only
  generalize letsA 4 0 0 (t ++ rest) = A at hl
  generalize letsA 4 0 0 t = B at hl hm
  obtain ⟨ac, an, ar⟩ := A
  obtain ⟨bc, bn, br⟩ := B
  simp only at hl hm
  obtain ⟨rfl, rfl, rfl⟩ := hl
  have hbr : ∀ x ∈ br, isNamed x = true := fun x hx => ht x (hm.subset hx)
  simp only
  by_cases h1 : an = 0 ∨ ac > 16384
  · rw [if_pos h1]
    exact .inl rfl
  · rw [if_neg h1, if_neg h1]
    by_cases hb0 : br = []
    · left
      subst hb0
      rfl
    · right
      have hb36 : pk br ≠ 36 := by
        intro q
        have := hbr _ (pk_mem hb0)
        rw [q] at this
        revert this
        decide
      rw [dol_no (by rw [pk_app hb0]; exact hb36), dol_no hb36]
      simp only
      have hd := digs_app 8 0 0 br rest (num_of_named hn)
      generalize digsA 8 0 0 (br ++ rest) = A at hd
      generalize digsA 8 0 0 br = B at hd
      obtain ⟨dc, dn, dr⟩ := A
      obtain ⟨ec, en, er⟩ := B
      simp only at hd
      obtain ⟨rfl, rfl, rfl⟩ := hd
      exact ⟨rfl, rfl⟩
theorem up_keep {c : UInt8} (h : isAlpha c = false) : up c = c := by
  unfold up
  rw [if_neg]
  simp [isAlpha] at h
  simp
  omega
theorem up_named {c : UInt8} (h : isNamed c = true) : isNamed (up c) = true := by
  cases ha : isAlpha c with
  | true => exact alpha_named (upC_alpha (up_range ha))
  | false =>
    rw [up_keep ha]
    exact h
theorem up_up (c : UInt8) : up (up c) = up c := by
  cases ha : isAlpha c with
  | true => exact upC_up (up_range ha)
  | false => rw [up_keep ha, up_keep ha]
theorem upL_word {t : List UInt8} (h0 : t ≠ []) (h1 : isAlpha (pk t) = true ∨ pk t = 95) (h2 : ∀ c ∈ t, isNamed c = true) : wordLike (upL t) ∧ upL (upL t) = upL t := by
  refine ⟨⟨?_, ?_⟩, ?_⟩
  · cases t with
    | nil => exact absurd rfl h0
    | cons a l =>
      show isAlpha (up a) = true ∨ up a = 95
      rcases h1 with h1 | h1
      · exact .inl (upC_alpha (up_range h1))
      · right
        have h1 : a = 95 := h1
        subst h1
        decide
  · intro c hc
    unfold upL at hc
    obtain ⟨a, ha, rfl⟩ := List.mem_map.1 hc
    exact up_named (h2 a ha)
  · unfold upL
    rw [List.map_map]
    congr 1
    funext c
    exact up_up c

end Go.Proofs.YtfeffdjnjckjaaaGreatDoor.Rg

/- What was read is as it should be: the whole tree. -/
namespace Go.Proofs.YtfeffdjnjckjaaaGreatDoor.Rg
open Go.RowKit

theorem tail_lt' {r : List UInt8} {c : UInt8} (h : pk r = c) (hc : c ≠ 0) : r.tail.length + 1 = r.length := by
  cases r with
  | nil => exact absurd h.symm hc
  | cons a l => simp
theorem oddL_app : ∀ (a b : List Ex), oddL (a ++ b) = (oddL a || oddL b)
  | [], b => by
    rw [oddL]
    rfl
  | x :: a, b => by
    show oddL (x :: (a ++ b)) = _
    rw [oddL, oddL, oddL_app a b, Bool.or_assoc]
theorem okL_app : ∀ (a b : List Ex), okL (a ++ b) ↔ okL a ∧ okL b
  | [], b => by
    rw [okL]
    simp
  | x :: a, b => by
    show okL (x :: (a ++ b)) ↔ _
    rw [okL, okL, okL_app a b, and_assoc]
theorem fitL_app (d : Nat) : ∀ (a b : List Ex), fitL d (a ++ b) ↔ fitL d a ∧ fitL d b
  | [], b => by
    rw [fitL]
    simp
  | x :: a, b => by
    show fitL d (x :: (a ++ b)) ↔ _
    rw [fitL, fitL, fitL_app d a b, and_assoc]
theorem prtM_app : ∀ (a b : List Ex), (prtM (a ++ b)).length = (prtM a).length + (prtM b).length
  | [], b => by
    rw [prtM]
    simp
  | x :: a, b => by
    show (prtM (x :: (a ++ b))).length = _
    rw [prtM, prtM]
    simp only [List.length_cons, List.length_append]
    rw [prtM_app a b]
    omega
theorem args_pre (f : Nat → List UInt8 → R) (d : Nat) : ∀ (k : Nat) (acc l : List Ex) (r rest : List UInt8), argsP f d k acc r = .ok l rest → ∃ t, l = acc ++ t
  | 0, _, _, _, _, h => by cases h
  | k + 1, acc, l, r, rest, h => by
    unfold argsP at h
    split at h
    · cases h
    · cases h
    · rename_i x r2 he
      split at h
      · injection h with h1 h2
        exact ⟨_, h1.symm⟩
      · split at h
        · obtain ⟨t, ht⟩ := args_pre f d k _ _ _ _ h
          exact ⟨x :: t, by rw [ht]; simp⟩
        · cases h
theorem args_good (f : Nat → List UInt8 → R) (hf : Sound f) (d : Nat) (hd : d ≤ 360) : ∀ (k : Nat) (acc l : List Ex) (r rest : List UInt8), okL acc → fitL d acc → argsP f d k acc r = .ok l rest → oddL l = false → r.length ≤ 500 →
    okL l ∧ fitL d l ∧ (prtM l).length + 15 * rest.length ≤ 15 * r.length + (prtM acc).length
  | 0, _, _, _, _, _, _, h, _, _ => by cases h
  | k + 1, acc, l, r, rest, hok, hfit, h, ho, hr => by
    have hb := blk_le r
    have key : ∀ (x : Ex) (r2 : List UInt8), oddX x = false → (if pk (blk r) = 44 ∨ pk (blk r) = 41 then R.ok .odd (blk r) else f d (blk r)) = .ok x r2 → Good 1 d x (blk r) r2 := by
      intro x r2 hx he
      split at he
      · injection he with e1 e2
        subst e1
        unfold oddX at hx
        cases hx
      · exact hf d (blk r) x r2 hd (by omega) he hx
    have grow : ∀ (x : Ex) (r2 : List UInt8), Good 1 d x (blk r) r2 → okL (acc ++ [x]) ∧ fitL d (acc ++ [x]) ∧ (prtM (acc ++ [x])).length + 15 * r2.length ≤ 15 * r.length + (prtM acc).length + 1 := by
      intro x r2 g
      refine ⟨(okL_app _ _).2 ⟨hok, ?_⟩, (fitL_app d _ _).2 ⟨hfit, ?_⟩, ?_⟩
      · unfold okL
        exact ⟨g.ok, by unfold okL; trivial⟩
      · unfold fitL
        exact ⟨g.fit, by unfold fitL; trivial⟩
      · rw [prtM_app]
        have e : (prtM [x]).length = (prt 1 x).length + 1 := by
          rw [prtM, prtM]
          simp
        have := g.len
        omega
    unfold argsP at h
    split at h
    · cases h
    · cases h
    · rename_i x r2 he
      have hb2 := blk_le r2
      split at h
      · rename_i h41
        injection h with h1 h2
        subst h1
        subst h2
        rw [oddL_app] at ho
        simp only [Bool.or_eq_false_iff] at ho
        have hx : oddX x = false := by
          have := ho.2
          rw [oddL, oddL] at this
          simpa using this
        have h3 := tail_lt' h41 (by decide)
        obtain ⟨g1, g2, g3⟩ := grow x r2 (key x r2 hx he)
        exact ⟨g1, g2, by omega⟩
      · split at h
        · rename_i h44
          obtain ⟨t, ht⟩ := args_pre f d k _ _ _ _ h
          have hx : oddX x = false := by
            rw [ht, oddL_app, oddL_app] at ho
            simp only [Bool.or_eq_false_iff] at ho
            have := ho.1.2
            rw [oddL, oddL] at this
            simpa using this
          have h3 := tail_lt' h44 (by decide)
          have hg := key x r2 hx he
          obtain ⟨g1, g2, g3⟩ := grow x r2 hg
          have hgl := hg.len
          obtain ⟨g4, g5, g6⟩ := args_good f hf d hd k _ l _ rest g1 g2 h ho (by omega)
          exact ⟨g4, g5, by omega⟩
        · cases h
theorem call_good (f : Nat → List UInt8 → R) (hf : Sound f) (d : Nat) (hd : d ≤ 360) (name r rest : List UInt8) (x : Ex) (hw : wordLike name) (hu : upL name = name) (hn : name.length ≤ 500) (hr : r.length ≤ 500) (h40 : pk r = 40) (h : callP f name d r = .ok x rest) (ho : oddX x = false) :
    okX x ∧ fit 6 d x ∧ (prt 6 x).length + 15 * rest.length ≤ name.length + 15 * r.length := by
  have h3 := tail_lt' h40 (by decide)
  have hb := blk_le r.tail
  unfold callP at h
  split at h
  · rename_i h41
    injection h with h1 h2
    subst h1
    subst h2
    have h4 := tail_lt' h41 (by decide)
    refine ⟨?_, ?_, ?_⟩
    · unfold okX
      exact ⟨hw, hu, hn, by unfold okL; trivial⟩
    · unfold fit
      exact ⟨by omega, by unfold fitL; trivial⟩
    · unfold prt
      rw [prtM]
      simp
      omega
  · split at h
    · cases h
    · cases h
    · rename_i l rest2 he
      injection h with h1 h2
      subst h1
      subst h2
      unfold oddX at ho
      obtain ⟨g1, g2, g3⟩ := args_good f hf d hd _ [] l _ rest2 (by unfold okL; trivial) (by unfold fitL; trivial) he ho (by omega)
      have e0 : (prtM []).length = 0 := by rw [prtM]; rfl
      refine ⟨?_, ?_, ?_⟩
      · unfold okX
        exact ⟨hw, hu, hn, g1⟩
      · unfold fit
        exact ⟨by omega, by simpa using g2⟩
      · unfold prt
        simp
        omega
theorem word_good (f : Nat → List UInt8 → R) (hf : Sound f) (d : Nat) (hd : d ≤ 360) (r rest : List UInt8) (x : Ex) (hr : r.length ≤ 500) (h : wordP f d r = .ok x rest) (ho : oddX x = false) : Good 6 d x r rest := by
  have hsn : (sheetT []).length = 0 := rfl
  obtain ⟨a, b, hab, ha, hb, htw, hdw⟩ := split_app isNamed r named_0
  have hl : r.length = a.length + b.length := by
    rw [hab]
    simp
  unfold wordP at h
  rw [htw, hdw] at h
  split at h
  · obtain ⟨g1, g2, g3⟩ := place_good d [] r rest x hd (by simp) h
    exact ⟨g1, g2, by omega⟩
  · split at h
    · cases h
    · rename_i h36 hal
      have h0 : isAlpha (pk r) = true ∨ pk r = 95 := by
        cases q : isAlpha (pk r) with
        | true => exact .inl rfl
        | false =>
          by_cases q2 : pk r = 95
          · exact .inr q2
          · exact absurd ⟨q, q2⟩ hal
      have ha0 : a ≠ [] := by
        rintro rfl
        have e : r = b := hab
        rw [e] at h0
        rcases h0 with h0 | h0
        · rw [alpha_of_named hb] at h0
          cases h0
        · rw [h0] at hb
          revert hb
          decide
      have hpk : pk r = pk a := by
        rw [hab, pk_app ha0]
      rw [hpk] at h0
      split at h
      · rename_i h40
        have hw := upL_word ha0 h0 ha
        have hul : (upL a).length = a.length := by simp [upL]
        obtain ⟨g1, g2, g3⟩ := call_good f hf d hd (upL a) b rest x hw.1 hw.2 (by omega) (by omega) h40 h ho
        exact ⟨g1, g2, by omega⟩
      · split at h
        · rename_i h33
          have h3 := tail_lt' h33 (by decide)
          obtain ⟨g1, g2, g3⟩ := place_good d a b.tail rest x hd (by omega) h
          have := sheetT_len a
          have ha1 : 1 ≤ a.length := List.length_pos_iff.2 ha0
          exact ⟨g1, g2, by omega⟩
        · split at h
          · rename_i hu
            injection h with h1 h2
            subst h1
            subst h2
            have hul : (upL a).length = a.length := by simp [upL]
            have hal : 4 ≤ a.length := by
              rcases hu with hu | hu <;> rw [hu] at hul
              · have : sTRUE.length = 4 := rfl
                omega
              · have : sFALSE.length = 5 := rfl
                omega
            refine ⟨?_, ?_, ?_⟩
            · unfold okX
              trivial
            · unfold fit
              omega
            · unfold prt
              have : ∀ b : Bool, (if b = true then sTRUE else sFALSE).length ≤ 5 := by intro b; cases b <;> decide
              have := this (decide (upL a = sTRUE))
              omega
          · rename_i hu
            split at h
            · rename_i hc
              injection h with h1 h2
              subst h1
              subst h2
              refine ⟨?_, ?_, ?_⟩
              · unfold okX
                refine ⟨⟨⟨h0, ha⟩, fun q => hu (.inl q), fun q => hu (.inr q), ?_⟩, by omega⟩
                rcases cell_app2 a b ha ha0 hb with h3 | ⟨h3, h4⟩
                · exact .inl h3
                · rw [← hab] at h3 h4
                  rcases hc.1 with h5 | h5
                  · left
                    rw [← h3]
                    exact h5
                  · right
                    rw [h4] at h5
                    by_cases q : (cellP a).rest = []
                    · rw [q] at h5
                      rw [show pk ([] ++ b) = pk b from rfl, hb] at h5
                      cases h5
                    · rw [pk_app q] at h5
                      exact h5
              · unfold fit
                omega
              · unfold prt
                omega
            · obtain ⟨g1, g2, g3⟩ := place_good d [] r rest x hd (by simp) h
              exact ⟨g1, g2, by omega⟩
theorem arr_odd (f : Nat → List UInt8 → R) (d : Nat) : ∀ (k wide n : Nat) (r rest : List UInt8) (x : Ex), arrA f d k wide n r = .ok x rest → x = .odd
  | 0, _, _, _, _, _, h => by cases h
  | k + 1, wide, n, r, rest, x, h => by
    unfold arrA at h
    split at h
    · cases h
    · cases h
    · split at h
      · exact arr_odd f d k _ _ _ _ _ h
      · split at h
        · cases h
        · split at h
          · injection h with h1 h2
            exact h1.symm
          · split at h
            · exact arr_odd f d k _ _ _ _ _ h
            · cases h
theorem odd_no {x : Ex} (h : x = .odd) (ho : oddX x = false) : False := by
  subst h
  unfold oddX at ho
  cases ho
theorem lit_good (d : Nat) (hd : d ≤ 360) (r rest : List UInt8) (x : Ex) (h : litP r = .ok x rest) (ho : oddX x = false) : Good 6 d x r rest := by
  unfold litP at h
  split at h
  · rename_i hn
    exact num_good d r rest x hd hn h
  · split at h
    · split at h
      · injection h with h1 h2
        exact (odd_no h1.symm ho).elim
      · cases h
    · exact fail_good d r rest x hd h
theorem thing_good (f : Nat → List UInt8 → R) (hf : Sound f) (d : Nat) (hd : d ≤ 360) (r rest : List UInt8) (x : Ex) (hr : r.length ≤ 500) (h : thingP f d r = .ok x rest) (ho : oddX x = false) : Good 6 d x r rest := by
  unfold thingP at h
  split at h
  · exact lit_good d hd r rest x h ho
  · split at h
    · exact (odd_no (arr_odd f d _ _ _ _ _ _ h) ho).elim
    · split at h
      · rename_i h40
        have h3 := tail_lt' h40 (by decide)
        split at h
        · rename_i y r2 he
          have hb2 := blk_le r2
          split at h
          · rename_i h41
            have h4 := tail_lt' h41 (by decide)
            injection h with h1 h2
            subst h1
            subst h2
            have g := hf d r.tail y r2 hd (by omega) he ho
            have hp := prt_paren y
            have := g.len
            exact ⟨g.ok, fit_paren y d hd g.ok g.fit, by omega⟩
          · cases h
        · rename_i hno
          exact absurd h (hno _ _)
      · split at h
        · rename_i h39
          have h3 := tail_lt' h39 (by decide)
          split at h
          · rename_i t rest2 hq
            have hql := quo_len _ _ _ _ hq
            split at h
            · rename_i h33
              have h4 := tail_lt' h33.1 (by decide)
              simp only [List.length_nil, Nat.zero_add] at hql
              obtain ⟨g1, g2, g3⟩ := place_good d t rest2.tail rest x hd (by omega) h
              have := sheetT_len t
              exact ⟨g1, g2, by omega⟩
            · cases h
          · cases h
        · exact word_good f hf d hd r rest x hr h ho
theorem signed_good (f : Nat → List UInt8 → R) (hf : Sound f) (k d : Nat) (hd : d ≤ 360) (r rest : List UInt8) (x : Ex) (hr : r.length ≤ 500) (h : signedA f k d r = .ok x rest) (ho : oddX x = false) : Good 6 d x r rest := by
  cases k with
  | zero => cases h
  | succ k =>
    have hb := blk_le r
    unfold signedA at h
    split at h
    · split at h
      · cases h
      · split at h
        · injection h with h1 h2
          exact (odd_no h1.symm ho).elim
        · rename_i hno
          exact absurd h (hno _ _)
    · have g := thing_good f hf d hd (blk r) rest x (by omega) h ho
      have := g.len
      exact ⟨g.ok, g.fit, by omega⟩
theorem pctL_same : ∀ (k : Nat) (y x : Ex) (r rest : List UInt8), pctL k y r = .ok x rest → (x = y ∧ rest.length ≤ r.length) ∨ x = .odd
  | 0, _, _, _, _, h => by cases h
  | k + 1, y, x, r, rest, h => by
    have hb := blk_le r
    unfold pctL at h
    split at h
    · rcases pctL_same k _ _ _ _ h with h | h
      · exact .inr h.1
      · exact .inr h
    · injection h with h1 h2
      subst h2
      exact .inl ⟨h1.symm, hb⟩
theorem pct_good (f : Nat → List UInt8 → R) (hf : Sound f) (d : Nat) (hd : d ≤ 360) (r rest : List UInt8) (x : Ex) (hr : r.length ≤ 500) (h : pctP f d r = .ok x rest) (ho : oddX x = false) : Good 6 d x r rest := by
  unfold pctP at h
  split at h
  · rename_i y r1 he
    rcases pctL_same _ _ _ _ _ h with ⟨rfl, hl⟩ | hx
    · have g := signed_good f hf _ d hd r r1 x hr he ho
      have := g.len
      exact ⟨g.ok, g.fit, by omega⟩
    · exact (odd_no hx ho).elim
  · rename_i hno
    exact absurd h (hno _ _)
theorem ops_out (h : List UInt8 → R) (n : Nat) : ∀ (k : Nat) (y x : Ex) (r rest : List UInt8), opsP h n k y r = .ok x rest → oddX x = false → oddX y = false
  | 0, _, _, _, _, he, _ => by cases he
  | k + 1, y, x, r, rest, he, ho => by
    unfold opsP at he
    split at he
    · injection he with e1 e2
      subst e1
      exact ho
    · split at he
      · have i1 := ops_out h n k _ x _ rest he ho
        rw [oddX] at i1
        simp only [Bool.or_eq_false_iff] at i1
        exact i1.1
      · rename_i hno
        exact absurd he (hno _ _)
theorem ops_good (h : List UInt8 → R) (n d : Nat) (h1 : 1 ≤ n) (h5 : n ≤ 5) (hd : d + 1 ≤ 360) (hh : ∀ r x r', r.length ≤ 500 → h r = .ok x r' → oddX x = false → Good (n + 1) (d + 1) x r r') :
    ∀ (k : Nat) (y x : Ex) (r rest : List UInt8), r.length ≤ 500 → opsP h n k y r = .ok x rest → oddX x = false → oddX y = false ∧ (okX y → fit n d y → okX x ∧ fit n d x ∧ (prt n x).length + 15 * rest.length ≤ 15 * r.length + (prt n y).length)
  | 0, _, _, _, _, _, he, _ => by cases he
  | k + 1, y, x, r, rest, hr, he, ho => by
    have hb := blk_le r
    unfold opsP at he
    split at he
    · injection he with e1 e2
      subst e1
      subst e2
      exact ⟨ho, fun hy hf => ⟨hy, hf, by omega⟩⟩
    · rename_i o hop
      unfold opAt at hop
      have hm := List.mem_of_find?_eq_some hop
      have hp := List.find?_some hop
      unfold opHit at hp
      simp only [Bool.and_eq_true, decide_eq_true_eq] at hp
      obtain ⟨hlev, hpre⟩ := hp
      have hpre : o <+: blk r := by simpa using hpre
      obtain ⟨s, hs⟩ := hpre
      have hsl : (blk r).length = o.length + s.length := by
        rw [← hs]
        simp
      have hdrop : (blk r).drop o.length = s := by
        rw [← hs]
        simp
      rw [hdrop] at he
      split at he
      · rename_i z r2 hz
        by_cases hzo : oddX z = false
        · have g := hh s z r2 (by omega) hz hzo
          have hgl := g.len
          obtain ⟨i1, i2⟩ := ops_good h n d h1 h5 hd hh k (.bin o y z) x r2 rest (by omega) he ho
          rw [oddX] at i1
          simp only [Bool.or_eq_false_iff] at i1
          refine ⟨i1.1, fun hy hf => ?_⟩
          have hdp : dp n d o = d := by
            unfold dp
            rw [if_pos (by omega)]
            omega
          obtain ⟨j1, j2, j3⟩ := i2 (by unfold okX; exact ⟨hm, hy, g.ok⟩) (by
            unfold fit
            rw [hdp, hlev]
            exact ⟨hd, hf, g.fit⟩)
          refine ⟨j1, j2, ?_⟩
          rw [prt_bin, if_neg (by omega), hlev] at j3
          simp only [List.length_append] at j3
          omega
        · exfalso
          apply hzo
          have i1 := ops_out h n k (.bin o y z) x r2 rest he ho
          rw [oddX] at i1
          simp only [Bool.or_eq_false_iff] at i1
          exact i1.2
      · rename_i hno
        exact absurd he (hno _ _)
theorem lv_good : ∀ (k n d : Nat) (r r' : List UInt8) (x : Ex), 1 ≤ n → n ≤ 6 → d ≤ 360 → r.length ≤ 500 → lv k n d r = .ok x r' → oddX x = false → Good n d x r r'
  | 0, _, _, _, _, _, _, _, _, _, h, _ => by cases h
  | k + 1, n, d, r, r', x, h1, h6, hd, hr, h, ho => by
    have hf : Sound (fun d r => lv k 1 d r) := fun d r x r' hd hr h ho => lv_good k 1 d r r' x (by omega) (by omega) hd hr h ho
    unfold lv at h
    split at h
    · obtain rfl : n = 6 := by omega
      exact pct_good _ hf d hd r r' x hr h ho
    · rename_i hn
      split at h
      · cases h
      · rename_i hd2
        split at h
        · rename_i y r1 hy
          have hh : ∀ r x r', r.length ≤ 500 → lv k (n + 1) (d + 1) r = .ok x r' → oddX x = false → Good (n + 1) (d + 1) x r r' := fun r x r' hr h ho => lv_good k (n + 1) (d + 1) r r' x (by omega) (by omega) (by omega) hr h ho
          have hr1 : r1.length ≤ 500 := Nat.le_trans (lv_le _ _ _ _ _ _ hy) hr
          obtain ⟨i1, i2⟩ := ops_good _ n d h1 (by omega) (by omega) hh _ y x r1 r' hr1 h ho
          have g := hh r y r1 hr hy i1
          obtain ⟨j1, j2, j3⟩ := i2 g.ok (fit_down y n d h1 (by omega) g.ok g.fit)
          have hp := prt_le y n
          have := g.len
          exact ⟨j1, j2, by omega⟩
        · rename_i hno
          exact absurd h (hno _ _)

end Go.Proofs.YtfeffdjnjckjaaaGreatDoor.Rg
