/- What is written is read back. -/
import Derived.Test.YtfeffdjnjckjaaaGreatDoorJPrt
/- What is written is read back: the parts without operators. -/
namespace Go.Proofs.YtfeffdjnjckjaaaGreatDoor.Rg
open Go.RowKit

/-- What comes behind a part at a level: an end, or an operator that binds less. -/
def safe (n : Nat) (rest : List UInt8) : Prop :=
  rest = [] ∨ pk rest = 41 ∨ pk rest = 44 ∨ ∃ o y, o ∈ opsL ∧ lev o < n ∧ rest = o ++ y

theorem stop_pk {rest : List UInt8} (h : rest = [] ∨ pk rest = 41 ∨ pk rest = 44 ∨ pk rest = 60 ∨ pk rest = 61 ∨ pk rest = 62 ∨ pk rest = 38 ∨ pk rest = 43 ∨ pk rest = 45 ∨ pk rest = 42 ∨ pk rest = 47 ∨ pk rest = 94) : Stop rest := by
  rcases h with rfl | h | h | h | h | h | h | h | h | h | h | h
  · exact ⟨by decide, by decide, by decide, by decide, by decide, by decide, by decide⟩
  all_goals exact ⟨by rw [h]; decide, by rw [h]; decide, by rw [h]; decide, by rw [h]; decide, by rw [h]; decide, by rw [h]; decide, by rw [h]; decide⟩
theorem stop_58 {rest : List UInt8} (h : pk rest = 58) : isNamed (pk rest) = false := by rw [h]; decide
theorem op_stop {o : List UInt8} (h : o ∈ opsL) (y : List UInt8) : Stop (o ++ y) := by
  simp only [opsL, List.mem_cons, List.not_mem_nil, or_false] at h
  rcases h with rfl | rfl | rfl | rfl | rfl | rfl | rfl | rfl | rfl | rfl | rfl | rfl <;> exact stop_pk (by simp [pk])
theorem safe.stop {n : Nat} {rest : List UInt8} (h : safe n rest) : Stop rest := by
  rcases h with h | h | h | ⟨o, y, h1, _, rfl⟩
  · exact stop_pk (.inl h)
  · exact stop_pk (.inr (.inl h))
  · exact stop_pk (.inr (.inr (.inl h)))
  · exact op_stop h1 y
theorem Stop.blk {rest : List UInt8} (h : pk rest ≠ 32) : blk rest = rest := by
  cases rest with
  | nil => rfl
  | cons a l =>
    have h2 : (a == 32) = false := by simpa [pk] using h
    unfold Rg.blk
    rw [List.dropWhile_cons, h2]
    rfl
theorem op_none {o : List UInt8} {m : Nat} (h : o ∈ opsL) (hm : lev o ≠ m) (y : List UInt8) : opAt m (o ++ y) = none := by
  unfold opAt
  rw [List.find?_eq_none]
  intro o' ho'
  unfold opHit
  simp only [opsL, List.mem_cons, List.not_mem_nil, or_false] at h ho'
  rcases h with rfl | rfl | rfl | rfl | rfl | rfl | rfl | rfl | rfl | rfl | rfl | rfl <;>
    rcases ho' with rfl | rfl | rfl | rfl | rfl | rfl | rfl | rfl | rfl | rfl | rfl | rfl <;>
    simp [List.isPrefixOf, lev] at hm ⊢ <;> omega
theorem op_end {rest : List UInt8} (m : Nat) (h : rest = [] ∨ pk rest = 41 ∨ pk rest = 44) : opAt m rest = none := by
  unfold opAt
  rw [List.find?_eq_none]
  intro o ho
  unfold opHit
  have h2 : o.isPrefixOf rest = false := by
    simp only [opsL, List.mem_cons, List.not_mem_nil, or_false] at ho
    cases rest with
    | nil => rcases ho with rfl | rfl | rfl | rfl | rfl | rfl | rfl | rfl | rfl | rfl | rfl | rfl <;> rfl
    | cons a l =>
      rcases h with h | h | h
      · cases h
      all_goals
        have ha : a = _ := h
        subst ha
        rcases ho with rfl | rfl | rfl | rfl | rfl | rfl | rfl | rfl | rfl | rfl | rfl | rfl <;> rfl
  rw [h2]
  simp
theorem safe.none {n m : Nat} {rest : List UInt8} (h : safe n rest) (hm : n ≤ m) : opAt m rest = none := by
  rcases h with h | h | h | ⟨o, y, h1, h2, rfl⟩
  · exact op_end m (.inl h)
  · exact op_end m (.inr (.inl h))
  · exact op_end m (.inr (.inr h))
  · exact op_none h1 (by omega) y
theorem op_hit {o : List UInt8} (h : o ∈ opsL) (y : List UInt8) (h61 : pk y ≠ 61) (h62 : pk y ≠ 62) : opAt (lev o) (o ++ y) = some o := by
  have e1 : ∀ c : UInt8, c = 61 ∨ c = 62 → ∀ l, y ≠ c :: l := by
    rintro c (rfl | rfl) l rfl
    · exact h61 rfl
    · exact h62 rfl
  simp only [opsL, List.mem_cons, List.not_mem_nil, or_false] at h
  unfold opAt
  rcases h with rfl | rfl | rfl | rfl | rfl | rfl | rfl | rfl | rfl | rfl | rfl | rfl
  all_goals first
    | (simp [opsL, opHit, lev, List.find?, List.isPrefixOf]; done)
    | (cases y with
       | nil => simp [opsL, opHit, lev, List.find?, List.isPrefixOf]
       | cons a l =>
         have h1 : (61 == a) = false := by
           have := e1 61 (.inl rfl) l
           simp at this ⊢
           exact fun h => this h.symm
         have h2 : (62 == a) = false := by
           have := e1 62 (.inr rfl) l
           simp at this ⊢
           exact fun h => this h.symm
         simp [opsL, opHit, lev, List.find?, List.isPrefixOf, h1, h2])

theorem take_app {p : UInt8 → Bool} : ∀ (l rest : List UInt8), (∀ c ∈ l, p c = true) → p (pk rest) = false → p 0 = false → (l ++ rest).takeWhile p = l ∧ (l ++ rest).dropWhile p = rest
  | [], [], _, _, _ => ⟨rfl, rfl⟩
  | [], a :: rest, _, h, _ => by
    have h : p a = false := h
    constructor
    · simp [h]
    · simp [h]
  | a :: l, rest, hl, h, h0 => by
    have h1 := take_app l rest (fun c hc => hl c (by simp [hc])) h h0
    have ha := hl a (by simp)
    show (a :: (l ++ rest)).takeWhile p = _ ∧ (a :: (l ++ rest)).dropWhile p = _
    rw [List.takeWhile_cons, List.dropWhile_cons, ha, if_pos rfl, if_pos rfl, h1.1, h1.2]
    exact ⟨rfl, rfl⟩
theorem named_0 : isNamed 0 = false := by decide
theorem named_58 : isNamed 58 = false := by decide
theorem named_36 : isNamed 36 = false := by decide
theorem num_58 : isNum 58 = false := by decide

/-- A text between marks is read back. -/
theorem quo_dbl (m : UInt8) : ∀ (l acc rest : List UInt8), pk rest ≠ m → quoA m acc (dbl m l ++ m :: rest) = some (acc ++ l, rest)
  | [], acc, rest, h => by
    show quoA m acc (m :: rest) = _
    cases rest with
    | nil => simp [quoA]
    | cons c l =>
      have h : c ≠ m := h
      rw [quoA, if_pos rfl, if_neg h]
      simp
  | c :: l, acc, rest, h => by
    unfold dbl
    by_cases hc : c = m
    · subst hc
      rw [if_pos rfl]
      show quoA c acc (c :: c :: (dbl c l ++ c :: rest)) = _
      rw [quoA, if_pos rfl, if_pos rfl, quo_dbl c l _ rest h]
      simp
    · rw [if_neg hc]
      show quoA m acc (c :: (dbl m l ++ m :: rest)) = _
      rw [quoA_char hc, quo_dbl m l _ rest h]
      simp

theorem num_of_named {c : UInt8} (h : isNamed c = false) : isNum c = false := by
  unfold isNamed at h
  simp only [Bool.or_eq_false_iff] at h
  exact h.1.1.2
theorem alpha_of_named {c : UInt8} (h : isNamed c = false) : isAlpha c = false := by
  unfold isNamed at h
  simp only [Bool.or_eq_false_iff] at h
  exact h.1.1.1
/-- A cell, and an area, of a sheet are read back. -/
theorem place_cell (s : List UInt8) (c r : Nat) (a b : Bool) (rest : List UInt8) (h : CellOk s c r) (hs : Stop rest) : placeP s (cornerT c r a b ++ rest) = .ok (.cell s c r a b) rest := by
  unfold placeP
  rw [cell_read c r a b rest h.c1 h.c2 h.r1 h.r2 (num_of_named hs.named)]
  simp [hs.named, hs.n58]
theorem place_area (s : List UInt8) (c r c2 r2 : Nat) (a b a2 b2 : Bool) (rest : List UInt8) (h : CellOk s c r) (h2 : CellOk s c2 r2) (hs : Stop rest) : placeP s (cornerT c r a b ++ 58 :: (cornerT c2 r2 a2 b2 ++ rest)) = .ok (.area s c r c2 r2 a b a2 b2) rest := by
  unfold placeP
  rw [cell_read c r a b (58 :: (cornerT c2 r2 a2 b2 ++ rest)) h.c1 h.c2 h.r1 h.r2 num_58]
  have e : isNamed (pk (58 :: (cornerT c2 r2 a2 b2 ++ rest))) = false := named_58
  simp only [e]
  rw [if_neg (by simp), if_pos (by rfl)]
  show (if _ then _ else _) = _
  rw [List.tail_cons, cell_read c2 r2 a2 b2 rest h2.c1 h2.c2 h2.r1 h2.r2 (num_of_named hs.named)]
  simp [hs.named]

/-- The bytes of a name ahead of a cell's end are no truth. -/
theorem up_last_num : ∀ (l : List UInt8) (x : UInt8), isNum x = true → upL (l ++ [x]) ≠ sTRUE ∧ upL (l ++ [x]) ≠ sFALSE := by
  intro l x hx
  have hu : up x = x := by
    have := num_range hx
    unfold up
    rw [if_neg (by simp; omega)]
  have h1 : (upL (l ++ [x])).getLast? = some x := by
    unfold upL
    rw [List.map_append, List.map_cons, hu]
    simp
  constructor
  · intro e
    rw [e] at h1
    have h2 : x = 69 := by
      have : sTRUE.getLast? = some 69 := rfl
      rw [this] at h1
      exact (Option.some.inj h1).symm
    subst h2
    revert hx
    decide
  · intro e
    rw [e] at h1
    have h2 : x = 69 := by
      have : sFALSE.getLast? = some 69 := rfl
      rw [this] at h1
      exact (Option.some.inj h1).symm
    subst h2
    revert hx
    decide
theorem up_short (l : List UInt8) (h : l.length ≤ 3) : upL l ≠ sTRUE ∧ upL l ≠ sFALSE := by
  have e : (upL l).length = l.length := by simp [upL]
  constructor
  · intro q
    rw [q] at e
    have : sTRUE.length = 4 := rfl
    omega
  · intro q
    rw [q] at e
    have : sFALSE.length = 5 := rfl
    omega
theorem last_of (r : Nat) : ∃ l x, Lib.decDigits r = l ++ [x] ∧ isNum x = true := by
  have h := digits_ne r
  exact ⟨(Lib.decDigits r).dropLast, (Lib.decDigits r).getLast h, (List.dropLast_concat_getLast h).symm, digC_num (digits_dig r _ (List.getLast_mem h))⟩

/-- A word that begins like a cell is one. -/
theorem word_place (f : Nat → List UInt8 → R) (d c r : Nat) (a b : Bool) (rest : List UInt8) (s : List UInt8) (h : CellOk s c r) (hn : isNamed (pk rest) = false) (h40 : pk rest ≠ 40) (h33 : pk rest ≠ 33) :
    wordP f d (cornerT c r a b ++ rest) = placeP [] (cornerT c r a b ++ rest) := by
  have hcr := cell_read c r a b rest h.c1 h.c2 h.r1 h.r2 (num_of_named hn)
  cases a with
  | true =>
    unfold wordP
    exact if_pos (by rw [cornerT_app]; rfl)
  | false =>
    have h1 := colName_pk h.c1 (dolT b (Lib.decDigits r ++ rest))
    have hpk : pk (cornerT c r false b ++ rest) = pk (colName c ++ dolT b (Lib.decDigits r ++ rest)) := by rw [cornerT_app]; rfl
    have hT : ∃ T R2, (cornerT c r false b ++ rest).takeWhile isNamed = T ∧ (cornerT c r false b ++ rest).dropWhile isNamed = R2 ∧ (upL T ≠ sTRUE ∧ upL T ≠ sFALSE) ∧ pk R2 ≠ 40 ∧ pk R2 ≠ 33 := by
      cases b with
      | true =>
        have := take_app (p := isNamed) (colName c) (36 :: (Lib.decDigits r ++ rest)) (fun x hx => alpha_named (upC_alpha (colName_up c x hx))) named_36 named_0
        have e : cornerT c r false true ++ rest = colName c ++ 36 :: (Lib.decDigits r ++ rest) := by rw [cornerT_app]; rfl
        rw [e]
        exact ⟨_, _, this.1, this.2, up_short _ (colName_len c h.c1 h.c2).2, (show (36 : UInt8) ≠ 40 by decide), (show (36 : UInt8) ≠ 33 by decide)⟩
      | false =>
        have e : cornerT c r false false ++ rest = (colName c ++ Lib.decDigits r) ++ rest := by rw [cornerT_app, List.append_assoc]; rfl
        have := take_app (p := isNamed) (colName c ++ Lib.decDigits r) rest (fun x hx => by
          rcases List.mem_append.1 hx with hx | hx
          · exact alpha_named (upC_alpha (colName_up c x hx))
          · exact num_named (digC_num (digits_dig r x hx))) hn named_0
        rw [e]
        refine ⟨_, _, this.1, this.2, ?_, h40, h33⟩
        obtain ⟨l, x, hl, hx⟩ := last_of r
        rw [hl, ← List.append_assoc]
        exact up_last_num _ x hx
    obtain ⟨T, R2, hT1, hT2, hT3, hT4, hT5⟩ := hT
    unfold wordP
    rw [hT1, hT2]
    rw [hpk]
    rw [if_neg (upC_ne h1 _ (by decide)), if_neg (by rw [upC_alpha h1]; simp), if_neg hT4, if_neg hT5, if_neg (by rintro (h | h); exact hT3.1 h; exact hT3.2 h)]
    rw [hcr]
    rw [if_neg (by simp [hn])]

end Go.Proofs.YtfeffdjnjckjaaaGreatDoor.Rg

/- What is written is read back: the whole tree. -/
namespace Go.Proofs.YtfeffdjnjckjaaaGreatDoor.Rg
open Go.RowKit

theorem prt_bin (n : Nat) (o : List UInt8) (x y : Ex) : prt n (.bin o x y) = if lev o < n then 40 :: (prt (lev o) x ++ (o ++ (prt (lev o + 1) y ++ [41]))) else prt (lev o) x ++ (o ++ prt (lev o + 1) y) := by rw [prt]
theorem pkc (a : UInt8) (l : List UInt8) : pk (a :: l) = a := rfl
theorem named_33 : isNamed 33 = false := by decide
theorem named_40 : isNamed 40 = false := by decide
/-- Read back, unless the rounds do not do. -/
def Reads (a : R) (x : Ex) (rest : List UInt8) : Prop := a = .out ∨ a = .ok x rest

theorem err_back {t : List UInt8} (h : t ∈ errsL) (rest : List UInt8) : failP (t ++ rest) = .ok (.err t) rest := by
  simp only [errsL, List.mem_cons, List.not_mem_nil, or_false] at h
  rcases h with rfl | rfl | rfl | rfl | rfl | rfl | rfl <;> simp [failP, errsL, List.find?, List.isPrefixOf]
theorem pk_prt (x : Ex) (n : Nat) (h : okX x) (rest : List UInt8) {e : UInt8} (he : opd e = false) : pk (prt n x ++ rest) ≠ e := by
  have := prt_opd x n h
  rw [pk_app this.1]
  exact opd_ne this.2 he
theorem blk_prt (x : Ex) (n : Nat) (h : okX x) (rest : List UInt8) : blk (prt n x ++ rest) = prt n x ++ rest := Stop.blk (pk_prt x n h rest (by decide))
theorem prtM_end (l : List Ex) (rest : List UInt8) : safe 1 (prtM l ++ 41 :: rest) := by
  cases l with
  | nil => exact .inr (.inl rfl)
  | cons x l =>
    refine .inr (.inr (.inl ?_))
    unfold prtM
    rfl
theorem args_back (f : Nat → List UInt8 → R) (d : Nat) (hf : ∀ x rest, okX x → fit 1 d x → safe 1 rest → Reads (f d (prt 1 x ++ rest)) x rest) :
    ∀ (l : List Ex) (x : Ex) (k : Nat) (acc : List Ex) (rest : List UInt8), okX x → fit 1 d x → okL l → fitL d l →
      argsP f d k acc (prt 1 x ++ (prtM l ++ 41 :: rest)) = .out ∨ argsP f d k acc (prt 1 x ++ (prtM l ++ 41 :: rest)) = .ok (acc ++ x :: l) rest
  | l, x, 0, acc, rest, _, _, _, _ => .inl rfl
  | l, x, k + 1, acc, rest, hx, hfx, hl, hfl => by
    have h1 := hf x (prtM l ++ 41 :: rest) hx hfx (prtM_end l rest)
    have hb := blk_prt x 1 hx (prtM l ++ 41 :: rest)
    have h44 := pk_prt x 1 hx (prtM l ++ 41 :: rest) (e := 44) (by decide)
    have h41 := pk_prt x 1 hx (prtM l ++ 41 :: rest) (e := 41) (by decide)
    unfold argsP
    rw [hb, if_neg (by rintro (h | h); exact h44 h; exact h41 h)]
    rcases h1 with h1 | h1
    · rw [h1]
      exact .inl rfl
    · rw [h1]
      have hb2 := Stop.blk (prtM_end l rest).stop.n32
      simp only [hb2]
      cases l with
      | nil =>
        right
        unfold prtM
        simp [pk]
      | cons y l =>
        unfold okL at hl
        unfold fitL at hfl
        have ih := args_back f d hf l y k (acc ++ [x]) rest hl.1 hfl.1 hl.2 hfl.2
        have e : prtM (y :: l) ++ 41 :: rest = 44 :: (prt 1 y ++ (prtM l ++ 41 :: rest)) := by
          rw [prtM]
          simp
        rw [e]
        have e41 : ¬ pk (44 :: (prt 1 y ++ (prtM l ++ 41 :: rest))) = 41 := by
          show ¬ (44 : UInt8) = 41
          decide
        have e44 : pk (44 :: (prt 1 y ++ (prtM l ++ 41 :: rest))) = 44 := rfl
        rw [if_neg e41, if_pos e44, List.tail_cons]
        have e2 : acc ++ [x] ++ y :: l = acc ++ x :: y :: l := by simp
        rw [e2] at ih
        exact ih
  termination_by l => l.length
theorem call_back (f : Nat → List UInt8 → R) (d : Nat) (hf : ∀ x rest, okX x → fit 1 d x → safe 1 rest → Reads (f d (prt 1 x ++ rest)) x rest) (t : List UInt8) (l : List Ex) (rest : List UInt8) (hl : okL l) (hfl : fitL d l) :
    Reads (callP f t d (40 :: ((prtM l).tail ++ 41 :: rest))) (.call t l) rest := by
  unfold callP
  rw [List.tail_cons]
  cases l with
  | nil =>
    right
    have e : (prtM []).tail ++ 41 :: rest = 41 :: rest := by simp [prtM]
    rw [e, Stop.blk (show pk (41 :: rest) ≠ 32 from (show (41 : UInt8) ≠ 32 by decide))]
    exact if_pos rfl
  | cons x l =>
    unfold okL at hl
    unfold fitL at hfl
    have e : (prtM (x :: l)).tail ++ 41 :: rest = prt 1 x ++ (prtM l ++ 41 :: rest) := by
      rw [prtM]
      simp
    rw [e, blk_prt x 1 hl.1, if_neg (pk_prt x 1 hl.1 _ (by decide))]
    rcases args_back f d hf l x (((40 :: (prt 1 x ++ (prtM l ++ 41 :: rest)) : List UInt8)).length + 1) [] rest hl.1 hfl.1 hl.2 hfl.2 with h | h
    · rw [h]
      exact .inl rfl
    · rw [h]
      exact .inr rfl
theorem lit_no {c : UInt8} (h : isNum c = false) (h34 : c ≠ 34) (h35 : c ≠ 35) : isLit c = false := by
  simp [isLit, h, h34, h35]
theorem thing_word (f : Nat → List UInt8 → R) (d : Nat) (r : List UInt8) (h : (isAlpha (pk r) = true ∨ pk r = 95) ∨ pk r = 36) : thingP f d r = wordP f d r := by
  have hn : isNum (pk r) = false ∧ pk r ≠ 34 ∧ pk r ≠ 35 ∧ pk r ≠ 123 ∧ pk r ≠ 40 ∧ pk r ≠ 39 := by
    rcases h with (h | h) | h
    · have h0 : ∀ e : UInt8, isAlpha e = false → pk r ≠ e := by
        intro e he q
        rw [q, he] at h
        cases h
      refine ⟨?_, h0 _ (by decide), h0 _ (by decide), h0 _ (by decide), h0 _ (by decide), h0 _ (by decide)⟩
      simp [isAlpha] at h
      simp [isNum]
      omega
    · rw [h]; decide
    · rw [h]; decide
  unfold thingP
  rw [lit_no hn.1 hn.2.1 hn.2.2.1, if_neg (by simp), if_neg hn.2.2.2.1, if_neg hn.2.2.2.2.1, if_neg hn.2.2.2.2.2]
theorem corner_first (c r : Nat) (a b : Bool) (rest : List UInt8) (h : 1 ≤ c) : (isAlpha (pk (cornerT c r a b ++ rest)) = true ∨ pk (cornerT c r a b ++ rest) = 95) ∨ pk (cornerT c r a b ++ rest) = 36 := by
  rw [cornerT_app]
  cases a with
  | true => exact .inr rfl
  | false => exact .inl (.inl (upC_alpha (colName_pk h _)))
/-- A place with its sheet is read back as it is without it. -/
theorem sheet_back (f : Nat → List UInt8 → R) (d c r : Nat) (a b : Bool) (rest s : List UInt8) (h : CellOk s c r) (hn : isNamed (pk rest) = false) (h40 : pk rest ≠ 40) (h33 : pk rest ≠ 33) :
    thingP f d (sheetT s ++ (cornerT c r a b ++ rest)) = placeP s (cornerT c r a b ++ rest) := by
  unfold sheetT
  by_cases hs : s = []
  · subst hs
    rw [if_pos rfl]
    show thingP f d (cornerT c r a b ++ rest) = _
    rw [thing_word f d _ (corner_first c r a b rest h.c1), word_place f d c r a b rest [] h hn h40 h33]
  · rw [if_neg hs]
    by_cases hp : plainS s = true
    · rw [if_pos hp]
      unfold plainS at hp
      simp only [Bool.and_eq_true, List.all_eq_true, Bool.or_eq_true] at hp
      have e : s ++ [33] ++ (cornerT c r a b ++ rest) = s ++ 33 :: (cornerT c r a b ++ rest) := by simp
      rw [e]
      have hpk : pk (s ++ 33 :: (cornerT c r a b ++ rest)) = pk s := pk_app hs
      have ht := take_app (p := isNamed) s (33 :: (cornerT c r a b ++ rest)) (fun x hx => by
        rcases hp.2 x hx with h | h
        · exact alpha_named h
        · exact num_named h) named_33 named_0
      rw [thing_word f d _ (by rw [hpk]; exact .inl (.inl hp.1))]
      unfold wordP
      rw [ht.1, ht.2, hpk]
      have h36 : pk s ≠ 36 := by
        intro q
        have h := hp.1
        rw [q] at h
        revert h
        decide
      rw [if_neg h36, if_neg (by rw [hp.1]; simp), pkc 33, if_neg (show ¬ (33 : UInt8) = 40 by decide), if_pos rfl]
      rfl
    · rw [if_neg hp]
      have e : 39 :: (dbl 39 s ++ [39, 33]) ++ (cornerT c r a b ++ rest) = 39 :: (dbl 39 s ++ 39 :: 33 :: (cornerT c r a b ++ rest)) := by simp
      rw [e]
      unfold thingP
      have e1 : pk (39 :: (dbl 39 s ++ 39 :: 33 :: (cornerT c r a b ++ rest))) = 39 := rfl
      rw [e1, List.tail_cons, quo_dbl 39 s [] _ (by show (33 : UInt8) ≠ 39; decide)]
      have e2 : isLit 39 = false := by decide
      rw [e2, if_neg (by simp), if_neg (by decide), if_neg (by decide), if_pos rfl]
      simp only [List.nil_append]
      rw [if_pos ⟨rfl, hs⟩]
      rfl
/-- A name at a place where it stood alone. -/
theorem lets_app : ∀ (k c n : Nat) (t rest : List UInt8), (∀ x ∈ t, isNamed x = true) → isAlpha (pk rest) = false →
    (letsA k c n (t ++ rest)).1 = (letsA k c n t).1 ∧ (letsA k c n (t ++ rest)).2.1 = (letsA k c n t).2.1 ∧ (letsA k c n (t ++ rest)).2.2 = (letsA k c n t).2.2 ++ rest
  | 0, c, n, t, rest, _, _ => ⟨rfl, rfl, rfl⟩
  | k + 1, c, n, [], rest, _, h => by
    have e1 : letsA (k + 1) c n ([] ++ rest) = (c, n, rest) := by
      show letsA (k + 1) c n rest = _
      unfold letsA
      rw [h]
      rfl
    have e2 : letsA (k + 1) c n [] = (c, n, []) := by
      unfold letsA
      rfl
    rw [e1, e2]
    exact ⟨rfl, rfl, rfl⟩
  | k + 1, c, n, a :: t, rest, ht, h => by
    show (letsA (k + 1) c n (a :: (t ++ rest))).1 = _ ∧ (letsA (k + 1) c n (a :: (t ++ rest))).2.1 = _ ∧ (letsA (k + 1) c n (a :: (t ++ rest))).2.2 = _
    unfold letsA
    by_cases ha : isAlpha a = true
    · have e1 : ∀ l : List UInt8, isAlpha (pk (a :: l)) = true := fun l => ha
      rw [if_pos (e1 _), if_pos (e1 _)]
      exact lets_app k _ _ t rest (fun x hx => ht x (by simp [hx])) h
    · have e1 : ∀ l : List UInt8, ¬ isAlpha (pk (a :: l)) = true := fun l => ha
      rw [if_neg (e1 _), if_neg (e1 _)]
      exact ⟨rfl, rfl, rfl⟩
theorem digs_app : ∀ (k c n : Nat) (t rest : List UInt8), isNum (pk rest) = false →
    (digsA k c n (t ++ rest)).1 = (digsA k c n t).1 ∧ (digsA k c n (t ++ rest)).2.1 = (digsA k c n t).2.1 ∧ (digsA k c n (t ++ rest)).2.2 = (digsA k c n t).2.2 ++ rest
  | 0, c, n, t, rest, _ => ⟨rfl, rfl, rfl⟩
  | k + 1, c, n, [], rest, h => by
    have e1 : digsA (k + 1) c n ([] ++ rest) = (c, n, rest) := by
      show digsA (k + 1) c n rest = _
      unfold digsA
      rw [h]
      rfl
    have e2 : digsA (k + 1) c n [] = (c, n, []) := by
      unfold digsA
      rfl
    rw [e1, e2]
    exact ⟨rfl, rfl, rfl⟩
  | k + 1, c, n, a :: t, rest, h => by
    show (digsA (k + 1) c n (a :: (t ++ rest))).1 = _ ∧ (digsA (k + 1) c n (a :: (t ++ rest))).2.1 = _ ∧ (digsA (k + 1) c n (a :: (t ++ rest))).2.2 = _
    unfold digsA
    by_cases ha : isNum a = true
    · have e1 : ∀ l : List UInt8, isNum (pk (a :: l)) = true := fun l => ha
      rw [if_pos (e1 _), if_pos (e1 _)]
      exact digs_app k _ _ t rest h
    · have e1 : ∀ l : List UInt8, ¬ isNum (pk (a :: l)) = true := fun l => ha
      rw [if_neg (e1 _), if_neg (e1 _)]
      exact ⟨rfl, rfl, rfl⟩
theorem lets_mem : ∀ (k c n : Nat) (t : List UInt8), (letsA k c n t).2.2 <:+ t
  | 0, c, n, t => List.suffix_refl _
  | k + 1, c, n, t => by
    unfold letsA
    split
    · exact (lets_mem k _ _ t.tail).trans (List.tail_suffix t)
    · exact List.suffix_refl _
theorem digs_mem : ∀ (k c n : Nat) (t : List UInt8), (digsA k c n t).2.2 <:+ t
  | 0, c, n, t => List.suffix_refl _
  | k + 1, c, n, t => by
    unfold digsA
    split
    · exact (digs_mem k _ _ t.tail).trans (List.tail_suffix t)
    · exact List.suffix_refl _
theorem dol_no {t : List UInt8} (h : pk t ≠ 36) : dol t = (false, t) := by
  unfold dol
  rw [if_neg h]
theorem pk_no {t : List UInt8} (ht : ∀ x ∈ t, isNamed x = true) {rest : List UInt8} (h : pk rest ≠ 36) : pk (t ++ rest) ≠ 36 := by
  cases t with
  | nil => exact h
  | cons a t =>
    show a ≠ 36
    intro q
    have := ht a (by simp)
    rw [q] at this
    revert this
    decide
/-- Whether a word is a cell: what stands behind it tells nothing, unless it is a dollar. -/
theorem cell_app (t rest : List UInt8) (ht : ∀ x ∈ t, isNamed x = true) (h0 : t ≠ []) (hn : isNamed (pk rest) = false) (h36 : pk rest ≠ 36) :
    (cellP (t ++ rest)).ok = (cellP t).ok ∧ (cellP (t ++ rest)).rest = (cellP t).rest ++ rest ∧ ∀ x ∈ (cellP t).rest, isNamed x = true := by
  have hp : pk (t ++ rest) ≠ 36 := by
    rw [pk_app h0]
    intro q
    have := ht _ (pk_mem h0)
    rw [q] at this
    revert this
    decide
  have hp2 : pk t ≠ 36 := by
    rw [pk_app h0] at hp
    exact hp
  have hl := lets_app 4 0 0 t rest ht (alpha_of_named hn)
  have hm := lets_mem 4 0 0 t
  unfold cellP
  rw [dol_no hp, dol_no hp2]
  simp only
  generalize letsA 4 0 0 (t ++ rest) = A at hl
  generalize letsA 4 0 0 t = B at hl hm
  obtain ⟨ac, an, ar⟩ := A
  obtain ⟨bc, bn, br⟩ := B
  simp only at hl hm
  obtain ⟨rfl, rfl, rfl⟩ := hl
  have hbr : ∀ x ∈ br, isNamed x = true := fun x hx => ht x (hm.subset hx)
  simp only
  by_cases h1 : an = 0 ∨ ac > 16384
  · rw [if_pos h1, if_pos h1]
    exact ⟨rfl, rfl, hbr⟩
  · rw [if_neg h1, if_neg h1, dol_no (pk_no hbr h36), dol_no (by have := pk_no hbr (rest := []) (by decide); simpa using this)]
    simp only
    have hd := digs_app 8 0 0 br rest (num_of_named hn)
    have hm2 := digs_mem 8 0 0 br
    generalize digsA 8 0 0 (br ++ rest) = A at hd
    generalize digsA 8 0 0 br = B at hd hm2
    obtain ⟨dc, dn, dr⟩ := A
    obtain ⟨ec, en, er⟩ := B
    simp only at hd hm2
    obtain ⟨rfl, rfl, rfl⟩ := hd
    exact ⟨rfl, rfl, fun x hx => hbr x (hm2.subset hx)⟩
theorem name_back (f : Nat → List UInt8 → R) (d : Nat) (t rest : List UInt8) (h : NameOk t) (hs : Stop rest) : wordP f d (t ++ rest) = .ok (.name t) rest := by
  have h0 := word_named h.word
  have ht := take_app (p := isNamed) t rest h.word.2 hs.named named_0
  have hpk : pk (t ++ rest) = pk t := pk_app h0.1
  have hc := cell_app t rest h.word.2 h0.1 hs.named hs.n36
  unfold wordP
  rw [ht.1, ht.2, hpk]
  have h36 : pk t ≠ 36 := by
    intro q
    have h := h0.2
    rw [q] at h
    revert h
    decide
  have h95 : ¬ (isAlpha (pk t) = false ∧ pk t ≠ 95) := by
    rintro ⟨h1, h2⟩
    rcases h.word.1 with h | h
    · rw [h1] at h
      cases h
    · exact h2 h
  rw [if_neg h36, if_neg h95, if_neg hs.n40, if_neg hs.n33, if_neg (by rintro (q | q); exact h.ntrue q; exact h.nfalse q)]
  rw [hc.1, hc.2.1]
  refine if_pos ⟨?_, ?_⟩
  · rcases h.ncell with q | q
    · exact .inl q
    · right
      have : (cellP t).rest ≠ [] := by
        intro e
        rw [e] at q
        revert q
        decide
      rw [pk_app this]
      exact q
  · exact pk_no hc.2.2 hs.n36
theorem truth_back (f : Nat → List UInt8 → R) (d : Nat) (b : Bool) (rest : List UInt8) (hs : Stop rest) : wordP f d ((if b then sTRUE else sFALSE) ++ rest) = .ok (.truth b) rest := by
  have ht := take_app (p := isNamed) (if b then sTRUE else sFALSE) rest (by cases b <;> decide) hs.named named_0
  have hpk : pk ((if b then sTRUE else sFALSE) ++ rest) = if b then 84 else 70 := by cases b <;> rfl
  unfold wordP
  rw [ht.1, ht.2, hpk]
  have h36 : ¬ (if b then (84 : UInt8) else 70) = 36 := by cases b <;> decide
  have h95 : ¬ (isAlpha (if b then (84 : UInt8) else 70) = false ∧ (if b then (84 : UInt8) else 70) ≠ 95) := by cases b <;> decide
  have hu : upL (if b then sTRUE else sFALSE) = sTRUE ∨ upL (if b then sTRUE else sFALSE) = sFALSE := by cases b <;> decide
  have hb : decide (upL (if b then sTRUE else sFALSE) = sTRUE) = b := by cases b <;> decide
  rw [if_neg h36, if_neg h95, if_neg hs.n40, if_neg hs.n33, if_pos hu, hb]
/-- A thing is read back. -/
theorem thing_back (f : Nat → List UInt8 → R) (d : Nat) (hf : ∀ x rest, okX x → fit 1 d x → safe 1 rest → Reads (f d (prt 1 x ++ rest)) x rest) :
    ∀ (x : Ex) (rest : List UInt8), okX x → fit 6 d x → Stop rest → Reads (thingP f d (prt 6 x ++ rest)) x rest
  | .num t, rest, hx, hfx, hs => by
    unfold okX at hx
    unfold prt
    right
    have h0 : t ≠ [] := by
      rintro rfl
      have := hx.1
      revert this
      decide
    have hpk : pk (t ++ rest) = pk t := pk_app h0
    unfold thingP litP
    rw [hpk, hx.1, if_pos (by simp [isLit, hx.1]), if_pos rfl]
    exact hx.2.2 rest hs
  | .truth b, rest, hx, hfx, hs => by
    unfold prt
    right
    rw [thing_word f d _ (by
      cases b with
      | true => exact .inl (.inl (show isAlpha 84 = true by decide))
      | false => exact .inl (.inl (show isAlpha 70 = true by decide)))]
    exact truth_back f d b rest hs
  | .err t, rest, hx, hfx, hs => by
    unfold okX at hx
    unfold prt
    right
    have hpk : pk (t ++ rest) = 35 := by
      simp only [errsL, List.mem_cons, List.not_mem_nil, or_false] at hx
      rcases hx with rfl | rfl | rfl | rfl | rfl | rfl | rfl <;> rfl
    unfold thingP litP
    rw [hpk, if_pos (by decide), if_neg (by decide), if_neg (by decide)]
    exact err_back hx rest
  | .name t, rest, hx, hfx, hs => by
    unfold okX at hx
    unfold prt
    right
    have h0 := word_named hx.1.word
    rw [thing_word f d _ (by rw [pk_app h0.1]; exact .inl hx.1.word.1)]
    exact name_back f d t rest hx.1 hs
  | .cell s c r a b, rest, hx, hfx, hs => by
    unfold okX at hx
    unfold prt
    right
    rw [List.append_assoc, sheet_back f d c r a b rest s hx hs.named hs.n40 hs.n33]
    exact place_cell s c r a b rest hx hs
  | .area s c r c2 r2 a b a2 b2, rest, hx, hfx, hs => by
    unfold okX at hx
    unfold prt
    right
    have e : sheetT s ++ (cornerT c r a b ++ 58 :: cornerT c2 r2 a2 b2) ++ rest = sheetT s ++ (cornerT c r a b ++ 58 :: (cornerT c2 r2 a2 b2 ++ rest)) := by simp
    rw [e, sheet_back f d c r a b (58 :: (cornerT c2 r2 a2 b2 ++ rest)) s hx.1 named_58 (show (58 : UInt8) ≠ 40 by decide) (show (58 : UInt8) ≠ 33 by decide)]
    exact place_area s c r c2 r2 a b a2 b2 rest hx.1 hx.2 hs
  | .call t kids, rest, hx, hfx, hs => by
    unfold okX at hx
    unfold fit at hfx
    unfold prt
    have h0 := word_named hx.1
    have e : t ++ 40 :: ((prtM kids).tail ++ [41]) ++ rest = t ++ 40 :: ((prtM kids).tail ++ 41 :: rest) := by simp
    have ht := take_app (p := isNamed) t (40 :: ((prtM kids).tail ++ 41 :: rest)) hx.1.2 named_40 named_0
    have hpk : pk (t ++ 40 :: ((prtM kids).tail ++ 41 :: rest)) = pk t := pk_app h0.1
    rw [e, thing_word f d _ (by rw [hpk]; exact .inl hx.1.1)]
    have h36 : pk t ≠ 36 := by
      intro q
      have h := h0.2
      rw [q] at h
      revert h
      decide
    have h95 : ¬ (isAlpha (pk t) = false ∧ pk t ≠ 95) := by
      rintro ⟨h1, h2⟩
      rcases hx.1.1 with h | h
      · rw [h1] at h
        cases h
      · exact h2 h
    have hw : wordP f d (t ++ 40 :: ((prtM kids).tail ++ 41 :: rest)) = callP f t d (40 :: ((prtM kids).tail ++ 41 :: rest)) := by
      unfold wordP
      rw [ht.1, ht.2, hpk, if_neg h36, if_neg h95, pkc 40, if_pos rfl, hx.2.1]
    rw [hw]
    have hd : d + (6 - 6) = d := by omega
    rw [hd] at hfx
    exact call_back f d hf t kids rest hx.2.2.2 hfx.2
  | .bin o x y, rest, hx, hfx, hs => by
    have hx2 := hx
    unfold okX at hx2
    have hl := lev_ops hx2.1
    have h1 := hf (.bin o x y) (41 :: rest) hx (fit_open o x y d hx hfx) (.inr (.inl rfl))
    have e : prt 6 (.bin o x y) ++ rest = 40 :: (prt 1 (.bin o x y) ++ 41 :: rest) := by
      unfold prt
      rw [if_pos (by omega), if_neg (by omega)]
      simp
    rw [e]
    have hw : thingP f d (40 :: (prt 1 (.bin o x y) ++ 41 :: rest)) = match f d (prt 1 (.bin o x y) ++ 41 :: rest) with
      | .ok x r2 => if pk (blk r2) = 41 then .ok x (blk r2).tail else .bad
      | x => x := by
      have e1 : pk (40 :: (prt 1 (.bin o x y) ++ 41 :: rest)) = 40 := rfl
      unfold thingP
      rw [e1, if_neg (by decide), if_neg (by decide), if_pos rfl, List.tail_cons]
      rfl
    rw [hw]
    rcases h1 with h1 | h1
    · rw [h1]
      exact .inl rfl
    · rw [h1]
      right
      have hb : blk (41 :: rest) = 41 :: rest := Stop.blk (show (41 : UInt8) ≠ 32 by decide)
      simp only [hb]
      rfl
  | .odd, rest, hx, hfx, hs => by unfold okX at hx; exact hx.elim

theorem chain_rec (P : Ex → Prop) (base : ∀ x, (∀ o a b, x ≠ .bin o a b) → P x) (step : ∀ o a b, P a → P (.bin o a b)) : ∀ x, P x
  | .bin o a b => step o a b (chain_rec P base step a)
  | .num _ => base _ (fun _ _ _ h => by cases h)
  | .truth _ => base _ (fun _ _ _ h => by cases h)
  | .err _ => base _ (fun _ _ _ h => by cases h)
  | .name _ => base _ (fun _ _ _ h => by cases h)
  | .cell _ _ _ _ _ => base _ (fun _ _ _ h => by cases h)
  | .area _ _ _ _ _ _ _ _ _ => base _ (fun _ _ _ h => by cases h)
  | .call _ _ => base _ (fun _ _ _ h => by cases h)
  | .odd => base _ (fun _ _ _ h => by cases h)
/-- A chain of operators of one level. -/
def chainP (h : List UInt8 → R) (l : Nat) (r : List UInt8) : R :=
  match h r with
  | .ok x r1 => opsP h l (r1.length + 1) x r1
  | x => x
theorem chain_back (h : List UInt8 → R) (l D : Nat) (h1 : 1 ≤ l) (h5 : l ≤ 5)
    (hh : ∀ x rest, okX x → fit (l + 1) (D + 1) x → safe (l + 1) rest → Reads (h (prt (l + 1) x ++ rest)) x rest) :
    ∀ (x : Ex) (rest : List UInt8), okX x → fit l D x → safe (l + 1) rest → chainP h l (prt l x ++ rest) = .out ∨ ∃ m, chainP h l (prt l x ++ rest) = opsP h l m x rest := by
  intro x
  have base : ∀ (x : Ex) (rest : List UInt8), okX x → fit l D x → safe (l + 1) rest → (∀ o a b, x = .bin o a b → lev o ≠ l) → chainP h l (prt l x ++ rest) = .out ∨ ∃ m, chainP h l (prt l x ++ rest) = opsP h l m x rest := by
    intro x rest hx hfx hs hne
    have h2 := hh x rest hx (fit_up x l D h1 h5 hx hne hfx) hs
    rw [prt_up x l hne] at h2
    unfold chainP
    rcases h2 with h2 | h2
    · rw [h2]
      exact .inl rfl
    · rw [h2]
      exact .inr ⟨_, rfl⟩
  have step : ∀ (o : List UInt8) (a b : Ex), (∀ (rest : List UInt8), okX a → fit l D a → safe (l + 1) rest → chainP h l (prt l a ++ rest) = .out ∨ ∃ m, chainP h l (prt l a ++ rest) = opsP h l m a rest) → ∀ rest : List UInt8, okX (.bin o a b) → fit l D (.bin o a b) → safe (l + 1) rest → chainP h l (prt l (.bin o a b) ++ rest) = .out ∨ ∃ m, chainP h l (prt l (.bin o a b) ++ rest) = opsP h l m (.bin o a b) rest := by
    intro o a b ih rest hx hfx hs
    by_cases hl : lev o = l
    · have hx2 := hx
      unfold okX at hx2
      have hf2 := hfx
      unfold fit at hf2
      have hdp : dp l D o = D := by
        unfold dp
        rw [if_pos (by omega)]
        omega
      rw [hdp, hl] at hf2
      have e : prt l (.bin o a b) ++ rest = prt l a ++ (o ++ (prt (l + 1) b ++ rest)) := by
        rw [prt_bin, if_neg (by omega), hl]
        simp
      have hpb := fun e he => pk_prt b (l + 1) hx2.2.2 rest (e := e) he
      rw [e]
      rcases ih (o ++ (prt (l + 1) b ++ rest)) hx2.2.1 hf2.2.1 (.inr (.inr (.inr ⟨o, _, hx2.1, by omega, rfl⟩))) with h2 | ⟨m, h2⟩
      · exact .inl h2
      · rw [h2]
        cases m with
        | zero => exact .inl rfl
        | succ m =>
          have hop := op_hit hx2.1 (prt (l + 1) b ++ rest) (hpb 61 (by decide)) (hpb 62 (by decide))
          rw [hl] at hop
          have hbl := Stop.blk (op_stop hx2.1 (prt (l + 1) b ++ rest)).n32
          rw [opsP, hbl, hop]
          simp only [List.drop_left]
          rcases hh b rest hx2.2.2 hf2.2.2 hs with h3 | h3
          · rw [h3]
            exact .inl rfl
          · rw [h3]
            exact .inr ⟨m, rfl⟩
    · exact base _ rest hx hfx hs (fun o' a' b' q => by cases q; exact hl)
  have all : ∀ (x : Ex) (rest : List UInt8), okX x → fit l D x → safe (l + 1) rest → chainP h l (prt l x ++ rest) = .out ∨ ∃ m, chainP h l (prt l x ++ rest) = opsP h l m x rest := by
    intro x
    exact chain_rec (fun x => ∀ rest : List UInt8, okX x → fit l D x → safe (l + 1) rest → chainP h l (prt l x ++ rest) = .out ∨ ∃ m, chainP h l (prt l x ++ rest) = opsP h l m x rest) (fun x hne rest hx hfx hs => base x rest hx hfx hs (fun o a b q => absurd q (hne o a b))) step x
  exact all x
theorem lv_back : ∀ (k n d : Nat) (x : Ex) (rest : List UInt8), 1 ≤ n → n ≤ 6 → okX x → fit n d x → safe n rest → Reads (lv k n d (prt n x ++ rest)) x rest
  | 0, n, d, x, rest, _, _, _, _, _ => .inl rfl
  | k + 1, n, d, x, rest, h1, h6, hx, hfx, hs => by
    unfold lv
    by_cases hn : 5 < n
    · rw [if_pos hn]
      obtain rfl : n = 6 := by omega
      have ht := thing_back (fun d r => lv k 1 d r) d (fun x rest hx hfx hs => lv_back k 1 d x rest (by omega) (by omega) hx hfx hs) x rest hx hfx hs.stop
      have hsg : Reads (signedA (fun d r => lv k 1 d r) ((prt 6 x ++ rest).length + 1) d (prt 6 x ++ rest)) x rest := by
        have h45 := pk_prt x 6 hx rest (e := 45) (by decide)
        have h43 := pk_prt x 6 hx rest (e := 43) (by decide)
        unfold signedA
        rw [blk_prt x 6 hx rest, if_neg (by rintro (q | q); exact h45 q; exact h43 q)]
        exact ht
      unfold pctP
      rcases hsg with hsg | hsg
      · rw [hsg]
        exact .inl rfl
      · rw [hsg]
        right
        have hb := Stop.blk hs.stop.n32
        show pctL (rest.length + 1) x rest = _
        unfold pctL
        rw [hb, if_neg hs.stop.n37]
    · rw [if_neg hn]
      have hd : d + 1 ≤ 360 := by
        cases x with
        | bin o x y =>
          unfold okX at hx
          have hl := lev_ops hx.1
          unfold fit at hfx
          have := hfx.1
          unfold dp at this
          split at this <;> omega
        | call t kids => unfold fit at hfx; omega
        | odd => unfold okX at hx; exact hx.elim
        | num t => unfold fit at hfx; omega
        | truth t => unfold fit at hfx; omega
        | err t => unfold fit at hfx; omega
        | name t => unfold fit at hfx; omega
        | cell _ _ _ _ _ => unfold fit at hfx; omega
        | area _ _ _ _ _ _ _ _ _ => unfold fit at hfx; omega
      rw [if_neg (by omega)]
      have hc := chain_back (fun r => lv k (n + 1) (d + 1) r) n d h1 (by omega) (fun x rest hx hfx hs => lv_back k (n + 1) (d + 1) x rest (by omega) (by omega) hx hfx hs) x rest hx hfx (by
        rcases hs with h | h | h | ⟨o, y, ho, hlo, he⟩
        · exact .inl h
        · exact .inr (.inl h)
        · exact .inr (.inr (.inl h))
        · exact .inr (.inr (.inr ⟨o, y, ho, by omega, he⟩)))
      unfold chainP at hc
      rcases hc with hc | ⟨m, hc⟩
      · exact .inl hc
      · show Reads (match lv k (n + 1) (d + 1) (prt n x ++ rest) with
          | .ok x r1 => opsP (fun r => lv k (n + 1) (d + 1) r) n (r1.length + 1) x r1
          | x => x) x rest
        rw [hc]
        cases m with
        | zero => exact .inl rfl
        | succ m =>
          unfold opsP
          rw [Stop.blk hs.stop.n32, hs.none (Nat.le_refl _)]
          exact .inr rfl

end Go.Proofs.YtfeffdjnjckjaaaGreatDoor.Rg
