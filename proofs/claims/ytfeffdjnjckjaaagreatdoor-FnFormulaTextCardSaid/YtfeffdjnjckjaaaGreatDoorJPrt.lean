/- A tree as it is written. -/
import Derived.Test.YtfeffdjnjckjaaaGreatDoorJPure
import Derived.Lib.ItoaNum
/- The letters of a column's number and the digits of a row's, and that the reader of cells reads them back. -/
namespace Go.Proofs.YtfeffdjnjckjaaaGreatDoor.Rg
open Go.RowKit

def UpC (a : UInt8) : Prop := 65 ≤ a.toNat ∧ a.toNat ≤ 90

/-- The letters of a column's number. -/
def colName (n : Nat) : List UInt8 :=
  if _h : n = 0 then [] else colName ((n - 1) / 26) ++ [UInt8.ofNat (65 + (n - 1) % 26)]
termination_by n
decreasing_by omega

theorem colName_zero : colName 0 = [] := by rw [colName]; simp
theorem colName_succ (m : Nat) : colName (m + 1) = colName (m / 26) ++ [UInt8.ofNat (65 + m % 26)] := by
  rw [colName, dif_neg (by omega)]
  simp
theorem letter_nat (m : Nat) : (UInt8.ofNat (65 + m % 26)).toNat = 65 + m % 26 := by
  show (65 + m % 26) % 256 = 65 + m % 26
  omega
theorem colName_up : ∀ (n : Nat), ∀ a ∈ colName n, UpC a := by
  intro n
  induction n using Nat.strongRecOn with
  | _ n ih =>
    cases n with
    | zero => intro a ha; rw [colName_zero] at ha; simp at ha
    | succ m =>
      intro a ha
      rw [colName_succ] at ha
      rcases List.mem_append.1 ha with h | h
      · exact ih (m / 26) (by omega) a h
      · simp only [List.mem_singleton] at h
        subst h
        unfold UpC
        rw [letter_nat]
        omega
theorem colName_len (n : Nat) (h : 1 ≤ n) (h2 : n ≤ 16384) : 1 ≤ (colName n).length ∧ (colName n).length ≤ 3 := by
  obtain ⟨a, rfl⟩ : ∃ a, n = a + 1 := ⟨n - 1, by omega⟩
  rw [colName_succ, List.length_append, List.length_singleton]
  refine ⟨by omega, ?_⟩
  rcases Nat.eq_zero_or_pos (a / 26) with h0 | h0
  · rw [h0, colName_zero]
    simp
  · obtain ⟨b, hb⟩ : ∃ b, a / 26 = b + 1 := ⟨a / 26 - 1, by omega⟩
    rw [hb, colName_succ, List.length_append, List.length_singleton]
    rcases Nat.eq_zero_or_pos (b / 26) with h1 | h1
    · rw [h1, colName_zero]
      simp
    · obtain ⟨c, hc⟩ : ∃ c, b / 26 = c + 1 := ⟨b / 26 - 1, by omega⟩
      rw [hc, colName_succ, List.length_append, List.length_singleton]
      have : c / 26 = 0 := by omega
      rw [this, colName_zero]
      simp
theorem upC_alpha {a : UInt8} (h : UpC a) : isAlpha a = true := by
  obtain ⟨h1, h2⟩ := h
  simp [isAlpha]
  omega
theorem upC_up {a : UInt8} (h : UpC a) : up a = a := by
  obtain ⟨h1, h2⟩ := h
  unfold up
  rw [if_neg (by simp; omega)]
def colVal (c : Nat) (l : List UInt8) : Nat := l.foldl (fun c a => 26 * c + colOf a) c
theorem colVal_name : ∀ n, colVal 0 (colName n) = n := by
  intro n
  induction n using Nat.strongRecOn with
  | _ n ih =>
    cases n with
    | zero => rw [colName_zero]; rfl
    | succ m =>
      have h1 := ih (m / 26) (by omega)
      unfold colVal at h1 ⊢
      rw [colName_succ, List.foldl_append, h1]
      simp only [List.foldl_cons, List.foldl_nil, colOf]
      rw [upC_up (by unfold UpC; rw [letter_nat]; omega), letter_nat]
      omega
theorem lets_all : ∀ (l : List UInt8) (k c n : Nat) (rest : List UInt8), (∀ a ∈ l, UpC a) → isAlpha (pk rest) = false → l.length ≤ k → letsA k c n (l ++ rest) = (colVal c l, n + l.length, rest)
  | [], 0, c, n, rest, _, _, _ => rfl
  | [], k + 1, c, n, rest, _, h, _ => by
    show letsA (k + 1) c n rest = _
    unfold letsA
    rw [h]
    rfl
  | a :: l, 0, c, n, rest, _, _, h => by simp at h
  | a :: l, k + 1, c, n, rest, hu, h, hk => by
    show letsA (k + 1) c n (a :: (l ++ rest)) = _
    unfold letsA
    show (if isAlpha a = true then letsA k (26 * c + colOf a) (n + 1) (l ++ rest) else _) = _
    rw [if_pos (upC_alpha (hu a (by simp))), lets_all l k _ _ rest (fun b hb => hu b (by simp [hb])) h (by simp at hk; omega)]
    show (colVal c (a :: l), n + 1 + l.length, rest) = _
    rw [List.length_cons, Nat.add_assoc, Nat.add_comm 1]

def DigC (a : UInt8) : Prop := 48 ≤ a.toNat ∧ a.toNat ≤ 57
theorem dig_nat (d : Nat) (h : d < 10) : (UInt8.ofNat (48 + d)).toNat = 48 + d := by
  show (48 + d) % 256 = 48 + d
  omega
theorem digits_small {u : Nat} (h : u < 10) : Lib.decDigits u = [UInt8.ofNat (48 + u)] := by rw [Lib.decDigits, dif_pos h]
theorem digits_more {u : Nat} (h : ¬ u < 10) : Lib.decDigits u = Lib.decDigits (u / 10) ++ [UInt8.ofNat (48 + u % 10)] := by rw [Lib.decDigits, dif_neg h]
theorem digits_dig : ∀ (u : Nat), ∀ a ∈ Lib.decDigits u, DigC a := by
  intro u
  induction u using Nat.strongRecOn with
  | _ u ih =>
    intro a ha
    by_cases h : u < 10
    · rw [digits_small h] at ha
      simp only [List.mem_singleton] at ha
      subst ha
      unfold DigC
      rw [dig_nat u h]
      omega
    · rw [digits_more h] at ha
      rcases List.mem_append.1 ha with h1 | h1
      · exact ih (u / 10) (by omega) a h1
      · simp only [List.mem_singleton] at h1
        subst h1
        unfold DigC
        rw [dig_nat _ (by omega)]
        omega
theorem digits_pos (u : Nat) : 1 ≤ (Lib.decDigits u).length := by
  by_cases h : u < 10
  · rw [digits_small h]; simp
  · rw [digits_more h]; simp
theorem digits_short : ∀ (k u : Nat), u < 10 ^ (k + 1) → (Lib.decDigits u).length ≤ k + 1
  | 0, u, h => by
    rw [digits_small (by omega)]
    simp
  | k + 1, u, h => by
    by_cases h1 : u < 10
    · rw [digits_small h1]; simp
    · rw [digits_more h1, List.length_append, List.length_singleton]
      have := digits_short k (u / 10) (by rw [Nat.pow_succ] at h; omega)
      omega
theorem digC_num {a : UInt8} (h : DigC a) : isNum a = true := by
  obtain ⟨h1, h2⟩ := h
  simp [isNum]
  omega
def rowVal (c : Nat) (l : List UInt8) : Nat := l.foldl (fun c a => 10 * c + (a.toNat - 48)) c
theorem rowVal_digits : ∀ n, rowVal 0 (Lib.decDigits n) = n := by
  intro n
  induction n using Nat.strongRecOn with
  | _ n ih =>
    by_cases h : n < 10
    · rw [digits_small h]
      unfold rowVal
      simp only [List.foldl_cons, List.foldl_nil]
      rw [dig_nat _ h]
      omega
    · have h1 := ih (n / 10) (by omega)
      unfold rowVal at h1 ⊢
      rw [digits_more h, List.foldl_append, h1]
      simp only [List.foldl_cons, List.foldl_nil]
      rw [dig_nat _ (by omega)]
      omega
theorem digs_all : ∀ (l : List UInt8) (k c n : Nat) (rest : List UInt8), (∀ a ∈ l, DigC a) → isNum (pk rest) = false → l.length ≤ k → digsA k c n (l ++ rest) = (rowVal c l, n + l.length, rest)
  | [], 0, c, n, rest, _, _, _ => rfl
  | [], k + 1, c, n, rest, _, h, _ => by
    show digsA (k + 1) c n rest = _
    unfold digsA
    rw [h]
    rfl
  | a :: l, 0, c, n, rest, _, _, h => by simp at h
  | a :: l, k + 1, c, n, rest, hu, h, hk => by
    show digsA (k + 1) c n (a :: (l ++ rest)) = _
    unfold digsA
    show (if isNum a = true then digsA k (10 * c + (a.toNat - 48)) (n + 1) (l ++ rest) else _) = _
    rw [if_pos (digC_num (hu a (by simp))), digs_all l k _ _ rest (fun b hb => hu b (by simp [hb])) h (by simp at hk; omega)]
    show (rowVal c (a :: l), n + 1 + l.length, rest) = _
    rw [List.length_cons, Nat.add_assoc, Nat.add_comm 1]

theorem pk_app {l rest : List UInt8} (h : l ≠ []) : pk (l ++ rest) = pk l := by
  cases l with
  | nil => exact absurd rfl h
  | cons a l => rfl
theorem pk_mem {l : List UInt8} (h : l ≠ []) : pk l ∈ l := by
  cases l with
  | nil => exact absurd rfl h
  | cons a l => simp [pk]
theorem colName_ne {c : Nat} (h : 1 ≤ c) : colName c ≠ [] := by
  obtain ⟨a, rfl⟩ : ∃ a, c = a + 1 := ⟨c - 1, by omega⟩
  rw [colName_succ]
  simp
theorem digits_ne (r : Nat) : Lib.decDigits r ≠ [] := by
  intro h
  have := digits_pos r
  rw [h] at this
  simp at this
theorem colName_pk {c : Nat} (h : 1 ≤ c) (rest : List UInt8) : UpC (pk (colName c ++ rest)) := by
  rw [pk_app (colName_ne h)]
  exact colName_up c _ (pk_mem (colName_ne h))
theorem digits_pk (r : Nat) (rest : List UInt8) : DigC (pk (Lib.decDigits r ++ rest)) := by
  rw [pk_app (digits_ne r)]
  exact digits_dig r _ (pk_mem (digits_ne r))
theorem upC_ne {a : UInt8} (h : UpC a) (c : UInt8) (hc : c.toNat < 65) : a ≠ c := by
  intro e
  subst e
  obtain ⟨h1, _⟩ := h
  omega
theorem digC_ne {a : UInt8} (h : DigC a) (c : UInt8) (hc : c.toNat < 48) : a ≠ c := by
  intro e
  subst e
  obtain ⟨h1, _⟩ := h
  omega

def dolT (a : Bool) (l : List UInt8) : List UInt8 := if a then 36 :: l else l
theorem dol_back (a : Bool) (l : List UInt8) (h : pk l ≠ 36) : dol (dolT a l) = (a, l) := by
  cases a with
  | true => rfl
  | false =>
    unfold dol dolT
    rw [if_neg (by simpa using h)]
    rfl
/-- A cell as it is written. -/
def cornerT (c r : Nat) (a b : Bool) : List UInt8 := dolT a (colName c ++ dolT b (Lib.decDigits r))
theorem dolT_app (a : Bool) (l m : List UInt8) : dolT a l ++ m = dolT a (l ++ m) := by cases a <;> rfl
theorem cornerT_app (c r : Nat) (a b : Bool) (rest : List UInt8) : cornerT c r a b ++ rest = dolT a (colName c ++ dolT b (Lib.decDigits r ++ rest)) := by
  unfold cornerT
  rw [dolT_app, List.append_assoc, dolT_app]
theorem dolT_alpha (b : Bool) (r : Nat) (rest : List UInt8) : isAlpha (pk (dolT b (Lib.decDigits r ++ rest))) = false := by
  cases b with
  | true => rfl
  | false =>
    show isAlpha (pk (Lib.decDigits r ++ rest)) = false
    obtain ⟨h1, h2⟩ := digits_pk r rest
    simp [isAlpha]
    omega
/-- The reader of cells reads a cell back. -/
theorem cell_read (c r : Nat) (a b : Bool) (rest : List UInt8) (h1 : 1 ≤ c) (h2 : c ≤ 16384) (h3 : 1 ≤ r) (h4 : r ≤ 1048576) (h : isNum (pk rest) = false) :
    cellP (cornerT c r a b ++ rest) = ⟨c, r, a, b, true, rest⟩ := by
  have hl := colName_len c h1 h2
  have hd := digits_short 6 r (by omega)
  have hp := digits_pos r
  rw [cornerT_app]
  unfold cellP
  rw [dol_back a _ (upC_ne (colName_pk h1 _) _ (by decide))]
  simp only
  rw [lets_all (colName c) 4 0 0 _ (colName_up c) (dolT_alpha b r rest) (by omega), colVal_name]
  simp only
  rw [if_neg (by omega), dol_back b _ (digC_ne (digits_pk r rest) _ (by decide))]
  simp only
  rw [digs_all _ 8 0 0 rest (digits_dig r) h (by omega), rowVal_digits]
  simp
  omega
theorem cornerT_len (c r : Nat) (a b : Bool) (h1 : 1 ≤ c) (h2 : c ≤ 16384) (h4 : r ≤ 1048576) : (cornerT c r a b).length ≤ 12 := by
  have hl := colName_len c h1 h2
  have hd := digits_short 6 r (by omega)
  unfold cornerT
  cases a <;> cases b <;> simp [dolT] <;> omega

end Go.Proofs.YtfeffdjnjckjaaaGreatDoor.Rg

/- A tree as it is written, how deep it may lie, and what a tree that was read is like. -/
namespace Go.Proofs.YtfeffdjnjckjaaaGreatDoor.Rg
open Go.RowKit

/-- A text with every mark in it twice. -/
def dbl (m : UInt8) : List UInt8 → List UInt8
  | [] => []
  | c :: l => if c = m then m :: c :: dbl m l else c :: dbl m l
def plainS (s : List UInt8) : Bool := isAlpha (pk s) && s.all (fun c => isAlpha c || isNum c)
/-- A sheet's name ahead of a cell. -/
def sheetT (s : List UInt8) : List UInt8 := if s = [] then [] else if plainS s = true then s ++ [33] else 39 :: (dbl 39 s ++ [39, 33])
mutual
/-- A tree as it is written where a level is asked for. -/
def prt : Nat → Ex → List UInt8
  | _, .num t => t
  | _, .truth b => if b then sTRUE else sFALSE
  | _, .err t => t
  | _, .name t => t
  | _, .cell s c r a b => sheetT s ++ cornerT c r a b
  | _, .area s c r c2 r2 a b a2 b2 => sheetT s ++ (cornerT c r a b ++ 58 :: cornerT c2 r2 a2 b2)
  | _, .call t kids => t ++ 40 :: ((prtM kids).tail ++ [41])
  | n, .bin o x y => if lev o < n then 40 :: (prt (lev o) x ++ (o ++ (prt (lev o + 1) y ++ [41]))) else prt (lev o) x ++ (o ++ prt (lev o + 1) y)
  | _, .odd => []
/-- Arguments, a comma ahead of each. -/
def prtM : List Ex → List UInt8
  | [] => []
  | x :: l => 44 :: (prt 1 x ++ prtM l)
end
/-- How deep an operator of two stands. -/
def dp (n d : Nat) (o : List UInt8) : Nat := if n ≤ lev o then d + (lev o - n) else d + (6 - n) + (lev o - 1)
mutual
/-- A tree may lie so deep. -/
def fit : Nat → Nat → Ex → Prop
  | n, d, .bin o x y => dp n d o + 1 ≤ 360 ∧ fit (lev o) (dp n d o) x ∧ fit (lev o + 1) (dp n d o + 1) y
  | n, d, .call _ kids => d + (6 - n) ≤ 360 ∧ fitL (d + (6 - n)) kids
  | n, d, .num _ => d + (6 - n) ≤ 360
  | n, d, .truth _ => d + (6 - n) ≤ 360
  | n, d, .err _ => d + (6 - n) ≤ 360
  | n, d, .name _ => d + (6 - n) ≤ 360
  | n, d, .cell _ _ _ _ _ => d + (6 - n) ≤ 360
  | n, d, .area _ _ _ _ _ _ _ _ _ => d + (6 - n) ≤ 360
  | _, _, .odd => False
def fitL : Nat → List Ex → Prop
  | _, [] => True
  | d, x :: l => fit 1 d x ∧ fitL d l
end
/-- What comes behind a thing: no part of it. -/
structure Stop (rest : List UInt8) : Prop where
  named : isNamed (pk rest) = false
  n36 : pk rest ≠ 36
  n40 : pk rest ≠ 40
  n33 : pk rest ≠ 33
  n58 : pk rest ≠ 58
  n37 : pk rest ≠ 37
  n32 : pk rest ≠ 32
def wordLike (t : List UInt8) : Prop := (isAlpha (pk t) = true ∨ pk t = 95) ∧ ∀ c ∈ t, isNamed c = true
structure NameOk (t : List UInt8) : Prop where
  word : wordLike t
  ntrue : upL t ≠ sTRUE
  nfalse : upL t ≠ sFALSE
  ncell : (cellP t).ok = false ∨ isNamed (pk (cellP t).rest) = true
structure CellOk (s : List UInt8) (c r : Nat) : Prop where
  c1 : 1 ≤ c
  c2 : c ≤ 16384
  r1 : 1 ≤ r
  r2 : r ≤ 1048576
  len : s.length ≤ 500
mutual
/-- What a tree that was read is like, if it has no odd part. -/
def okX : Ex → Prop
  | .num t => isNum (pk t) = true ∧ t.length ≤ 500 ∧ ∀ rest, Stop rest → numP (t ++ rest) = .ok (.num t) rest
  | .truth _ => True
  | .err t => t ∈ errsL
  | .name t => NameOk t ∧ t.length ≤ 500
  | .cell s c r _ _ => CellOk s c r
  | .area s c r c2 r2 _ _ _ _ => CellOk s c r ∧ CellOk s c2 r2
  | .call t kids => wordLike t ∧ upL t = t ∧ t.length ≤ 500 ∧ okL kids
  | .bin o x y => o ∈ opsL ∧ okX x ∧ okX y
  | .odd => False
def okL : List Ex → Prop
  | [] => True
  | x :: l => okX x ∧ okL l
end

theorem lev_ops {o : List UInt8} (h : o ∈ opsL) : 1 ≤ lev o ∧ lev o ≤ 5 := by
  simp only [opsL, List.mem_cons, List.not_mem_nil, or_false] at h
  rcases h with rfl | rfl | rfl | rfl | rfl | rfl | rfl | rfl | rfl | rfl | rfl | rfl <;> decide
theorem dp_le {n d : Nat} {o : List UInt8} (d' : Nat) (h : d' ≤ d) : dp n d' o ≤ dp n d o := by
  unfold dp
  split <;> omega
mutual
theorem fit_mono : ∀ (x : Ex) (n d d' : Nat), d' ≤ d → fit n d x → fit n d' x
  | .bin o x y, n, d, d', h, hf => by
    unfold fit at hf ⊢
    obtain ⟨h1, h2, h3⟩ := hf
    have h4 := dp_le (n := n) (o := o) d' h
    exact ⟨by omega, fit_mono x _ _ _ h4 h2, fit_mono y _ _ _ (by omega) h3⟩
  | .call _ kids, n, d, d', h, hf => by
    unfold fit at hf ⊢
    obtain ⟨h1, h2⟩ := hf
    exact ⟨by omega, fitL_mono kids _ _ (by omega) h2⟩
  | .num _, n, d, d', h, hf => by unfold fit at hf ⊢; omega
  | .truth _, n, d, d', h, hf => by unfold fit at hf ⊢; omega
  | .err _, n, d, d', h, hf => by unfold fit at hf ⊢; omega
  | .name _, n, d, d', h, hf => by unfold fit at hf ⊢; omega
  | .cell _ _ _ _ _, n, d, d', h, hf => by unfold fit at hf ⊢; omega
  | .area _ _ _ _ _ _ _ _ _, n, d, d', h, hf => by unfold fit at hf ⊢; omega
  | .odd, n, d, d', h, hf => by unfold fit at hf; exact hf.elim
theorem fitL_mono : ∀ (l : List Ex) (d d' : Nat), d' ≤ d → fitL d l → fitL d' l
  | [], _, _, _, _ => by unfold fitL; trivial
  | x :: l, d, d', h, hf => by
    unfold fitL at hf ⊢
    exact ⟨fit_mono x _ _ _ h hf.1, fitL_mono l _ _ h hf.2⟩
end
/-- A part that fits a level tighter fits here. -/
theorem fit_down (x : Ex) (n d : Nat) (h1 : 1 ≤ n) (h5 : n ≤ 5) (hx : okX x) (h : fit (n + 1) (d + 1) x) : fit n d x := by
  cases x with
  | bin o x y =>
    unfold okX at hx
    have hl := lev_ops hx.1
    unfold fit at h ⊢
    have hd : dp n d o ≤ dp (n + 1) (d + 1) o := by
      unfold dp
      by_cases h2 : n + 1 ≤ lev o
      · rw [if_pos h2, if_pos (by omega)]
        omega
      · rw [if_neg h2]
        by_cases h3 : n ≤ lev o
        · rw [if_pos h3]
          omega
        · rw [if_neg h3]
          omega
    exact ⟨by omega, fit_mono x _ _ _ hd h.2.1, fit_mono y _ _ _ (by omega) h.2.2⟩
  | call t kids =>
    unfold fit at h ⊢
    exact ⟨by omega, fitL_mono kids _ _ (by omega) h.2⟩
  | odd => unfold fit at h; exact h.elim
  | num t => unfold fit at h ⊢; omega
  | truth t => unfold fit at h ⊢; omega
  | err t => unfold fit at h ⊢; omega
  | name t => unfold fit at h ⊢; omega
  | cell _ _ _ _ _ => unfold fit at h ⊢; omega
  | area _ _ _ _ _ _ _ _ _ => unfold fit at h ⊢; omega
/-- What is written at a level without brackets fits a level tighter, one deeper. -/
theorem fit_up (x : Ex) (n d : Nat) (h1 : 1 ≤ n) (h5 : n ≤ 5) (hx : okX x) (hn : ∀ o a b, x = .bin o a b → lev o ≠ n) (h : fit n d x) : fit (n + 1) (d + 1) x := by
  cases x with
  | bin o x y =>
    unfold okX at hx
    have hl := lev_ops hx.1
    have hne := hn _ _ _ rfl
    unfold fit at h ⊢
    have hd : dp (n + 1) (d + 1) o = dp n d o := by
      unfold dp
      by_cases h2 : n + 1 ≤ lev o
      · rw [if_pos h2, if_pos (by omega)]
        omega
      · rw [if_neg h2, if_neg (by omega)]
        omega
    rw [hd]
    exact h
  | call t kids =>
    unfold fit at h ⊢
    have e : d + 1 + (6 - (n + 1)) = d + (6 - n) := by omega
    rw [e]
    exact h
  | odd => unfold fit at h; exact h.elim
  | num t => unfold fit at h ⊢; omega
  | truth t => unfold fit at h ⊢; omega
  | err t => unfold fit at h ⊢; omega
  | name t => unfold fit at h ⊢; omega
  | cell _ _ _ _ _ => unfold fit at h ⊢; omega
  | area _ _ _ _ _ _ _ _ _ => unfold fit at h ⊢; omega
theorem prt_up (x : Ex) (n : Nat) (hn : ∀ o a b, x = .bin o a b → lev o ≠ n) : prt (n + 1) x = prt n x := by
  cases x with
  | bin o x y =>
    have hne := hn _ _ _ rfl
    unfold prt
    by_cases h : lev o < n
    · rw [if_pos h, if_pos (by omega)]
    · rw [if_neg h, if_neg (by omega)]
  | _ => unfold prt; rfl
theorem prt_le (x : Ex) (n : Nat) : (prt n x).length ≤ (prt (n + 1) x).length := by
  cases x with
  | bin o x y =>
    unfold prt
    by_cases h : lev o < n
    · rw [if_pos h, if_pos (by omega)]
      exact Nat.le_refl _
    · rw [if_neg h]
      split
      · simp
        omega
      · exact Nat.le_refl _
  | _ => unfold prt; exact Nat.le_refl _
/-- Brackets bring a tree back to the first level. -/
theorem fit_paren (x : Ex) (d : Nat) (hd : d ≤ 360) (hx : okX x) (h : fit 1 d x) : fit 6 d x := by
  cases x with
  | bin o x y =>
    unfold okX at hx
    have hl := lev_ops hx.1
    unfold fit at h ⊢
    have e : dp 6 d o = dp 1 d o := by
      unfold dp
      rw [if_neg (by omega), if_pos (by omega)]
      omega
    rw [e]
    exact h
  | call t kids =>
    unfold fit at h ⊢
    exact ⟨by omega, fitL_mono kids _ _ (by omega) h.2⟩
  | odd => unfold fit at h; exact h.elim
  | num t => unfold fit at h ⊢; omega
  | truth t => unfold fit at h ⊢; omega
  | err t => unfold fit at h ⊢; omega
  | name t => unfold fit at h ⊢; omega
  | cell _ _ _ _ _ => unfold fit at h ⊢; omega
  | area _ _ _ _ _ _ _ _ _ => unfold fit at h ⊢; omega
theorem fit_open (o : List UInt8) (x y : Ex) (d : Nat) (hx : okX (.bin o x y)) (h : fit 6 d (.bin o x y)) : fit 1 d (.bin o x y) := by
  unfold okX at hx
  have hl := lev_ops hx.1
  unfold fit at h ⊢
  have e : dp 6 d o = dp 1 d o := by
    unfold dp
    rw [if_neg (by omega), if_pos (by omega)]
    omega
  rw [← e]
  exact h
theorem prt_paren (x : Ex) : (prt 6 x).length ≤ (prt 1 x).length + 2 := by
  cases x with
  | bin o x y =>
    unfold prt
    split
    · split
      · simp
      · simp
        omega
    · split
      · simp
        omega
      · omega
  | _ => unfold prt; omega

/-- The byte with which a thing begins. -/
def opd (c : UInt8) : Bool := isNamed c || decide (c = 35) || decide (c = 36) || decide (c = 39) || decide (c = 40)
theorem opd_ne {c e : UInt8} (h : opd c = true) (he : opd e = false) : c ≠ e := by
  intro q
  rw [q, he] at h
  cases h
theorem alpha_named {c : UInt8} (h : isAlpha c = true) : isNamed c = true := by simp [isNamed, h]
theorem num_named {c : UInt8} (h : isNum c = true) : isNamed c = true := by simp [isNamed, h]
theorem named_opd {c : UInt8} (h : isNamed c = true) : opd c = true := by simp [opd, h]
theorem word_named {t : List UInt8} (h : wordLike t) : t ≠ [] ∧ isNamed (pk t) = true := by
  have h0 : t ≠ [] := by
    rintro rfl
    rcases h.1 with h | h <;> revert h <;> decide
  exact ⟨h0, h.2 _ (pk_mem h0)⟩
theorem corner_opd (c r : Nat) (a b : Bool) (h : 1 ≤ c) : cornerT c r a b ≠ [] ∧ opd (pk (cornerT c r a b)) = true := by
  unfold cornerT
  cases a with
  | true => exact ⟨by simp [dolT], rfl⟩
  | false =>
    show colName c ++ _ ≠ [] ∧ opd (pk (colName c ++ _)) = true
    exact ⟨by simp [colName_ne h], named_opd (alpha_named (upC_alpha (colName_pk h _)))⟩
theorem sheetT_nil : sheetT [] = [] := rfl
theorem place_opd (s l : List UInt8) (hl : l ≠ [] ∧ opd (pk l) = true) : sheetT s ++ l ≠ [] ∧ opd (pk (sheetT s ++ l)) = true := by
  unfold sheetT
  split
  · exact hl
  · rename_i hs
    split
    · rename_i hp
      refine ⟨by simp, ?_⟩
      rw [List.append_assoc, pk_app hs]
      unfold plainS at hp
      simp only [Bool.and_eq_true] at hp
      exact named_opd (alpha_named hp.1)
    · exact ⟨by simp, rfl⟩
theorem prt_opd : ∀ (x : Ex) (n : Nat), okX x → prt n x ≠ [] ∧ opd (pk (prt n x)) = true
  | .num t, n, h => by
    unfold okX at h
    unfold prt
    refine ⟨?_, named_opd (num_named h.1)⟩
    rintro rfl
    revert h
    simp [pk, isNum]
  | .truth b, n, h => by unfold prt; cases b <;> exact ⟨by decide, by decide⟩
  | .err t, n, h => by
    unfold okX errsL at h
    unfold prt
    simp only [List.mem_cons, List.not_mem_nil, or_false] at h
    rcases h with rfl | rfl | rfl | rfl | rfl | rfl | rfl <;> exact ⟨by decide, by decide⟩
  | .name t, n, h => by
    unfold okX at h
    unfold prt
    have := word_named h.1.word
    exact ⟨this.1, named_opd this.2⟩
  | .cell s c r a b, n, h => by
    unfold okX at h
    unfold prt
    exact place_opd s _ (corner_opd c r a b h.c1)
  | .area s c r c2 r2 a b a2 b2, n, h => by
    unfold okX at h
    unfold prt
    have hc := corner_opd c r a b h.1.c1
    refine place_opd s _ ⟨by simp, ?_⟩
    rw [pk_app hc.1]
    exact hc.2
  | .call t kids, n, h => by
    unfold okX at h
    unfold prt
    have := word_named h.1
    refine ⟨by simp, ?_⟩
    rw [pk_app this.1]
    exact named_opd this.2
  | .bin o x y, n, h => by
    unfold okX at h
    have := prt_opd x (lev o) h.2.1
    unfold prt
    split
    · exact ⟨by simp, rfl⟩
    · refine ⟨by simp [this.1], ?_⟩
      rw [pk_app this.1]
      exact this.2
  | .odd, n, h => by unfold okX at h; exact h.elim

end Go.Proofs.YtfeffdjnjckjaaaGreatDoor.Rg
