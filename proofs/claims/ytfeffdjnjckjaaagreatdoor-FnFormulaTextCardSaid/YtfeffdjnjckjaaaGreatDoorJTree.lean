/- Formulas as trees in memory. -/
import Derived.Test.YtfeffdjnjckjaaaGreatDoorJBase
/- Formulas as trees, and how they lie in memory. -/
namespace Go.Proofs.YtfeffdjnjckjaaaGreatDoor.Rg
open Go.RowKit

/-- A formula as a tree; odd: one with a string, an array, a sign, a percent, or a left-out argument at its top. -/
inductive Ex where
  | num (t : List UInt8)
  | truth (b : Bool)
  | err (t : List UInt8)
  | name (t : List UInt8)
  | cell (sheet : List UInt8) (c r : Nat) (f0 f1 : Bool)
  | area (sheet : List UInt8) (c r c2 r2 : Nat) (f0 f1 f2 f3 : Bool)
  | call (t : List UInt8) (kids : List Ex)
  | bin (o : List UInt8) (a b : Ex)
  | odd

/-- The fields of a formula in memory. -/
structure Ev where
  op : ByteArray
  text : ByteArray
  is : Bool
  sheet : ByteArray
  c : Int
  r : Int
  c2 : Int
  r2 : Int
  f0 : Bool
  f1 : Bool
  f2 : Bool
  f3 : Bool
  wide : Int
  A : Option Addr
  n : Nat
  k : Nat
def Ev.cells (v : Ev) : List Value := [.string v.op, .string v.text, .bool v.is, .string v.sheet, .int .i64 v.c, .int .i64 v.r, .int .i64 v.c2, .int .i64 v.r2, .bool v.f0, .bool v.f1, .bool v.f2, .bool v.f3, .int .i64 v.wide, .slice v.A v.n v.k]
def Ev.val (v : Ev) : Value := .agg #[.string v.op, .string v.text, .bool v.is, .string v.sheet, .int .i64 v.c, .int .i64 v.r, .int .i64 v.c2, .int .i64 v.r2, .bool v.f0, .bool v.f1, .bool v.f2, .bool v.f3, .int .i64 v.wide, .slice v.A v.n v.k]
def Ev.zero : Ev := ⟨⟨#[]⟩, ⟨#[]⟩, false, ⟨#[]⟩, 0, 0, 0, 0, false, false, false, false, 0, none, 0, 0⟩

def sNum : ByteArray := ⟨#[110, 117, 109]⟩
def sText : ByteArray := ⟨#[116, 101, 120, 116]⟩
def sTruth : ByteArray := ⟨#[116, 114, 117, 116, 104]⟩
def sError : ByteArray := ⟨#[101, 114, 114, 111, 114]⟩
def sCell : ByteArray := ⟨#[99, 101, 108, 108]⟩
def sArea : ByteArray := ⟨#[97, 114, 101, 97]⟩
def sArray : ByteArray := ⟨#[97, 114, 114, 97, 121]⟩
def sCall : ByteArray := ⟨#[99, 97, 108, 108]⟩
def sNone : ByteArray := ⟨#[110, 111, 110, 101]⟩
def sName : ByteArray := ⟨#[110, 97, 109, 101]⟩
def sNeg : ByteArray := ⟨#[110, 101, 103]⟩
def sPlus : ByteArray := ⟨#[112, 108, 117, 115]⟩
def sPercent : ByteArray := ⟨#[112, 101, 114, 99, 101, 110, 116]⟩
def oddOps : List ByteArray := [sText, sArray, sNeg, sPlus, sPercent, sNone]

/-- The blocks from B on. -/
def From (B : Nat) : Nat → Prop := fun g => B ≤ g
/-- The fields of formulas lie at A, in a block of those in S. -/
def RowOf (w : World) (S : Nat → Prop) (A : Option Addr) (vs : List Ev) : Prop :=
  vs ≠ [] → ∃ g, A = some ⟨g, 0, none⟩ ∧ S g ∧ g < w.heap.size ∧ ∀ j u, (vs.flatMap Ev.cells)[j]? = some u → w.cell? ⟨g, j, none⟩ = some u

mutual
/-- The value v is the tree, in blocks of S. -/
def IsEx (w : World) (S : Nat → Prop) : Ex → Ev → Prop
  | .num t, v => v = { Ev.zero with op := sNum, text := bs t }
  | .truth b, v => v = { Ev.zero with op := sTruth, is := b }
  | .err t, v => v = { Ev.zero with op := sError, text := bs t }
  | .name t, v => v = { Ev.zero with op := sName, text := bs t }
  | .cell s c r f0 f1, v => v = { Ev.zero with op := sCell, sheet := bs s, c := c, r := r, f0 := f0, f1 := f1 }
  | .area s c r c2 r2 f0 f1 f2 f3, v => v = { Ev.zero with op := sArea, sheet := bs s, c := c, r := r, c2 := c2, r2 := r2, f0 := f0, f1 := f1, f2 := f2, f3 := f3 }
  | .call t kids, v => ∃ A k vs, v = { Ev.zero with op := sCall, text := bs t, A := A, n := kids.length, k := k } ∧ RowOf w S A vs ∧ AllEx w S kids vs
  | .bin o a b, v => ∃ A va vb, v = { Ev.zero with op := bs o, A := A, n := 2, k := 2 } ∧ RowOf w S A [va, vb] ∧ IsEx w S a va ∧ IsEx w S b vb
  | .odd, v => v.op ∈ oddOps
/-- The values are the trees. -/
def AllEx (w : World) (S : Nat → Prop) : List Ex → List Ev → Prop
  | [], vs => vs = []
  | x :: l, vs => ∃ v us, vs = v :: us ∧ IsEx w S x v ∧ AllEx w S l us
end

theorem RowOf.keep {w w' : World} {S S' : Nat → Prop} {A : Option Addr} {vs : List Ev} (h : RowOf w S A vs) (hz : w.heap.size ≤ w'.heap.size) (hs : ∀ g, S g → g < w.heap.size → Same w w' g ∧ S' g) : RowOf w' S' A vs := by
  intro hn
  obtain ⟨g, hA, hB, hg, hc⟩ := h hn
  exact ⟨g, hA, (hs g hB hg).2, Nat.lt_of_lt_of_le hg hz, fun j u hj => (hs g hB hg).1.cell.trans (hc j u hj)⟩

mutual
theorem IsEx.keep {w w' : World} {S S' : Nat → Prop} (hz : w.heap.size ≤ w'.heap.size) (hs : ∀ g, S g → g < w.heap.size → Same w w' g ∧ S' g) : ∀ (x : Ex) (v : Ev), IsEx w S x v → IsEx w' S' x v
  | .num _, _, h => h
  | .truth _, _, h => h
  | .err _, _, h => h
  | .name _, _, h => h
  | .cell _ _ _ _ _, _, h => h
  | .area _ _ _ _ _ _ _ _ _, _, h => h
  | .call _ kids, _, h => by
    obtain ⟨A, k, vs, h1, h2, h3⟩ := h
    exact ⟨A, k, vs, h1, h2.keep hz hs, AllEx.keep hz hs kids vs h3⟩
  | .bin _ a b, _, h => by
    obtain ⟨A, va, vb, h1, h2, h3, h4⟩ := h
    exact ⟨A, va, vb, h1, h2.keep hz hs, IsEx.keep hz hs a va h3, IsEx.keep hz hs b vb h4⟩
  | .odd, _, h => h
theorem AllEx.keep {w w' : World} {S S' : Nat → Prop} (hz : w.heap.size ≤ w'.heap.size) (hs : ∀ g, S g → g < w.heap.size → Same w w' g ∧ S' g) : ∀ (l : List Ex) (vs : List Ev), AllEx w S l vs → AllEx w' S' l vs
  | [], _, h => h
  | x :: l, _, h => by
    obtain ⟨v, us, h1, h2, h3⟩ := h
    exact ⟨v, us, h1, IsEx.keep hz hs x v h2, AllEx.keep hz hs l us h3⟩
end

theorem IsEx.mono {w : World} {S S' : Nat → Prop} {x : Ex} {v : Ev} (h : IsEx w S x v) (hs : ∀ g, S g → g < w.heap.size → S' g) : IsEx w S' x v := IsEx.keep (Nat.le_refl _) (fun g h1 h2 => ⟨rfl, hs g h1 h2⟩) x v h
theorem AllEx.mono {w : World} {S S' : Nat → Prop} {l : List Ex} {vs : List Ev} (h : AllEx w S l vs) (hs : ∀ g, S g → g < w.heap.size → S' g) : AllEx w S' l vs := AllEx.keep (Nat.le_refl _) (fun g h1 h2 => ⟨rfl, hs g h1 h2⟩) l vs h
theorem IsEx.lower {w : World} {B B' : Nat} {x : Ex} {v : Ev} (h : IsEx w (From B) x v) (hB : B' ≤ B) : IsEx w (From B') x v := h.mono fun _ h1 _ => Nat.le_trans hB h1
theorem IsEx.below {w w' : World} {S : Nat → Prop} {x : Ex} {v : Ev} (h : IsEx w S x v) (hb : Below w.heap.size w w') : IsEx w' S x v :=
  IsEx.keep hb.size (fun _ h1 hg => ⟨Same.of_below hb hg, h1⟩) x v h
theorem AllEx.below {w w' : World} {S : Nat → Prop} {l : List Ex} {vs : List Ev} (h : AllEx w S l vs) (hb : Below w.heap.size w w') : AllEx w' S l vs :=
  AllEx.keep hb.size (fun _ h1 hg => ⟨Same.of_below hb hg, h1⟩) l vs h
theorem IsEx.fr {w w' : World} {g : Nat} {S : Nat → Prop} {x : Ex} {v : Ev} (h : IsEx w S x v) (hf : Fr w w' g) (hg : ¬ S g) : IsEx w' S x v :=
  IsEx.keep hf.size (fun k hk hl => ⟨hf.block k hl (fun e => hg (by injection e with e; rw [← e]; exact hk)), hk⟩) x v h
theorem AllEx.fr {w w' : World} {g : Nat} {S : Nat → Prop} {l : List Ex} {vs : List Ev} (h : AllEx w S l vs) (hf : Fr w w' g) (hg : ¬ S g) : AllEx w' S l vs :=
  AllEx.keep hf.size (fun k hk hl => ⟨hf.block k hl (fun e => hg (by injection e with e; rw [← e]; exact hk)), hk⟩) l vs h
theorem IsEx.grow {w w' : World} {row : Option Nat} {S : Nat → Prop} {x : Ex} {v : Ev} (h : IsEx w S x v) (hf : w.grownBy w' row) (hg : ∀ k, row = some k → ¬ S k) : IsEx w' S x v :=
  IsEx.keep hf.size (fun k hk hl => ⟨hf.block k hl (fun e => hg k e.symm hk), hk⟩) x v h
theorem AllEx.grow {w w' : World} {row : Option Nat} {S : Nat → Prop} {l : List Ex} {vs : List Ev} (h : AllEx w S l vs) (hf : w.grownBy w' row) (hg : ∀ k, row = some k → ¬ S k) : AllEx w' S l vs :=
  AllEx.keep hf.size (fun k hk hl => ⟨hf.block k hl (fun e => hg k e.symm hk), hk⟩) l vs h
/-- A block that is not theirs is written. -/
theorem IsEx.set {w : World} {j i : Nat} {S : Nat → Prop} {x : Ex} {v : Ev} {u : Value} (h : IsEx w S x v) (hj : ¬ S j) : IsEx (w.setCell ⟨j, i, none⟩ u) S x v :=
  IsEx.keep (by simp [World.setCell]) (fun k hk _ => ⟨Same.of_set _ _ (fun e => hj (by subst e; exact hk)), hk⟩) x v h
theorem AllEx.set {w : World} {j i : Nat} {S : Nat → Prop} {l : List Ex} {vs : List Ev} {u : Value} (h : AllEx w S l vs) (hj : ¬ S j) : AllEx (w.setCell ⟨j, i, none⟩ u) S l vs :=
  AllEx.keep (by simp [World.setCell]) (fun k hk _ => ⟨Same.of_set _ _ (fun e => hj (by subst e; exact hk)), hk⟩) l vs h
theorem RowOf.set {w : World} {j i : Nat} {S : Nat → Prop} {A : Option Addr} {vs : List Ev} {u : Value} (h : RowOf w S A vs) (hj : ¬ S j) : RowOf (w.setCell ⟨j, i, none⟩ u) S A vs :=
  h.keep (by simp [World.setCell]) (fun k hk _ => ⟨Same.of_set _ _ (fun e => hj (by subst e; exact hk)), hk⟩)
theorem AllEx.len {w : World} {S : Nat → Prop} : ∀ (l : List Ex) (vs : List Ev), AllEx w S l vs → vs.length = l.length
  | [], _, h => by rw [h]; rfl
  | x :: l, _, h => by
    obtain ⟨v, us, rfl, _, h3⟩ := h
    rw [List.length_cons, List.length_cons, AllEx.len l us h3]
theorem AllEx.snoc {w : World} {S : Nat → Prop} {x : Ex} {v : Ev} (hx : IsEx w S x v) : ∀ (l : List Ex) (vs : List Ev), AllEx w S l vs → AllEx w S (l ++ [x]) (vs ++ [v])
  | [], _, h => by
    rw [h]
    exact ⟨v, [], rfl, hx, rfl⟩
  | y :: l, _, h => by
    obtain ⟨u, us, rfl, h2, h3⟩ := h
    exact ⟨u, us ++ [v], rfl, h2, AllEx.snoc hx l us h3⟩

end Go.Proofs.YtfeffdjnjckjaaaGreatDoor.Rg

/- What reading a part of a formula comes to; a block of a formula's fields, and how it is returned. -/
namespace Go.Proofs.YtfeffdjnjckjaaaGreatDoor.Rg
open Go.RowKit

/-- What reading a part comes to: out (of rounds), bad, or a tree and what is left. -/
inductive R where
  | out
  | bad
  | ok (x : Ex) (r : List UInt8)

def TreePost (w : World) (g : Nat) (s : ByteArray) (d : Int) : R → Ending → World → Prop
  | .out, _, _ => False
  | .bad, e, w' => ∃ (v : Ev) (r' : List UInt8) (d' : Int), e = .returned v.val ∧ At w' g s r' d' true ∧ Fr w w' g
  | .ok x r, e, w' => ∃ v : Ev, e = .returned v.val ∧ IsEx w' (From w.heap.size) x v ∧ At w' g s r d false ∧ Fr w w' g

/-- A block of the fields of a formula. -/
def exCells (v : Ev) : Array Value := #[.string v.op, .string v.text, .bool v.is, .string v.sheet, .int .i64 v.c, .int .i64 v.r, .int .i64 v.c2, .int .i64 v.r2, .bool v.f0, .bool v.f1, .bool v.f2, .bool v.f3, .int .i64 v.wide, .slice v.A v.n v.k]
/-- What the walk sees of such a block. -/
structure SeeEx (w : World) (j : Nat) (v : Ev) : Prop where
  c0 : w.cell? ⟨j, 0, none⟩ = some (.string v.op)
  c1 : w.cell? ⟨j, 1, none⟩ = some (.string v.text)
  c2 : w.cell? ⟨j, 2, none⟩ = some (.bool v.is)
  c3 : w.cell? ⟨j, 3, none⟩ = some (.string v.sheet)
  c4 : w.cell? ⟨j, 4, none⟩ = some (.int .i64 v.c)
  c5 : w.cell? ⟨j, 5, none⟩ = some (.int .i64 v.r)
  c6 : w.cell? ⟨j, 6, none⟩ = some (.int .i64 v.c2)
  c7 : w.cell? ⟨j, 7, none⟩ = some (.int .i64 v.r2)
  c8 : w.cell? ⟨j, 8, none⟩ = some (.bool v.f0)
  c9 : w.cell? ⟨j, 9, none⟩ = some (.bool v.f1)
  c10 : w.cell? ⟨j, 10, none⟩ = some (.bool v.f2)
  c11 : w.cell? ⟨j, 11, none⟩ = some (.bool v.f3)
  c12 : w.cell? ⟨j, 12, none⟩ = some (.int .i64 v.wide)
  c13 : w.cell? ⟨j, 13, none⟩ = some (.slice v.A v.n v.k)
theorem Box.ex {w : World} {j : Nat} {v : Ev} (h : Box w j (exCells v) 25) : SeeEx w j v :=
  ⟨h.cell 0, h.cell 1, h.cell 2, h.cell 3, h.cell 4, h.cell 5, h.cell 6, h.cell 7, h.cell 8, h.cell 9, h.cell 10, h.cell 11, h.cell 12, h.cell 13⟩

/-- All fields of such a block are written. -/
def put14 (w : World) (j : Nat) (v : Ev) : World :=
  (((((((((((((w.setCell ⟨j, 0, none⟩ (.string v.op)).setCell ⟨j, 1, none⟩ (.string v.text)).setCell ⟨j, 2, none⟩ (.bool v.is)).setCell ⟨j, 3, none⟩ (.string v.sheet)).setCell ⟨j, 4, none⟩ (.int .i64 v.c)).setCell ⟨j, 5, none⟩ (.int .i64 v.r)).setCell ⟨j, 6, none⟩ (.int .i64 v.c2)).setCell ⟨j, 7, none⟩ (.int .i64 v.r2)).setCell ⟨j, 8, none⟩ (.bool v.f0)).setCell ⟨j, 9, none⟩ (.bool v.f1)).setCell ⟨j, 10, none⟩ (.bool v.f2)).setCell ⟨j, 11, none⟩ (.bool v.f3)).setCell ⟨j, 12, none⟩ (.int .i64 v.wide)).setCell ⟨j, 13, none⟩ (.slice v.A v.n v.k)

theorem exCells_put (u v : Ev) : ((((((((((((((exCells u).set! 0 (.string v.op)).set! 1 (.string v.text)).set! 2 (.bool v.is)).set! 3 (.string v.sheet)).set! 4 (.int .i64 v.c)).set! 5 (.int .i64 v.r)).set! 6 (.int .i64 v.c2)).set! 7 (.int .i64 v.r2)).set! 8 (.bool v.f0)).set! 9 (.bool v.f1)).set! 10 (.bool v.f2)).set! 11 (.bool v.f3)).set! 12 (.int .i64 v.wide)).set! 13 (.slice v.A v.n v.k) = exCells v := by
  obtain ⟨a0, a1, a2, a3, a4, a5, a6, a7, a8, a9, a10, a11, a12, a13, a14, a15⟩ := u
  obtain ⟨b0, b1, b2, b3, b4, b5, b6, b7, b8, b9, b10, b11, b12, b13, b14, b15⟩ := v
  simp [exCells]
theorem Box.put {w : World} {j : Nat} {u : Ev} (h : Box w j (exCells u) 25) (v : Ev) : Box (put14 w j v) j (exCells v) 25 := by
  have h1 := (((((((((((((h.set 0 (.string v.op)).set 1 (.string v.text)).set 2 (.bool v.is)).set 3 (.string v.sheet)).set 4 (.int .i64 v.c)).set 5 (.int .i64 v.r)).set 6 (.int .i64 v.c2)).set 7 (.int .i64 v.r2)).set 8 (.bool v.f0)).set 9 (.bool v.f1)).set 10 (.bool v.f2)).set 11 (.bool v.f3)).set 12 (.int .i64 v.wide)).set 13 (.slice v.A v.n v.k)
  rw [exCells_put] at h1
  exact h1
theorem Same.snoc {w w1 : World} {j k i : Nat} {v : Value} (hs : Same w w1 k) (h : k ≠ j) : Same w (w1.setCell ⟨j, i, none⟩ v) k := hs.trans (Same.of_set _ _ h)
theorem Same.put (w : World) (j k : Nat) (v : Ev) (h : k ≠ j) : Same w (put14 w j v) k :=
  Same.snoc (Same.snoc (Same.snoc (Same.snoc (Same.snoc (Same.snoc (Same.snoc (Same.snoc (Same.snoc (Same.snoc (Same.snoc (Same.snoc (Same.snoc (Same.snoc (show Same w w k from rfl) h) h) h) h) h) h) h) h) h) h) h) h) h) h
theorem put14_size (w : World) (j : Nat) (v : Ev) : (put14 w j v).heap.size = w.heap.size := by simp [put14, World.setCell]
theorem Box.putOther {w : World} {j k : Nat} {cs : Array Value} {t : TypeId} (h : Box w k cs t) (v : Ev) (hne : k ≠ j) : Box (put14 w j v) k cs t := h.same (Same.put w j k v hne)
theorem At.put {w : World} {g j : Nat} {s : ByteArray} {r : List UInt8} {d : Int} {b : Bool} (h : At w g s r d b) (v : Ev) (hne : g ≠ j) : At (put14 w j v) g s r d b := h.same (Same.put w j g v hne)
theorem Fr.put {w w' : World} {g j : Nat} (h : Fr w w' g) (v : Ev) (hj : w.heap.size ≤ j) : Fr w (put14 w' j v) g :=
  (((((((((((((h.own _ _ hj).own _ _ hj).own _ _ hj).own _ _ hj).own _ _ hj).own _ _ hj).own _ _ hj).own _ _ hj).own _ _ hj).own _ _ hj).own _ _ hj).own _ _ hj).own _ _ hj).own _ _ hj
theorem IsEx.put {w : World} {j : Nat} {S : Nat → Prop} {x : Ex} {v u : Ev} (h : IsEx w S x v) (hj : ¬ S j) : IsEx (put14 w j u) S x v :=
  IsEx.keep (by rw [put14_size]; exact Nat.le_refl _) (fun k hk _ => ⟨Same.put _ _ _ _ (fun e => hj (by subst e; exact hk)), hk⟩) x v h
theorem AllEx.put {w : World} {j : Nat} {S : Nat → Prop} {l : List Ex} {vs : List Ev} {u : Ev} (h : AllEx w S l vs) (hj : ¬ S j) : AllEx (put14 w j u) S l vs :=
  AllEx.keep (by rw [put14_size]; exact Nat.le_refl _) (fun k hk _ => ⟨Same.put _ _ _ _ (fun e => hj (by subst e; exact hk)), hk⟩) l vs h
theorem RowOf.put {w : World} {j : Nat} {S : Nat → Prop} {A : Option Addr} {vs : List Ev} {u : Ev} (h : RowOf w S A vs) (hj : ¬ S j) : RowOf (put14 w j u) S A vs :=
  h.keep (by rw [put14_size]; exact Nat.le_refl _) (fun k hk _ => ⟨Same.put _ _ _ _ (fun e => hj (by subst e; exact hk)), hk⟩)

/-- A formula that lies in a block of its own is returned. -/
theorem tree_ret {fn : Func} {Q : Ending → World → Prop} {tmps : Array Value} {W : World} {j p : Nat} {v : Ev} (hres : fn.results = #[.cell p 25]) (htm : tmps[p]?.getD undef = .pointer (some ⟨j, 0, none⟩)) (hB : Box W j (exCells v) 25) (hq : Q (.returned v.val) W) : bodyPost Tryz.prog fn Q Exit.ret { tmps := tmps, defers := [] } W := by
  obtain ⟨c0, c1, c2, c3, c4, c5, c6, c7, c8, c9, c10, c11, c12, c13⟩ := hB.ex
  refine bodyPost_ret (v := v.val) ?_ rfl hq
  simp only [results, hres]
  simp [go_sem, htm, c0, c1, c2, c3, c4, c5, c6, c7, c8, c9, c10, c11, c12, c13, Ev.val]
theorem tree_put {fn : Func} {Q : Ending → World → Prop} {tmps : Array Value} {W : World} {j p : Nat} {u : Ev} (v : Ev) (hres : fn.results = #[.cell p 25]) (htm : tmps[p]?.getD undef = .pointer (some ⟨j, 0, none⟩)) (hB : Box W j (exCells u) 25) (hq : Q (.returned v.val) (put14 W j v)) : bodyPost Tryz.prog fn Q Exit.ret { tmps := tmps, defers := [] } (put14 W j v) :=
  tree_ret hres htm (hB.put v) hq

end Go.Proofs.YtfeffdjnjckjaaaGreatDoor.Rg
