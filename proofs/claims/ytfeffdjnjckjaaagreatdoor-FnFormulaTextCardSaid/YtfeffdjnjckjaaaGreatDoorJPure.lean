/- What the reader computes. -/
import Derived.Test.YtfeffdjnjckjaaaGreatDoorJPlace
import Derived.Maps.AppendAt
/- What the reader of formulas computes, in plain words. -/
namespace Go.Proofs.YtfeffdjnjckjaaaGreatDoor.Rg
open Go.RowKit

/-- What reading the arguments of a call comes to. -/
inductive RL where
  | out
  | bad
  | ok (l : List Ex) (r : List UInt8)

def argsP (f : Nat → List UInt8 → R) (d : Nat) : Nat → List Ex → List UInt8 → RL
  | 0, _, _ => .out
  | k + 1, acc, r =>
    match (if pk (blk r) = 44 ∨ pk (blk r) = 41 then R.ok .odd (blk r) else f d (blk r)) with
    | .out => .out
    | .bad => .bad
    | .ok x r2 => if pk (blk r2) = 41 then .ok (acc ++ [x]) (blk r2).tail else if pk (blk r2) = 44 then argsP f d k (acc ++ [x]) (blk r2).tail else .bad
/-- A call, from its bracket on. -/
def callP (f : Nat → List UInt8 → R) (name : List UInt8) (d : Nat) (r : List UInt8) : R :=
  if pk (blk r.tail) = 41 then .ok (.call name []) (blk r.tail).tail
  else match argsP f d (r.length + 1) [] (blk r.tail) with
    | .out => .out
    | .bad => .bad
    | .ok l rest => .ok (.call name l) rest
def sTRUE : List UInt8 := [84, 82, 85, 69]
def sFALSE : List UInt8 := [70, 65, 76, 83, 69]
def wordP (f : Nat → List UInt8 → R) (d : Nat) (r : List UInt8) : R :=
  if pk r = 36 then placeP [] r
  else if isAlpha (pk r) = false ∧ pk r ≠ 95 then .bad
  else if pk (r.dropWhile isNamed) = 40 then callP f (upL (r.takeWhile isNamed)) d (r.dropWhile isNamed)
  else if pk (r.dropWhile isNamed) = 33 then placeP (r.takeWhile isNamed) (r.dropWhile isNamed).tail
  else if upL (r.takeWhile isNamed) = sTRUE ∨ upL (r.takeWhile isNamed) = sFALSE then .ok (.truth (decide (upL (r.takeWhile isNamed) = sTRUE))) (r.dropWhile isNamed)
  else if ((cellP r).ok = false ∨ isNamed (pk (cellP r).rest) = true) ∧ pk (cellP r).rest ≠ 36 then .ok (.name (r.takeWhile isNamed)) (r.dropWhile isNamed)
  else placeP [] r
/-- A number, a string, or an error. -/
def litP (r : List UInt8) : R :=
  if isNum (pk r) = true then numP r
  else if pk r = 34 then match quoA 34 [] r.tail with
    | some (_, rest) => .ok .odd rest
    | none => .bad
  else failP r
def isLit (c : UInt8) : Bool := isNum c || decide (c = 34) || decide (c = 35)
def constP (f : Nat → List UInt8 → R) (d : Nat) (r : List UInt8) : R :=
  if pk (blk r) = 45 then
    if isNum (pk (blk r).tail) = false then .bad
    else match numP (blk r).tail with
      | .ok _ rest => .ok .odd rest
      | x => x
  else if isLit (pk (blk r)) = true then litP (blk r)
  else match wordP f d (blk r) with
    | .ok (.truth b) rest => .ok (.truth b) rest
    | .out => .out
    | _ => .bad
def arrA (f : Nat → List UInt8 → R) (d : Nat) : Nat → Nat → Nat → List UInt8 → R
  | 0, _, _, _ => .out
  | k + 1, wide, n, r =>
    match constP f d r with
    | .out => .out
    | .bad => .bad
    | .ok _ r1 =>
      if pk (blk r1) = 44 then arrA f d k wide (n + 1) (blk r1).tail
      else if 0 < wide ∧ n + 1 ≠ wide then .bad
      else if pk (blk r1) = 125 then .ok .odd (blk r1).tail
      else if pk (blk r1) = 59 then arrA f d k (n + 1) 0 (blk r1).tail
      else .bad
def thingP (f : Nat → List UInt8 → R) (d : Nat) (r : List UInt8) : R :=
  if isLit (pk r) = true then litP r
  else if pk r = 123 then arrA f d (r.length + 1) 0 0 r.tail
  else if pk r = 40 then match f d r.tail with
    | .ok x r2 => if pk (blk r2) = 41 then .ok x (blk r2).tail else .bad
    | x => x
  else if pk r = 39 then match quoA 39 [] r.tail with
    | some (t, rest) => if pk rest = 33 ∧ t ≠ [] then placeP t rest.tail else .bad
    | none => .bad
  else wordP f d r
def signedA (f : Nat → List UInt8 → R) : Nat → Nat → List UInt8 → R
  | 0, _, _ => .out
  | k + 1, d, r =>
    if pk (blk r) = 45 ∨ pk (blk r) = 43 then
      if 360 < d + 1 then .bad
      else match signedA f k (d + 1) (blk r).tail with
        | .ok _ rest => .ok .odd rest
        | x => x
    else thingP f d (blk r)
def pctL : Nat → Ex → List UInt8 → R
  | 0, _, _ => .out
  | k + 1, x, r => if pk (blk r) = 37 then pctL k .odd (blk r).tail else .ok x (blk r)
def pctP (f : Nat → List UInt8 → R) (d : Nat) (r : List UInt8) : R :=
  match signedA f (r.length + 1) d r with
  | .ok x r1 => pctL (r1.length + 1) x r1
  | x => x
/-- Operators of a level behind a part. -/
def opsP (h : List UInt8 → R) (n : Nat) : Nat → Ex → List UInt8 → R
  | 0, _, _ => .out
  | k + 1, x, r =>
    match opAt n (blk r) with
    | none => .ok x (blk r)
    | some o => match h ((blk r).drop o.length) with
      | .ok y r2 => opsP h n k (.bin o x y) r2
      | z => z
def lv : Nat → Nat → Nat → List UInt8 → R
  | 0, _, _, _ => .out
  | k + 1, n, d, r =>
    if 5 < n then pctP (fun d r => lv k 1 d r) d r
    else if 360 < d + 1 then .bad
    else match lv k (n + 1) (d + 1) r with
      | .ok x r1 => opsP (fun r => lv k (n + 1) (d + 1) r) n (r1.length + 1) x r1
      | x => x

/-- What is known of a reader of formulas (from the first level on): its answers are the program's, and nothing grows. -/
structure LvlOk (f : Nat → List UInt8 → R) : Prop where
  run : ∀ (g : Nat) (s : ByteArray) (r : List UInt8) (d : Nat) (w : World), At w g s r d false → d ≤ 360 → f d r ≠ .out →
    Calls Tryz.prog 10 #[.pointer (some ⟨g, 0, none⟩), .int .i64 1] w (TreePost w g s d (f d r))
  shr : ∀ d r x r2, f d r = .ok x r2 → r2.length ≤ r.length

theorem infoEx : (Tryz.prog.info? 25).map (fun i => (i.zero, i.size, i.bytes)) = some (some (.agg #[.string ⟨#[]⟩, .string ⟨#[]⟩, .bool false, .string ⟨#[]⟩, .int .i64 0, .int .i64 0, .int .i64 0, .int .i64 0, .bool false, .bool false, .bool false, .bool false, .int .i64 0, .slice none 0 0]), 14, 128) := by kernel_rfl

end Go.Proofs.YtfeffdjnjckjaaaGreatDoor.Rg

/- A formula is appended to a row of formulas. -/
namespace Go.Proofs.YtfeffdjnjckjaaaGreatDoor.Rg
open Go.RowKit

/-- The blocks from B on that are not the row's own. -/
def Kids (B : Nat) (v : Value) : Nat → Prop := fun g => B ≤ g ∧ v.ownBlock ≠ some g

theorem flat_len : ∀ vs : List Ev, (vs.flatMap Ev.cells).length = vs.length * 14
  | [] => rfl
  | v :: l => by
    rw [List.flatMap_cons, List.length_append, flat_len l, List.length_cons, Nat.add_mul]
    have : v.cells.length = 14 := rfl
    omega

/-- A formula is appended: the row grows by it. -/
theorem push_row (w : World) (B n c : Nat) (A : Option Addr) (vs : List Ev) (v : Ev) (hown : w.ownsRow B 25 14 (.slice A n c) n (vs.flatMap Ev.cells)) (hn : n ≤ 8192) (hB : B ≤ w.heap.size) (w2 : World) (hw2 : Below w.heap.size w w2) (g1 : Nat) (hg1 : Box w2 g1 (exCells v) 25) :
    ∃ A' c' w3, (Builtin.append_ #[23, 23] 23 #[.slice A n c, .slice (some ⟨g1, 0, none⟩) 1 1]).run Tryz.prog w2 = .ok (.slice A' (n + 1) c') w3 ∧
      w3.ownsRow B 25 14 (.slice A' (n + 1) c') (n + 1) ((vs ++ [v]).flatMap Ev.cells) ∧ w2.grownBy w3 (Value.slice A n c).ownBlock ∧ ((Value.slice A' (n + 1) c').ownBlock = (Value.slice A n c).ownBlock ∨ (Value.slice A' (n + 1) c').ownBlock = some w2.heap.size) := by
  obtain ⟨i0, hi, hz0, hz1, hz2⟩ := info_parts infoEx
  have hown2 := own_below hown hw2
  obtain ⟨v', w3, happ, hown3, hgr, _, hloc⟩ := run_append_own_at (P := Tryz.prog) w2 B 23 23 25 i0 _ 14 128 Tryz.underlying23 hi hz0 hz1 hz2 rfl (by decide) (.slice A n c) n _ hown2 ⟨g1, 0, none⟩ 1 1 v.cells rfl (fun j u hj => by
    rw [addAt, hg1.cell]
    exact (by simpa [Ev.cells, exCells] using hj : (exCells v)[j]? = some u)) (fun u hu => by
      simp only [Ev.cells, List.mem_cons, List.not_mem_nil, or_false] at hu
      rcases hu with rfl | rfl | rfl | rfl | rfl | rfl | rfl | rfl | rfl | rfl | rfl | rfl | rfl | rfl <;> rfl) (by unfold maxLen; omega) (by omega) (Nat.le_trans hB hw2.size)
  obtain ⟨A', c', rfl⟩ := own_slice hown3
  refine ⟨A', c', w3, happ, ?_, hgr, hloc⟩
  rw [List.flatMap_append]
  simpa using hown3

theorem push_all {w2 w3 : World} {B : Nat} {V V' : Value} {acc : List Ex} {vs : List Ev} {x : Ex} {v : Ev} {S : Nat → Prop} (hall : AllEx w2 (Kids B V) acc vs) (hx : IsEx w2 S x v) (hS : ∀ g, S g → g < w2.heap.size → B ≤ g ∧ V.ownBlock ≠ some g)
    (hgr : w2.grownBy w3 V.ownBlock) (hloc : V'.ownBlock = V.ownBlock ∨ V'.ownBlock = some w2.heap.size) : AllEx w3 (Kids B V') (acc ++ [x]) (vs ++ [v]) := by
  have hk : ∀ g, B ≤ g ∧ V.ownBlock ≠ some g → g < w2.heap.size → Same w2 w3 g ∧ Kids B V' g := fun g hg hl => by
    refine ⟨hgr.block g hl (fun e => hg.2 e.symm), hg.1, ?_⟩
    rcases hloc with h | h
    · rw [h]
      exact hg.2
    · rw [h]
      intro e
      injection e with e
      omega
  exact AllEx.snoc (IsEx.keep hgr.size (fun g h1 h2 => hk g (hS g h1 h2) h2) x v hx) acc vs (AllEx.keep hgr.size (fun g h1 h2 => hk g h1 h2) acc vs hall)

end Go.Proofs.YtfeffdjnjckjaaaGreatDoor.Rg
