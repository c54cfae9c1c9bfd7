/- The tokens of a tree. -/
import Derived.Test.YtfeffdjnjckjaaaGreatDoorJForth
import Derived.Maps.AppendAt
import Derived.Laws.AppendOwnNone
/- The tokens of a tree, and that their text is the tree's own. -/
namespace Go.Proofs.YtfeffdjnjckjaaaGreatDoor.Rg
open Go.RowKit

/-- A token: its text, its type, its subtype. -/
structure Tk where
  v : ByteArray
  typ : ByteArray
  sub : ByteArray
def Tk.cells (k : Tk) : List Value := [.string k.v, .string k.typ, .string k.sub]
def Tk.val (k : Tk) : Value := .agg #[.string k.v, .string k.typ, .string k.sub]
def tOperand : ByteArray := ⟨#[79, 112, 101, 114, 97, 110, 100]⟩
def tNumber : ByteArray := ⟨#[78, 117, 109, 98, 101, 114]⟩
def tLogical : ByteArray := ⟨#[76, 111, 103, 105, 99, 97, 108]⟩
def tError : ByteArray := ⟨#[69, 114, 114, 111, 114]⟩
def tRange : ByteArray := ⟨#[82, 97, 110, 103, 101]⟩
def tFunction : ByteArray := ⟨#[70, 117, 110, 99, 116, 105, 111, 110]⟩
def tSubexpr : ByteArray := ⟨#[83, 117, 98, 101, 120, 112, 114, 101, 115, 115, 105, 111, 110]⟩
def tStart : ByteArray := ⟨#[83, 116, 97, 114, 116]⟩
def tStop : ByteArray := ⟨#[83, 116, 111, 112]⟩
def tArgument : ByteArray := ⟨#[65, 114, 103, 117, 109, 101, 110, 116]⟩
def tInfix : ByteArray := ⟨#[79, 112, 101, 114, 97, 116, 111, 114, 73, 110, 102, 105, 120]⟩
def tConcat : ByteArray := ⟨#[67, 111, 110, 99, 97, 116, 101, 110, 97, 116, 105, 111, 110]⟩
def tMath : ByteArray := ⟨#[77, 97, 116, 104]⟩
/-- The kind of an operator of two. -/
def infT (n : Nat) : ByteArray := if n = 1 then tLogical else if n = 2 then tConcat else tMath
def kOp (o : List UInt8) : Tk := ⟨bs o, tInfix, infT (lev o)⟩
def kOpen : Tk := ⟨bs [], tSubexpr, tStart⟩
def kClose : Tk := ⟨bs [], tSubexpr, tStop⟩
def kFun (t : List UInt8) : Tk := ⟨bs t, tFunction, tStart⟩
def kEnd : Tk := ⟨bs [], tFunction, tStop⟩
def kArg : Tk := ⟨bs [44], tArgument, bs []⟩
def kOpd (t : List UInt8) (s : ByteArray) : Tk := ⟨bs t, tOperand, s⟩
mutual
/-- The tokens of a tree where a level is asked for. -/
def tok : Nat → Ex → List Tk
  | _, .num t => [kOpd t tNumber]
  | _, .truth b => [kOpd (if b then sTRUE else sFALSE) tLogical]
  | _, .err t => [kOpd t tError]
  | _, .name t => [kOpd t tRange]
  | _, .cell s c r a b => [kOpd (sheetT s ++ cornerT c r a b) tRange]
  | _, .area s c r c2 r2 a b a2 b2 => [kOpd (sheetT s ++ (cornerT c r a b ++ 58 :: cornerT c2 r2 a2 b2)) tRange]
  | _, .call t kids => kFun t :: ((tokM kids).tail ++ [kEnd])
  | n, .bin o x y => if lev o < n then kOpen :: (tok (lev o) x ++ (kOp o :: (tok (lev o + 1) y ++ [kClose]))) else tok (lev o) x ++ (kOp o :: tok (lev o + 1) y)
  | _, .odd => []
/-- Those of arguments, a comma ahead of each. -/
def tokM : List Ex → List Tk
  | [] => []
  | x :: l => kArg :: (tok 1 x ++ tokM l)
end
theorem tok_bin (n : Nat) (o : List UInt8) (x y : Ex) : tok n (.bin o x y) = if lev o < n then kOpen :: (tok (lev o) x ++ (kOp o :: (tok (lev o + 1) y ++ [kClose]))) else tok (lev o) x ++ (kOp o :: tok (lev o + 1) y) := by rw [tok]
theorem tok_call (n : Nat) (t : List UInt8) (kids : List Ex) : tok n (.call t kids) = kFun t :: ((tokM kids).tail ++ [kEnd]) := by rw [tok]
/-- The bracket of a token. -/
def par (k : Tk) : List UInt8 :=
  if k.typ.data.toList = tFunction.data.toList ∨ k.typ.data.toList = tSubexpr.data.toList then
    if k.sub.data.toList = tStart.data.toList then [40] else if k.sub.data.toList = tStop.data.toList then [41] else []
  else []
/-- The text of a token. -/
def tkT (k : Tk) : List UInt8 := k.v.data.toList ++ par k
theorem par_op (o : List UInt8) : par (kOp o) = [] := by
  have : ¬ (tInfix.data.toList = tFunction.data.toList ∨ tInfix.data.toList = tSubexpr.data.toList) := by decide
  exact if_neg this
theorem par_opd (t : List UInt8) (s : ByteArray) : par (kOpd t s) = [] := by
  have : ¬ (tOperand.data.toList = tFunction.data.toList ∨ tOperand.data.toList = tSubexpr.data.toList) := by decide
  exact if_neg this
theorem par_fun (t : List UInt8) : par (kFun t) = [40] := by
  unfold par kFun
  exact (if_pos (.inl rfl)).trans (if_pos rfl)
theorem par_end : par kEnd = [41] := by decide
theorem par_open : par kOpen = [40] := by decide
theorem par_close : par kClose = [41] := by decide
theorem par_arg : par kArg = [] := by decide
theorem text_op (o : List UInt8) : tkT (kOp o) = o := by
  unfold tkT
  rw [par_op]
  simp [kOp, bs]
theorem text_opd (t : List UInt8) (s : ByteArray) : tkT (kOpd t s) = t := by
  unfold tkT
  rw [par_opd]
  simp [kOpd, bs]
theorem text_fun (t : List UInt8) : tkT (kFun t) = t ++ [40] := by
  unfold tkT
  rw [par_fun]
  simp [kFun, bs]
theorem text_end : tkT kEnd = [41] := by
  unfold tkT
  rw [par_end]
  rfl
theorem text_open : tkT kOpen = [40] := by
  unfold tkT
  rw [par_open]
  rfl
theorem text_close : tkT kClose = [41] := by
  unfold tkT
  rw [par_close]
  rfl
theorem text_arg : tkT kArg = [44] := by
  unfold tkT
  rw [par_arg]
  rfl
mutual
/-- The text of a tree's tokens is the tree as it is written. -/
theorem tok_text : ∀ (x : Ex) (n : Nat), (tok n x).flatMap tkT = prt n x
  | .num t, n => by rw [tok, prt, List.flatMap_cons, text_opd]; simp
  | .truth b, n => by rw [tok, prt, List.flatMap_cons, text_opd]; simp
  | .err t, n => by rw [tok, prt, List.flatMap_cons, text_opd]; simp
  | .name t, n => by rw [tok, prt, List.flatMap_cons, text_opd]; simp
  | .cell _ _ _ _ _, n => by rw [tok, prt, List.flatMap_cons, text_opd]; simp
  | .area _ _ _ _ _ _ _ _ _, n => by rw [tok, prt, List.flatMap_cons, text_opd]; simp
  | .call t kids, n => by
    have h := tokM_text kids
    rw [tok, prt, List.flatMap_cons, text_fun, List.flatMap_append, List.flatMap_cons, text_end, h]
    simp
  | .bin o x y, n => by
    have hx := tok_text x (lev o)
    have hy := tok_text y (lev o + 1)
    rw [tok_bin, prt_bin]
    split
    · rw [List.flatMap_cons, List.flatMap_append, List.flatMap_cons, List.flatMap_append, List.flatMap_cons, hx, hy, text_open, text_op, text_close]
      simp
    · rw [List.flatMap_append, List.flatMap_cons, hx, hy, text_op]
  | .odd, n => by rw [tok, prt]; rfl
theorem tokM_text : ∀ l : List Ex, (tokM l).tail.flatMap tkT = (prtM l).tail
  | [] => by rw [tokM, prtM]; rfl
  | x :: l => by
    have hx := tok_text x 1
    have hl := tokN_text l
    rw [tokM, prtM, List.tail_cons, List.tail_cons, List.flatMap_append, hx, hl]
theorem tokN_text : ∀ l : List Ex, (tokM l).flatMap tkT = prtM l
  | [] => by rw [tokM, prtM]; rfl
  | x :: l => by
    have hx := tok_text x 1
    have hl := tokN_text l
    rw [tokM, prtM, List.flatMap_cons, List.flatMap_append, hx, hl, text_arg]
    rfl
end
mutual
theorem tok_len : ∀ (x : Ex) (n : Nat), okX x → (tok n x).length ≤ (prt n x).length ∧ 1 ≤ (tok n x).length
  | .num t, n, h => by have := List.length_pos_iff.2 (prt_opd (.num t) n h).1; rw [tok]; exact ⟨this, Nat.le_refl _⟩
  | .truth b, n, h => by have := List.length_pos_iff.2 (prt_opd (.truth b) n h).1; rw [tok]; exact ⟨this, Nat.le_refl _⟩
  | .err t, n, h => by have := List.length_pos_iff.2 (prt_opd (.err t) n h).1; rw [tok]; exact ⟨this, Nat.le_refl _⟩
  | .name t, n, h => by have := List.length_pos_iff.2 (prt_opd (.name t) n h).1; rw [tok]; exact ⟨this, Nat.le_refl _⟩
  | .cell s c r a b, n, h => by have := List.length_pos_iff.2 (prt_opd (.cell s c r a b) n h).1; rw [tok]; exact ⟨this, Nat.le_refl _⟩
  | .area s c r c2 r2 a b a2 b2, n, h => by have := List.length_pos_iff.2 (prt_opd (.area s c r c2 r2 a b a2 b2) n h).1; rw [tok]; exact ⟨this, Nat.le_refl _⟩
  | .call t kids, n, h => by
    have h2 := h
    unfold okX at h2
    have hl := tokM_len kids h2.2.2.2
    have h0 := List.length_pos_iff.2 (word_named h2.1).1
    rw [tok, prt]
    simp
    omega
  | .bin o x y, n, h => by
    unfold okX at h
    have hx := tok_len x (lev o) h.2.1
    have hy := tok_len y (lev o + 1) h.2.2
    have ho : 1 ≤ o.length := by
      have := h.1
      simp only [opsL, List.mem_cons, List.not_mem_nil, or_false] at this
      rcases this with rfl | rfl | rfl | rfl | rfl | rfl | rfl | rfl | rfl | rfl | rfl | rfl <;> decide
    rw [tok_bin, prt_bin]
    split <;> simp <;> omega
  | .odd, n, h => by unfold okX at h; exact h.elim
theorem tokM_len : ∀ l : List Ex, okL l → (tokM l).length ≤ (prtM l).length ∧ l.length ≤ (tokM l).length
  | [], _ => by rw [tokM, prtM]; exact ⟨Nat.le_refl _, Nat.le_refl _⟩
  | x :: l, h => by
    unfold okL at h
    have hx := tok_len x 1 h.1
    have hl := tokM_len l h.2
    rw [tokM, prtM]
    simp
    omega
end

end Go.Proofs.YtfeffdjnjckjaaaGreatDoor.Rg

/- Rows of tokens in memory, and how they are joined. -/
namespace Go.Proofs.YtfeffdjnjckjaaaGreatDoor.Rg
open Go.RowKit

theorem tk_len : ∀ l : List Tk, (l.flatMap Tk.cells).length = l.length * 3
  | [] => rfl
  | k :: l => by
    rw [List.flatMap_cons, List.length_append, tk_len l, List.length_cons, Nat.add_mul]
    have : k.cells.length = 3 := rfl
    omega
theorem tk_one (l : List Tk) : ∀ u ∈ l.flatMap Tk.cells, u.oneCell' = true := by
  intro u hu
  obtain ⟨k, _, hk⟩ := List.mem_flatMap.1 hu
  simp only [Tk.cells, List.mem_cons, List.not_mem_nil, or_false] at hk
  rcases hk with rfl | rfl | rfl <;> rfl

/-- The tokens l lie in a row of the call's own, from block B on. -/
def Tks (w : World) (B : Nat) (e : TypeId) (V : Value) (l : List Tk) : Prop := w.ownsRow B e 3 V l.length (l.flatMap Tk.cells)
theorem Tks.nil (w : World) (B : Nat) (e : TypeId) : Tks w B e (.slice none 0 0) [] := World.ownsRow_nil w B e 3
theorem Tks.below {w w' : World} {B : Nat} {e : TypeId} {V : Value} {l : List Tk} (h : Tks w B e V l) (hb : Below w.heap.size w w') : Tks w' B e V l := own_below h hb
theorem Tks.lower {w : World} {B B' : Nat} {e : TypeId} {V : Value} {l : List Tk} (h : Tks w B e V l) (hB : B' ≤ B) : Tks w B' e V l := own_lower h hB
theorem Tks.lt {w : World} {B : Nat} {e : TypeId} {V : Value} {l : List Tk} (h : Tks w B e V l) : ∀ k, V.ownBlock = some k → B ≤ k ∧ k < w.heap.size := World.ownsRow.lt h
theorem Tks.slice {w : World} {B : Nat} {e : TypeId} {V : Value} {l : List Tk} (h : Tks w B e V l) : ∃ A c, V = .slice A l.length c := own_slice h
theorem Tks.same {w w' : World} {B : Nat} {e : TypeId} {V : Value} {l : List Tk} (h : Tks w B e V l) (hs : ∀ g, V.ownBlock = some g → Same w w' g) : Tks w' B e V l := own_same h hs
theorem Tks.grow {w w' : World} {B : Nat} {e : TypeId} {V : Value} {l : List Tk} {row : Option Nat} (h : Tks w B e V l) (hg : w.grownBy w' row) (hr : ∀ k, row = some k → V.ownBlock ≠ some k) : Tks w' B e V l :=
  h.same fun g hv => hg.block g (h.lt g hv).2 (fun e => hr g e.symm hv)
/-- A row of one token, fresh. -/
theorem Tks.one {w : World} {g : Nat} {k : Tk} {e : TypeId} (h : Box w g #[.string k.v, .string k.typ, .string k.sub] e) (B : Nat) (hB : B ≤ g) : Tks w B e (.slice (some ⟨g, 0, none⟩) 1 1) [k] :=
  ⟨by simp [Tk.cells], .inr ⟨g, 1, _, rfl, hB, h, Nat.le_refl _, by unfold maxLen; omega, rfl, by simp [Tk.cells]⟩⟩
theorem Tks.made (w : World) (k : Tk) (e : TypeId) : Tks (w.alloc (.cells #[.string k.v, .string k.typ, .string k.sub] e)) w.heap.size e (.slice (some ⟨w.heap.size, 0, none⟩) 1 1) [k] := Tks.one (Box.made w _ e) _ (Nat.le_refl _)
/-- The cells of token j. -/
theorem Tks.at {w : World} {B : Nat} {e : TypeId} {A : Option Addr} {c : Nat} {l : List Tk} (h : Tks w B e (.slice A l.length c) l) {j : Nat} {k : Tk} (hj : l[j]? = some k) :
    ∃ g, A = some ⟨g, 0, none⟩ ∧ B ≤ g ∧ g < w.heap.size ∧ w.cell? ⟨g, j * 3, none⟩ = some (.string k.v) ∧ w.cell? ⟨g, j * 3 + 1, none⟩ = some (.string k.typ) ∧ w.cell? ⟨g, j * 3 + 2, none⟩ = some (.string k.sub) := by
  have hlen : l.length ≠ 0 := by
    intro e
    rw [List.eq_nil_of_length_eq_zero e] at hj
    cases hj
  rcases h.2 with ⟨_, h0⟩ | ⟨g, cap, cur, hv, hBg, hg, _⟩
  · exact absurd h0 hlen
  · injection hv with hA _ hc
    subst hA
    subst hc
    have hcs := World.ownsRow.cells (g := g) h rfl
    have hf := fun i (hi : i < 3) => flat_cell Tk.cells 3 (fun _ => rfl) l j i k hj hi
    have hl := (h.lt g rfl).2
    refine ⟨g, rfl, hBg, hl, ?_, ?_, ?_⟩
    · have := hcs (j * 3 + 0) (.string k.v) (hf 0 (by omega))
      rw [addAt] at this
      exact this
    · have := hcs (j * 3 + 1) (.string k.typ) (hf 1 (by omega))
      rw [addAt] at this
      exact this
    · have := hcs (j * 3 + 2) (.string k.sub) (hf 2 (by omega))
      rw [addAt] at this
      exact this

/-- The types of tokens and of their rows. -/
structure TokTy (t e : TypeId) : Prop where
  und : Tryz.prog.underlying t = some (.slice e)
  inf : (Tryz.prog.info? e).map (fun i => (i.zero, i.size, i.bytes)) = some (some (.agg #[.string ⟨#[]⟩, .string ⟨#[]⟩, .string ⟨#[]⟩]), 3, 48)
theorem tyS : TokTy 42 45 := ⟨Tryz.underlying42, by kernel_rfl⟩
theorem tyI : TokTy 30 46 := ⟨Tryz.underlying30, by kernel_rfl⟩
theorem tyE : TokTy 48 55 := ⟨Tryz.underlying48, by kernel_rfl⟩

theorem below_grew {B : Nat} {w w1 w2 : World} {row : Option Nat} (h : Below B w w1) (hg : w1.grownBy w2 row) (hr : ∀ k, row = some k → B ≤ k) (hB : B ≤ w1.heap.size) : Below B w w2 :=
  ⟨hg.os.trans h.os, hg.tape.trans h.tape, hg.output.trans h.output, Nat.le_trans h.size hg.size, fun i hi => (hg.block i (by omega) (fun e => by have := hr i e.symm; omega)).trans (h.block i hi)⟩

/-- Two rows are joined. -/
theorem join_tks {t e : TypeId} (ty : TokTy t e) (w : World) (B C : Nat) (V U : Value) (a b : List Tk) (ha : Tks w B e V a) (hb : Tks w C e U b) (hn : a.length + b.length ≤ 100000) (hB : B ≤ w.heap.size) :
    ∃ A' c' w', (Builtin.append_ #[t, t] t #[V, U]).run Tryz.prog w = .ok (.slice A' (a ++ b).length c') w' ∧ Tks w' B e (.slice A' (a ++ b).length c') (a ++ b) ∧ w.grownBy w' V.ownBlock ∧
      ((Value.slice A' (a ++ b).length c').ownBlock = V.ownBlock ∨ (Value.slice A' (a ++ b).length c').ownBlock = some w.heap.size) := by
  obtain ⟨i0, hi, hz0, hz1, hz2⟩ := info_parts ty.inf
  have hl : (a ++ b).length = a.length + b.length := List.length_append
  rcases hb.2 with ⟨hv, hm⟩ | ⟨g, cap, cur, hv, _⟩
  · have hb0 : b = [] := List.eq_nil_of_length_eq_zero hm
    subst hb0
    obtain ⟨A, c, hV⟩ := ha.slice
    subst hV
    subst hv
    have hrun := run_append_owned_none (P := Tryz.prog) (w := w) B t t e i0 3 ty.und hi _ _ _ ha
    rw [List.append_nil]
    exact ⟨A, c, w, hrun, ha, World.grownBy.refl w _, .inl rfl⟩
  · obtain ⟨v', w', happ, hown, hgr, _, hloc⟩ := run_append_own_at (P := Tryz.prog) w B t t e i0 _ 3 48 ty.und hi hz0 hz1 hz2 rfl (by decide) V a.length _ ha ⟨g, 0, none⟩ b.length cap (b.flatMap Tk.cells) (tk_len b)
      (World.ownsRow.cells (g := g) hb (by rw [hv]; rfl)) (tk_one b) (by unfold maxLen; omega) (by omega) hB
    have hown2 : Tks w' B e v' (a ++ b) := by
      unfold Tks
      rw [hl, List.flatMap_append]
      exact hown
    obtain ⟨A', c', rfl⟩ := hown2.slice
    rw [hv]
    exact ⟨A', c', w', happ, hown2, hgr, hloc⟩

/-- An append whose result is known, at the list of a plain region's operations. -/
theorem wpList_append_eq {ops : Array Oper} {rest : List Oper} {o : Oper} {a : Act} {w w' : World} {Q : Exit → Act → World → Prop} (hgd : o.guard = none) (s x : Operand) (t : TypeId)
    (ho : o.op = .call { callee := .builtin .append, args := #[s, x], argTypes := #[t, t] }) {v u v' : Value} (hs : a.eval s = v) (hx : a.eval x = u)
    (hr : (Builtin.append_ #[t, t] o.type #[v, u]).run Tryz.prog w = .ok v' w') (h : wpList Tryz.prog ops Q rest (a.put o.dst v') w') : wpList Tryz.prog ops Q (o :: rest) a w :=
  wpList_plain hgd fun _ hK => wp_append s x t ho hs hx hr (hK _ _ h)

/-- What a function answers that makes a row of tokens. -/
def TokPost (w : World) (e : TypeId) (l : List Tk) (x : Ending) (w' : World) : Prop :=
  ∃ A c, x = .returned (.slice A l.length c) ∧ Below w.heap.size w w' ∧ Tks w' w.heap.size e (.slice A l.length c) l

end Go.Proofs.YtfeffdjnjckjaaaGreatDoor.Rg
