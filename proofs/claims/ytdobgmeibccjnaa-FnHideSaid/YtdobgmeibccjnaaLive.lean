/- The statements' own look at a hidden column answers true; small facts for the last two walks. -/
import Derived.Test.YtdobgmeibccjnaaFlatLaw
import Derived.Laws.AppendOwnNone
namespace Go.Proofs.Ytdobgmeibccjnaa.Ln
open Go.RowKit
attribute [local go_sem] run_store_float

theorem refLine_lit (x : Int) (v : Value) (X : List Run) (w : World) (n : Nat) (hn : n = X.length) (hn2 : n ≤ 1000) (h : Rd w w.heap.size 7 v n (X.flatMap cA)) (q : Run) (hq : look X x = q) :
    Calls Try.prog 17 #[v, .int .i64 x] w fun e w' => e = .returned (.agg #[.int .i64 q.mn, .int .i64 q.mx, .int .i64 q.lv, .int .i64 q.st, .float .f64 q.wd, .bool q.hd, .bool q.cu]) ∧ Below w.heap.size w w' := by
  subst hq
  exact refLine_any x v X w n hn hn2 h

theorem run_field5 (x0 x1 x2 x3 x4 x5 x6 : Value) (w : World) : (Instr.field 34 (.agg #[x0, x1, x2, x3, x4, x5, x6]) 5).run Try.prog w = .ok x5 w := by kernel_rfl

theorem live2 : look (outerF repV (runV 2 3 false) []) 2 = { mn := 2, mx := 2, lv := 0, st := 0, wd := 4622100592565682176, hd := true, cu := true } := rfl
theorem live3 : look (outerF repV (runV 2 3 false) []) 3 = { mn := 3, mx := 3, lv := 0, st := 0, wd := 4622100592565682176, hd := true, cu := true } := rfl
theorem live4 : look (outerF repV (runV 2 3 false) []) 4 = { mn := 4, mx := 4, lv := 0, st := 0, wd := 0, hd := false, cu := false } := rfl

set_option maxHeartbeats 800000 in
set_option maxRecDepth 100000 in
theorem live_any (w : World) : Calls Try.prog 18 #[] w fun e w' => e = .returned (.bool true) ∧ Below w.heap.size w w' := by
  have hok := OkRuns.nil
  have hlen := outerF_len repV (runV 2 3 false) [] hok (by simp) (by decide) (by decide)
  have hfield := run_field5
  go_enter Try.func18, Try.ntmps18
  go_wp2_with fail
  refine (hide_any 2 3 false (.slice none 0 0) [] w 0 rfl (by omega) (Rd.of_own (World.ownsRow_nil w 0 34 7)) (by omega) (by omega) (by omega) (by simp) hlen).mono ?_
  rintro e w1 ⟨A, m, c, rfl, ho, hb1⟩
  have hm := ho.len
  have HM := Lib.hid hm
  have hr := Rd.of_own ho.own
  have hm2 : m ≤ 1000 := by rw [hm]; exact hlen
  clear hm hlen ho
  go_wp2_with fail
  refine (refLine_lit 2 _ _ w1 m HM.out hm2 hr _ live2).mono ?_
  rintro e w2 ⟨rfl, hb2⟩
  have hr2 := (hr.below hb2).more hb2.size
  go_wp2_with fail
  refine (refLine_lit 3 _ _ w2 m HM.out hm2 hr2 _ live3).mono ?_
  rintro e w3 ⟨rfl, hb3⟩
  have hr3 := (hr2.below hb3).more hb3.size
  go_wp2_with fail
  refine (refLine_lit 4 _ _ w3 m HM.out hm2 hr3 _ live4).mono ?_
  rintro e w4 ⟨rfl, hb4⟩
  go_wp2
  go_ret
  exact ⟨rfl, hb1.trans ((hb2.trans ((hb3.trans (hb4.mono hb3.size)).mono hb2.size)).mono hb1.size)⟩

/-- append of a whole row of the call's own, nil or not, onto another. -/
theorem wpList_append_row {P : Program} {w : World} {ops : Array Oper} {rest : List Oper} {o : Oper} {a : Act} {Q : Exit → Act → World → Prop} (hgd : o.guard = none) (s x : Operand) (t : TypeId)
    (ho : o.op = .call { callee := .builtin .append, args := #[s, x], argTypes := #[t, t] })
    (base : Nat) (e : TypeId) (i : TypeInfo) (z : Value) (size bytes : Nat) (ht : P.underlying t = some (.slice e)) (hi : P.info? e = some i) (hz : i.zero = some z)
    (hsize : i.size = size) (hby : i.bytes = bytes) (hzs : z.cells.size = size) (hsz : 0 < size)
    (v : Value) (n : Nat) (xs : List Value) (hs : a.eval s = v) (hown : w.ownsRow base e size v n xs)
    (A : Option Addr) (m c : Nat) (base' : Nat) (e' : TypeId) (news : List Value) (hx : a.eval x = .slice A m c) (hsrc : w.ownsRow base' e' size (.slice A m c) m news) (h1 : ∀ u ∈ news, u.oneCell' = true)
    (h63 : n + m ≤ maxLen) (hbytes : (n + m) * bytes ≤ 140737488355328) (hbase : base ≤ w.heap.size)
    (h : ∀ v' w', w'.ownsRow base e size v' (n + m) (xs ++ news) → w.grownBy w' v.ownBlock → wpList P ops Q rest (a.put o.dst v') w') : wpList P ops Q (o :: rest) a w := by
  rcases hsrc.2 with ⟨hv, hm⟩ | ⟨g, cap, cur, hv, _⟩
  · subst hm
    injection hv with hA _ hc
    subst hA
    subst hc
    have hn : news = [] := List.eq_nil_of_length_eq_zero (by simpa using hsrc.1)
    subst hn
    exact wpList_append_own_none hgd s x t ho base e i size ht hi v n xs hs hown hx (h v w (by simpa using hown) (World.grownBy.refl w _))
  · injection hv with hA _ hc
    subst hA
    exact wpList_append_own w hgd s x t ho base e i z size bytes ht hi hz hsize hby hzs hsz v n xs hs hown ⟨g, 0, none⟩ m c news hx hsrc.1 (hsrc.cells (g := g) rfl) h1 h63 hbytes hbase (fun v' w' h2 h3 _ => h v' w' h2 h3)

/-- A slice of numbers that came in. -/
def NumsIn (w : World) (A : Option Addr) (n : Nat) (zs : List Int) : Prop :=
  (0 < n → ∃ b off, A = some ⟨b, off, none⟩ ∧ b < w.heap.size ∧ ∀ j, j < n → w.cell? ⟨b, off + j, none⟩ = some (.int .i64 (zs.getD j 0))) ∧ (∀ j, -9223372036854775808 ≤ zs.getD j 0 ∧ zs.getD j 0 ≤ 9223372036854775807)

theorem refLines_lit (A : Option Addr) (n c : Nat) (zs : List Int) (w : World) (hn : n ≤ 2147483647) (h : NumsIn w A n zs) :
    Calls Try.prog 14 #[.slice A n c] w fun e w' => ∃ (A : Option Addr) (m c : Nat) (X : List Run) (z : Int), e = .returned (.slice A m c) ∧ OwnsA w' w.heap.size 34 A m c X ∧ Hid (OkRuns X z) ∧ m ≤ 6 ∧ Below w.heap.size w w' :=
  refLines_any A n c zs w hn h.1 h.2

end Go.Proofs.Ytdobgmeibccjnaa.Ln
