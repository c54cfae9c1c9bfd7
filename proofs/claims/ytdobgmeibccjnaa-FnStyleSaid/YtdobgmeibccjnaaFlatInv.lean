/- What is kept from round to round while runs of columns are flattened. -/
import Derived.Test.YtdobgmeibccjnaaFlatDefs
namespace Go.Proofs.Ytdobgmeibccjnaa.Ln
open Go.RowKit
attribute [local go_sem] run_store_float

/-- What is known of the list at the head of a round of the inner loop. -/
structure Inv (w0 wr : World) (B : Nat) (u : Value) (G : List Run) (b : Nat) (c : Run) : Prop where
  own : wr.ownsRow B 68 7 u G.length (G.flatMap cB)
  far : u.ownBlock ≠ some b
  box : Blk wr b 68 (cB c)
  low : Below B w0 wr

theorem Inv.append {w0 wr w1 : World} {B b : Nat} {u v' : Value} {G : List Run} {c s : Run} {o o' : Obj} (h : Inv w0 wr B u G b c) (hB : B ≤ wr.heap.size)
    (hown : w1.ownsRow B 68 7 v' (G.length + 1) (G.flatMap cB ++ cB s)) (hg : ((wr.alloc o).alloc o').grownBy w1 u.ownBlock) (hat : v'.ownBlock = u.ownBlock ∨ v'.ownBlock = some (wr.heap.size + 1 + 1)) :
    Inv w0 w1 B v' (G ++ [s]) b c := by
  have hlt := h.box.lt
  refine ⟨by simpa using hown, ?_, ((h.box.alloc o).alloc o').grown hg (fun e => h.far e.symm), ((h.low.alloc hB o).alloc (by simp; omega) o').grown hg (by simp; omega) (fun j hj => (h.own.lt j hj).1)⟩
  rcases hat with e | e <;> rw [e]
  · exact h.far
  · simp; omega

theorem Inv.below {w0 wr w1 : World} {B b : Nat} {u : Value} {G : List Run} {c : Run} (h : Inv w0 wr B u G b c) (hB : B ≤ wr.heap.size) (hb : Below wr.heap.size wr w1) : Inv w0 w1 B u G b c :=
  ⟨own_below h.own hb, h.far, h.box.below hb h.box.lt, h.low.trans (hb.mono hB)⟩

theorem Inv.alloc {w0 wr : World} {B b : Nat} {u : Value} {G : List Run} {c : Run} (h : Inv w0 wr B u G b c) (hB : B ≤ wr.heap.size) (o : Obj) : Inv w0 (wr.alloc o) B u G b c :=
  ⟨h.own.alloc o, h.far, h.box.alloc o, h.low.alloc hB o⟩

theorem Inv.drew {w0 wr : World} {B b : Nat} {u : Value} {G : List Run} {c : Run} (h : Inv w0 wr B u G b c) : Inv w0 wr.drew B u G b c :=
  ⟨h.own, h.far, h.box, h.low.drew⟩

theorem Inv.set7 {w0 w : World} {B b g cap n : Nat} {G : List Run} {c : Run} (r' : Run) (j : Nat) (hj : j < G.length) (hn : n = G.length) (h : Inv w0 w B (.slice (some ⟨g, 0, none⟩) n cap) G b c) :
    Inv w0 (((((((w.setCell ⟨g, j * 7, none⟩ (.int .i64 r'.mn)).setCell ⟨g, j * 7 + 1, none⟩ (.int .i64 r'.mx)).setCell ⟨g, j * 7 + 2, none⟩ (.float .f64 r'.wd)).setCell ⟨g, j * 7 + 3, none⟩ (.bool r'.hd)).setCell ⟨g, j * 7 + 4, none⟩ (.int .i64 r'.lv)).setCell ⟨g, j * 7 + 5, none⟩ (.int .i64 r'.st)).setCell ⟨g, j * 7 + 6, none⟩ (.bool r'.cu)) B (.slice (some ⟨g, 0, none⟩) n cap) (G.set j r') b c := by
  subst hn
  have hne : b ≠ g := fun e => h.far (by simp [Value.ownBlock, e])
  have hBg : B ≤ g := (h.own.lt g (by simp [Value.ownBlock])).1
  have hl : (G.set j r').length = G.length := by simp
  refine ⟨?_, h.far, ?_, ?_⟩
  · rw [hl]; exact own_set7 r' j hj h.own
  · exact ((((((h.box.far (p := ⟨g, _, none⟩) hne _).far (p := ⟨g, _, none⟩) hne _).far (p := ⟨g, _, none⟩) hne _).far (p := ⟨g, _, none⟩) hne _).far (p := ⟨g, _, none⟩) hne _).far (p := ⟨g, _, none⟩) hne _).far (p := ⟨g, _, none⟩) hne _
  · exact ((((((h.low.setCell (p := ⟨g, _, none⟩) hBg _).setCell (p := ⟨g, _, none⟩) hBg _).setCell (p := ⟨g, _, none⟩) hBg _).setCell (p := ⟨g, _, none⟩) hBg _).setCell (p := ⟨g, _, none⟩) hBg _).setCell (p := ⟨g, _, none⟩) hBg _).setCell (p := ⟨g, _, none⟩) hBg _

/-- The cells of record j of the list, and that they may be written. -/
theorem Inv.cells {w0 wr : World} {B b : Nat} {u : Value} {G : List Run} {c : Run} (h : Inv w0 wr B u G b c) {j : Nat} {r : Run} (hj : G[j]? = some r) :
    ∃ g cap, u = .slice (some ⟨g, 0, none⟩) G.length cap ∧ g < wr.heap.size ∧
      (∀ k v, (G.flatMap cB)[k]? = some v → wr.cell? ⟨g, k, none⟩ = some v) ∧ (∀ k, wr.frozen? ⟨g, k, none⟩ = false) := by
  have hl : j < G.length := (List.getElem?_eq_some_iff.1 hj).1
  obtain ⟨g, cap, hv, hlt⟩ : ∃ g cap, u = .slice (some ⟨g, 0, none⟩) G.length cap ∧ g < wr.heap.size := by
    rcases h.own.2 with ⟨_, h0⟩ | ⟨g, cap, cur, hv, _, hg, _⟩
    · omega
    · exact ⟨g, cap, hv, (Array.getElem?_eq_some_iff.1 hg).1⟩
  have ho := h.own
  rw [hv] at ho
  refine ⟨g, cap, hv, hlt, fun k v hk => ?_, fun k => ho.frozenAt k⟩
  rw [ho.cellAt k (by rw [← ho.1]; exact (List.getElem?_eq_some_iff.1 hk).1)]
  exact hk

theorem Inv.cellsAt {w0 wr : World} {B b g cap n : Nat} {G : List Run} {c : Run} (h : Inv w0 wr B (.slice (some ⟨g, 0, none⟩) n cap) G b c) (hn : n = G.length := by rfl) :
    ∀ k v, (G.flatMap cB)[k]? = some v → wr.cell? ⟨g, k, none⟩ = some v := by
  subst hn
  intro k v hk
  rw [h.own.cellAt k (by rw [← h.own.1]; exact (List.getElem?_eq_some_iff.1 hk).1)]
  exact hk

theorem Inv.frozenAt {w0 wr : World} {B b g cap n : Nat} {G : List Run} {c : Run} (h : Inv w0 wr B (.slice (some ⟨g, 0, none⟩) n cap) G b c) (hn : n = G.length := by rfl) (k : Nat) : wr.frozen? ⟨g, k, none⟩ = false := by
  subst hn
  exact h.own.frozenAt k

theorem stepF_yes {rep : Run → Run → Run} {c : Run} {G : List Run} {x : Int} {j : Nat} {r : Run} (h : G.findIdx? (isAt x) = some j) (hr : G[j]? = some r) : stepF rep c G x = G.set j (rep r c) := by
  unfold stepF
  rw [h]
  simp [hr]
theorem stepF_no {rep : Run → Run → Run} {c : Run} {G : List Run} {x : Int} (h : G.findIdx? (isAt x) = none) : stepF rep c G x = G ++ [stamp c x] := by
  unfold stepF
  rw [h]

theorem own_mono {w : World} {base base' size n : Nat} {e : TypeId} {v : Value} {xs : List Value} (h : w.ownsRow base e size v n xs) (hb : base' ≤ base) : w.ownsRow base' e size v n xs := by
  refine ⟨h.1, ?_⟩
  rcases h.2 with h0 | ⟨g, cap, cur, h1, h2, h3⟩
  · exact .inl h0
  · exact .inr ⟨g, cap, cur, h1, Nat.le_trans hb h2, h3⟩

theorem repV_lit (f c : Run) (w : World) : Calls Try.prog 37 #[.agg #[.int .i64 f.mn, .int .i64 f.mx, .float .f64 f.wd, .bool f.hd, .int .i64 f.lv, .int .i64 f.st, .bool f.cu], .agg #[.int .i64 c.mn, .int .i64 c.mx, .float .f64 c.wd, .bool c.hd, .int .i64 c.lv, .int .i64 c.st, .bool c.cu]] w fun e w' =>
    e = .returned (.agg #[.int .i64 (repV f c).mn, .int .i64 (repV f c).mx, .float .f64 (repV f c).wd, .bool (repV f c).hd, .int .i64 (repV f c).lv, .int .i64 (repV f c).st, .bool (repV f c).cu]) ∧ Below w.heap.size w w' := repV_any f c w

theorem repS_lit (f c : Run) (w : World) : Calls Try.prog 38 #[.agg #[.int .i64 f.mn, .int .i64 f.mx, .float .f64 f.wd, .bool f.hd, .int .i64 f.lv, .int .i64 f.st, .bool f.cu], .agg #[.int .i64 c.mn, .int .i64 c.mx, .float .f64 c.wd, .bool c.hd, .int .i64 c.lv, .int .i64 c.st, .bool c.cu]] w fun e w' =>
    e = .returned (.agg #[.int .i64 (repS f c).mn, .int .i64 (repS f c).mx, .float .f64 (repS f c).wd, .bool (repS f c).hd, .int .i64 (repS f c).lv, .int .i64 (repS f c).st, .bool (repS f c).cu]) ∧ Below w.heap.size w w' := repS_any f c w

end Go.Proofs.Ytdobgmeibccjnaa.Ln
