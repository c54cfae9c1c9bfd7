/- Merged cells: pointers in a row, each to a block with a rectangle and a text; what writes leave alone. -/
import Derived.Test.YtokooampmhcfeaaDoorRRect
namespace Go.Proofs.YtokooampmhcfeaaDoor.Rg
open Go.RowKit

def ptr (g : Nat) : Value := .pointer (some ⟨g, 0, none⟩)

/-- Every block of another kind is as it was. -/
def KeepBut (w w' : World) (e : TypeId) : Prop := ∀ g t, t ≠ e → Tag w g t → Same w w' g
/-- Every block is as it was. -/
def KeepAll (w w' : World) : Prop := ∀ g t, Tag w g t → Same w w' g

theorem KeepAll.below {w w' : World} (hb : Below w.heap.size w w') : KeepAll w w' := fun _ _ h => Same.of_below hb h.lt
theorem KeepAll.but {w w' : World} (h : KeepAll w w') (e : TypeId) : KeepBut w w' e := fun g t _ ht => h g t ht
theorem KeepBut.grown {w w' : World} {base size n : Nat} {e : TypeId} {v : Value} {xs : List Value} (hg : w.grownBy w' v.ownBlock) (ho : w.ownsRow base e size v n xs) : KeepBut w w' e :=
  fun _ _ hne ht => Same.of_grown hg ht.lt (ht.far ho hne)
theorem KeepBut.set {w : World} {g : Nat} {e : TypeId} (h : Tag w g e) (i : Nat) (v : Value) : KeepBut w (w.setCell ⟨g, i, none⟩ v) e :=
  fun _ _ hne ht => Same.of_set _ _ (ht.ne h hne)
theorem KeepBut.tag {w w' : World} {e : TypeId} (h : KeepBut w w' e) {g : Nat} {t : TypeId} (ht : Tag w g t) (hne : t ≠ e) : Tag w' g t := ht.of_block (h g t hne ht)
theorem KeepBut.trans {w w1 w2 : World} {e : TypeId} (h : KeepBut w w1 e) (h' : KeepBut w1 w2 e) : KeepBut w w2 e :=
  fun g t hne ht => (h g t hne ht).trans (h' g t hne (h.tag ht hne))
theorem KeepBut.own {w w' : World} {base size n : Nat} {e t : TypeId} {v : Value} {xs : List Value} (h : KeepBut w w' e) (ho : w.ownsRow base t size v n xs) (hne : t ≠ e) : w'.ownsRow base t size v n xs :=
  own_same ho fun g hg => h g t hne (own_tag ho g hg)
theorem KeepBut.recs {w w' : World} {e : TypeId} {V : List Value} {L : List Ar} (h : KeepBut w w' e) (hr : Recs w V L) (hne : 3 ≠ e) : Recs w' V L := hr.map fun g ht => h g _ hne ht

/-- Every block but one is as it was. -/
def KeepX (w w' : World) (g0 : Nat) : Prop := ∀ g, g < w.heap.size → g ≠ g0 → Same w w' g
theorem KeepX.below {w w' : World} (hb : Below w.heap.size w w') (g0 : Nat) : KeepX w w' g0 := fun _ hg _ => Same.of_below hb hg
theorem KeepX.set (w : World) (g i : Nat) (v : Value) : KeepX w (w.setCell ⟨g, i, none⟩ v) g := fun _ _ hne => Same.of_set _ _ hne
theorem KeepX.trans {w w1 w2 : World} {g0 : Nat} (h : KeepX w w1 g0) (hs : w.heap.size ≤ w1.heap.size) (h' : KeepX w1 w2 g0) : KeepX w w2 g0 :=
  fun g hg hne => (h g hg hne).trans (h' g (Nat.lt_of_lt_of_le hg hs) hne)
theorem KeepX.but {w w' : World} {g0 : Nat} {e : TypeId} (h : KeepX w w' g0) (ht : Tag w g0 e) : KeepBut w w' e := fun g _ hne hg => h g hg.lt (hg.ne ht hne)

theorem nodup_ne {G : List Nat} (h : G.Nodup) {i j a b : Nat} (hi : G[i]? = some a) (hj : G[j]? = some b) (hne : i ≠ j) : a ≠ b := by
  intro e
  subst e
  exact hne ((List.getElem?_inj (List.getElem?_eq_some_iff.1 hi).1 h).1 (hi.trans hj.symm))

/-- Block g is a merged cell: its rectangle and its text. -/
structure CRec (w : World) (g : Nat) (r : Value) (t : List UInt8) : Prop where
  tag : Tag w g 95
  c0 : w.cell? ⟨g, 0, none⟩ = some r
  c1 : w.cell? ⟨g, 1, none⟩ = some (.string ⟨t.toArray⟩)
theorem CRec.same {w w' : World} {g : Nat} {r : Value} {t : List UInt8} (h : CRec w g r t) (hs : Same w w' g) : CRec w' g r t :=
  ⟨h.tag.of_block hs, hs.cell.trans h.c0, hs.cell.trans h.c1⟩

/-- The sheet at W has its merged cells at M. -/
structure Sheet (w : World) (W M : Nat) : Prop where
  wt : Tag w W 92
  mt : Tag w M 80
  wc : w.cell? ⟨W, 3, none⟩ = some (ptr M)
  m0 : ∃ u, w.cell? ⟨M, 0, none⟩ = some u
  m1 : ∃ u, w.cell? ⟨M, 1, none⟩ = some u
theorem Sheet.keep {w w' : World} {W M : Nat} {e : TypeId} (h : Sheet w W M) (hk : KeepBut w w' e) (h1 : 92 ≠ e) (h2 : 80 ≠ e) : Sheet w' W M := by
  have hm := hk M _ h2 h.mt
  obtain ⟨u0, hu0⟩ := h.m0
  obtain ⟨u1, hu1⟩ := h.m1
  exact ⟨hk.tag h.wt h1, hk.tag h.mt h2, (hk W _ h1 h.wt).cell.trans h.wc, ⟨u0, hm.cell.trans hu0⟩, ⟨u1, hm.cell.trans hu1⟩⟩
theorem Sheet.setM {w : World} {W M : Nat} (h : Sheet w W M) (i : Nat) (v : Value) : Sheet (w.setCell ⟨M, i, none⟩ v) W M := by
  obtain ⟨u0, hu0⟩ := h.m0
  obtain ⟨u1, hu1⟩ := h.m1
  exact ⟨h.wt.setCell _ _ rfl, h.mt.setCell _ _ rfl, (Same.of_set ⟨M, i, none⟩ v (h.wt.ne h.mt (by decide))).cell.trans h.wc, cell?_setCell_some hu0, cell?_setCell_some hu1⟩

/-- Block g is a merged cell with this text. -/
structure CTx (w : World) (g : Nat) (t : List UInt8) : Prop where
  tag : Tag w g 95
  c1 : w.cell? ⟨g, 1, none⟩ = some (.string ⟨t.toArray⟩)
theorem CTx.same {w w' : World} {g : Nat} {t : List UInt8} (h : CTx w g t) (hs : Same w w' g) : CTx w' g t :=
  ⟨h.tag.of_block hs, hs.cell.trans h.c1⟩
/-- The merged cells and their texts. -/
def CellsTx (w : World) (G : List Nat) (T : List (List UInt8)) : Prop := G.length = T.length ∧ ∀ (i g : Nat) (t : List UInt8), G[i]? = some g → T[i]? = some t → CTx w g t
theorem CellsTx.keep {w w' : World} {G : List Nat} {T : List (List UInt8)} {e : TypeId} (h : CellsTx w G T) (hk : KeepBut w w' e) (h1 : 95 ≠ e) : CellsTx w' G T :=
  ⟨h.1, fun i g t hg ht => by
    have := h.2 i g t hg ht
    exact this.same (hk g _ h1 this.tag)⟩
theorem CellsTx.nil (w : World) : CellsTx w [] [] := ⟨rfl, fun i g t hg _ => by simp at hg⟩
theorem CellsTx.snoc {w : World} {G : List Nat} {T : List (List UInt8)} (h : CellsTx w G T) {g : Nat} {t : List UInt8} (hg : CTx w g t) : CellsTx w (G ++ [g]) (T ++ [t]) := by
  refine ⟨by simp [h.1], fun i u b hu hb => ?_⟩
  rcases Nat.lt_or_ge i G.length with hi | hi
  · rw [List.getElem?_append_left hi] at hu
    rw [List.getElem?_append_left (by rw [← h.1]; exact hi)] at hb
    exact h.2 i u b hu hb
  · rw [List.getElem?_append_right hi] at hu
    rw [List.getElem?_append_right (by rw [← h.1]; exact hi), ← h.1] at hb
    cases hk : i - G.length with
    | zero =>
      rw [hk] at hu hb
      simp at hu hb
      subst hu
      subst hb
      exact hg
    | succ k =>
      rw [hk] at hu
      simp at hu

/-- The reference of a rectangle is its area's text. -/
theorem ref_rec (a : Ar) (hg : Good a) (b k : Nat) (w : World) (hr : Rec w b a) (ht : Tab w) :
    Calls Tryd.prog 37 #[.slice (some ⟨b, 0, none⟩) 4 k, .slice none 0 0] w fun e w' => e = .returned (.tuple #[.string ⟨a.text.toArray⟩, .nilIface]) ∧ Below w.heap.size w w' := by
  obtain ⟨p, q, x, y, rfl, htx, hp, hq, hx, hy⟩ := hg.nat
  rw [htx]
  have hF : Four { w with heap := #[] } w b p q x y := ⟨Nat.zero_le _, hr.tag.lt, hr.c0, hr.c1, hr.c2, hr.c3, fun i => hr.tag.free i, ⟨rfl, rfl, rfl, Nat.zero_le _, fun k hk => absurd hk (Nat.not_lt_zero k)⟩⟩
  exact ref_any false b k 0 0 none p q x y _ w hF (by omega) (by omega) (by omega) (by omega) ht (.inl ⟨rfl, rfl⟩)

/-- The merged cells from number k on. -/
structure CellsFrom (w : World) (k : Nat) (G : List Nat) (R : Nat → Value) (T : List (List UInt8)) : Prop where
  len : G.length = T.length
  recs : ∀ (i : Nat) (g : Nat) (t : List UInt8), k ≤ i → G[i]? = some g → T[i]? = some t → CRec w g (R i) t
theorem CellsFrom.keep {w w' : World} {k : Nat} {G : List Nat} {R : Nat → Value} {T : List (List UInt8)} {e : TypeId} (h : CellsFrom w k G R T) (hk : KeepBut w w' e) (h1 : 95 ≠ e) : CellsFrom w' k G R T :=
  ⟨h.len, fun i g t hi hg ht => by
    have := h.recs i g t hi hg ht
    exact this.same (hk g _ h1 this.tag)⟩

theorem own_lower {w : World} {base base' size n : Nat} {e : TypeId} {v : Value} {xs : List Value} (h : w.ownsRow base e size v n xs) (hb : base' ≤ base) : w.ownsRow base' e size v n xs := by
  refine ⟨h.1, ?_⟩
  rcases h.2 with hn | ⟨g, cap, cur, hv, hbb, rest⟩
  · exact .inl hn
  · exact .inr ⟨g, cap, cur, hv, Nat.le_trans hb hbb, rest⟩

/-- What the passes still come to. -/
def Still (ms : Bool) (L F : List Ar) : Prop := (ms = true ∧ Runs L F) ∨ (ms = false ∧ L = F)

theorem Runs.step {L F : List Ar} (h : Runs L F) : ∃ P m, pass L = (P, m) ∧ Still m P F ∧ (m = true → P.length < L.length) := by
  cases h with
  | last _ _ h => exact ⟨F, false, h, .inr ⟨rfl, rfl⟩, fun h => by cases h⟩
  | more _ L' _ h h1 h2 => exact ⟨L', true, h, .inl ⟨rfl, h2⟩, fun _ => h1⟩

/-- The truths of the areas that are used up, as a row holds them. -/
def boolsOf (U : List Bool) : List Value := U.map Value.bool

theorem infoBool : (Tryd.prog.info? 4).map (fun i => (i.zero, i.size, i.bytes)) = some (some (.bool false), 1, 1) := by kernel_rfl

theorem infoRow : (Tryd.prog.info? 24).map (fun i => (i.zero, i.size, i.bytes)) = some (some (.slice none 0 0), 1, 24) := by kernel_rfl
theorem infoPtr : (Tryd.prog.info? 93).map (fun i => (i.zero, i.size, i.bytes)) = some (some (.pointer none), 1, 8) := by kernel_rfl

theorem Ar.colon (a : Ar) : ∃ i, (⟨a.text.toArray⟩ : ByteArray).data.toList.findIdx? (· == 58) = some i := by
  have hm : (58 : UInt8) ∈ a.text := by
    unfold Ar.text areaText
    simp
  cases hf : (⟨a.text.toArray⟩ : ByteArray).data.toList.findIdx? (· == 58) with
  | some i => exact ⟨i, rfl⟩
  | none =>
    rw [List.findIdx?_eq_none_iff] at hf
    have := hf 58 (by simpa using hm)
    simp at this

end Go.Proofs.YtokooampmhcfeaaDoor.Rg
