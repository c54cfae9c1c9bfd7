/- A map from columns to rows of cells, as the package makes it: what is at each key is a row of the call's own, and each of its elements leads to a block of two numbers. -/
import Derived.Test.YtokooampmhcfeaaGreatDoorRHeap
import Derived.Maps.RangeWalk
import Derived.Maps.OwnRows
namespace Go.Proofs.YtokooampmhcfeaaGreatDoor.Rg
open Go.RowKit Go.Maps

/-! ### What writes leave alone -/
/-- Every block of another kind is as it was. -/
def KeepBut (w w' : World) (e : TypeId) : Prop := ∀ g t, t ≠ e → Tag w g t → Same w w' g

theorem KeepBut.refl (w : World) (e : TypeId) : KeepBut w w e := fun _ _ _ _ => rfl
theorem KeepBut.below {w w' : World} (hb : Below w.heap.size w w') (e : TypeId) : KeepBut w w' e := fun _ _ _ h => Same.of_below hb h.lt
theorem KeepBut.grown {w w' : World} {base size n : Nat} {e : TypeId} {v : Value} {xs : List Value} (hg : w.grownBy w' v.ownBlock) (ho : w.ownsRow base e size v n xs) : KeepBut w w' e :=
  fun _ _ hne ht => Same.of_grown hg ht.lt (ht.far ho hne)
theorem KeepBut.tag {w w' : World} {e : TypeId} (h : KeepBut w w' e) {g : Nat} {t : TypeId} (ht : Tag w g t) (hne : t ≠ e) : Tag w' g t := ht.of_block (h g t hne ht)
theorem KeepBut.trans {w w1 w2 : World} {e : TypeId} (h : KeepBut w w1 e) (h' : KeepBut w1 w2 e) : KeepBut w w2 e :=
  fun g t hne ht => (h g t hne ht).trans (h' g t hne (h.tag ht hne))
theorem KeepBut.own {w w' : World} {base size n : Nat} {e t : TypeId} {v : Value} {xs : List Value} (h : KeepBut w w' e) (ho : w.ownsRow base t size v n xs) (hne : t ≠ e) : w'.ownsRow base t size v n xs :=
  own_same ho fun g hg => h g t hne (own_tag ho g hg)
theorem Tag.not_map {w : World} {g : Nat} {t : TypeId} (h : Tag w g t) {es : Array MapEntry} {k : Nat} (hm : w.heap[g]? = some (.map es k)) : False := by
  obtain ⟨cs, h⟩ := h
  rw [hm] at h
  cases h
/-- A store into a map leaves every row alone. -/
theorem KeepBut.mapped {w w' : World} {b : Nat} {es : Array MapEntry} {k : Nat} (hg : w.grownBy w' (some b)) (hm : w.heap[b]? = some (.map es k)) (e : TypeId) : KeepBut w w' e := by
  intro g t _ ht
  refine Same.of_grown hg ht.lt ?_
  intro h
  cases h
  exact ht.not_map hm

/-! ### A map whose elements are taken as they are -/
def held (v : Value) : Option (DataW Value × List MemPlace) := some (.held v, [])
def nilS : Value := .slice none 0 0
def ik (c : Int) : Lit := .int .i64 c

theorem colKeyed : Keyed Tryz.prog 3 := int_keyed Tryz.underlying3
theorem colKey {c : Int} (h : (ik c).wf = true) : keyOf Tryz.prog 3 (.int .i64 c) = some (ik c) := keyOf_int_mk Tryz.underlying3 h
theorem colIsKey {c : Int} (h : (ik c).wf = true) : WideAt.IsKeyLit (ik c) := colKeyed.key (colKey h)
theorem colZero (w : World) : (zeroValue 57).run Tryz.prog w = .ok nilS w := by kernel_rfl
theorem ik_ne {c d : Int} (h : c ≠ d) : ik c ≠ ik d := fun e => h (by injection e)

/-- Element g of a row of column c. -/
def pairV (g : Nat) : Value := .slice (some ⟨g, 0, none⟩) 2 2

def upd {α : Type} (f : Int → α) (c : Int) (x : α) : Int → α := fun d => if d = c then x else f d
theorem upd_same {α : Type} (f : Int → α) (c : Int) (x : α) : upd f c x c = x := if_pos rfl
theorem upd_other {α : Type} (f : Int → α) {c d : Int} (x : α) (h : d ≠ c) : upd f c x d = f d := if_neg h

/-- Block b is such a map: at column c it has the row V c, which leads to the numbers G c (the row's number and its block). -/
structure Grp (w : World) (b base n : Nat) (D : DataW Value) (V : Int → Value) (G : Int → List (Int × Nat)) : Prop where
  own : w.ownsMap Tryz.prog 3 held b n D
  at_ : ∀ c, (ik c).wf = true → D.atKey (ik c) (.held nilS) = .held (V c)
  has : ∀ c, (ik c).wf = true → Maps.has D (ik c) = !(G c).isEmpty
  rows : ∀ c, w.ownsRow base 32 1 (V c) (G c).length ((G c).map fun p => pairV p.2)
  apart : ∀ c d, c ≠ d → (V c).ownBlock = none ∨ (V c).ownBlock ≠ (V d).ownBlock
  inner : ∀ c, ∀ p ∈ G c, base ≤ p.2 ∧ w.heap[p.2]? = some (.cells #[.int .i64 c, .int .i64 p.1] 3)
  len : ∀ c, (G c).length ≤ n

theorem Grp.made (w : World) (base : Nat) : Grp (w.alloc (.map #[] 0)) w.heap.size base 0 (.map []) (fun _ => nilS) (fun _ => []) :=
  ⟨World.ownsMap_made _ _ _ _, fun _ _ => rfl, fun _ _ => rfl, fun _ => World.ownsRow_nil _ _ _ _, fun _ _ _ => .inl rfl, fun _ p h => by simp at h, fun _ => Nat.le_refl _⟩

theorem Grp.inTag {w : World} {b base n : Nat} {D : DataW Value} {V : Int → Value} {G : Int → List (Int × Nat)} (h : Grp w b base n D V G) {c : Int} {p : Int × Nat} (hp : p ∈ G c) : Tag w p.2 3 := ⟨_, (h.inner c p hp).2⟩

/-- What is at a column is the row V c. -/
theorem Grp.look {w : World} {b base n : Nat} {D : DataW Value} {V : Int → Value} {G : Int → List (Int × Nat)} (h : Grp w b base n D V G) {c : Int} (hc : (ik c).wf = true) :
    (Instr.lookup 43 (.map (some b)) (.int .i64 c) false).run Tryz.prog w = .ok (V c) w := by
  obtain ⟨v, ps, hrun, hv⟩ := h.own.lookup colKeyed Tryz.underlying43 (colZero w) (zd := .held nilS) rfl (colKey hc)
  rw [h.at_ c hc] at hv
  have : v = V c := by simp [held] at hv; exact hv.1
  rw [← this]
  exact hrun

theorem look_own {w : World} {b n : Nat} {D : DataW Value} (h : w.ownsMap Tryz.prog 3 held b n D) {c : Int} (hc : (ik c).wf = true) {v : Value} (hat : D.atKey (ik c) (.held nilS) = .held v) :
    (Instr.lookup 43 (.map (some b)) (.int .i64 c) false).run Tryz.prog w = .ok v w := by
  obtain ⟨u, ps, hrun, hv⟩ := h.lookup colKeyed Tryz.underlying43 (colZero w) (zd := .held nilS) rfl (colKey hc)
  rw [hat] at hv
  have : u = v := by simp [held] at hv; exact hv.1
  rw [← this]
  exact hrun

/-- The map stays what it is while all its rows and the map's block stay. -/
theorem Grp.keep {w w' : World} {b base n : Nat} {D : DataW Value} {V : Int → Value} {G : Int → List (Int × Nat)} (h : Grp w b base n D V G) (hb : Below w.heap.size w w') : Grp w' b base n D V G := by
  have hs : ∀ g, g < w.heap.size → w'.heap[g]? = w.heap[g]? := fun g hg => hb.block g hg
  have hown := h.own
  obtain ⟨es, clock, hm, F, hn, hD⟩ := hown
  exact ⟨⟨es, clock, (hs b h.own.lt).trans hm, F, hn, hD⟩, h.at_, h.has, fun c => own_below (h.rows c) hb, h.apart,
    fun c p hp => ⟨(h.inner c p hp).1, (hs p.2 (h.inTag hp).lt).trans (h.inner c p hp).2⟩, h.len⟩

/-- One more cell: its block is laid, the row of its column grows, and the map is written. -/
theorem Grp.push {w w3 w4 : World} {b base n : Nat} {D : DataW Value} {V : Int → Value} {G : Int → List (Int × Nat)} (h : Grp w b base n D V G) (hb : b < base) (hbase : base ≤ w.heap.size) {c r : Int} (hc : (ik c).wf = true) {v' : Value}
    (hown : w3.ownsRow base 32 1 v' ((G c).length + 1) (((G c).map fun p => pairV p.2) ++ [pairV w.heap.size]))
    (hg : ((w.alloc (.cells #[.int .i64 c, .int .i64 r] 3)).alloc (.cells #[pairV w.heap.size] 32)).grownBy w3 (V c).ownBlock)
    (hl : v'.ownBlock = (V c).ownBlock ∨ v'.ownBlock = some (w.heap.size + 2))
    (hm : w4.ownsMap Tryz.prog 3 held b (n + 1) (D.put (ik c) (.held v'))) (hg4 : w3.grownBy w4 (some b)) :
    Grp w4 b base (n + 1) (D.put (ik c) (.held v')) (upd V c v') (upd G c (G c ++ [(r, w.heap.size)])) := by
  have e1 : (w.alloc (.cells #[.int .i64 c, .int .i64 r] 3)).heap.size = w.heap.size + 1 := by simp
  have e2 : ((w.alloc (.cells #[.int .i64 c, .int .i64 r] 3)).alloc (.cells #[pairV w.heap.size] 32)).heap.size = w.heap.size + 2 := by simp
  have hbel : Below w.heap.size w ((w.alloc (.cells #[.int .i64 c, .int .i64 r] 3)).alloc (.cells #[pairV w.heap.size] 32)) := ((Below.refl _ _).alloc (Nat.le_refl _) _).alloc (by omega) _
  have h2 := h.keep hbel
  have hnew : ((w.alloc (.cells #[.int .i64 c, .int .i64 r] 3)).alloc (.cells #[pairV w.heap.size] 32)).heap[w.heap.size]? = some (.cells #[.int .i64 c, .int .i64 r] 3) := by
    rw [Below.heap_alloc _ _ _ (by omega)]
    exact heap_alloc_new w _
  generalize ((w.alloc (.cells #[.int .i64 c, .int .i64 r] 3)).alloc (.cells #[pairV w.heap.size] 32)) = w2 at *
  have hmap2 : ∃ es k, w2.heap[b]? = some (.map es k) := by
    obtain ⟨es, clock, hm, _⟩ := h2.own
    exact ⟨es, clock, hm⟩
  obtain ⟨es2, k2, hmap2⟩ := hmap2
  have k23 : KeepBut w2 w3 32 := KeepBut.grown hg (h2.rows c)
  have hmap3 : w3.heap[b]? = some (.map es2 k2) := (hg.block b (Array.getElem?_eq_some_iff.1 hmap2).1 (fun e => by
    have hgg := (h2.rows c).lt b e.symm
    omega)).trans hmap2
  have k34 : ∀ e, KeepBut w3 w4 e := fun e => KeepBut.mapped hg4 hmap3 e
  have k24 := k23.trans (k34 32)
  have own34 : ∀ {v : Value} {m : Nat} {xs : List Value}, w3.ownsRow base 32 1 v m xs → w4.ownsRow base 32 1 v m xs := fun ho => (k34 3).own ho (by decide)
  refine ⟨hm, ?_, ?_, ?_, ?_, ?_, ?_⟩
  · intro d hd
    by_cases hdc : d = c
    · subst hdc
      rw [upd_same, atKey_put_same (h.own.tidy colKeyed).isMap (colIsKey hc)]
    · rw [upd_other V _ hdc, atKey_put_other (ik_ne hdc)]
      exact h.at_ d hd
  · intro d hd
    by_cases hdc : d = c
    · subst hdc
      rw [upd_same, has_put_same (h.own.tidy colKeyed).isMap (colIsKey hc)]
      simp
    · rw [upd_other G _ hdc, has_put_other (ik_ne hdc)]
      exact h.has d hd
  · intro d
    by_cases hdc : d = c
    · subst hdc
      rw [upd_same, upd_same]
      have := own34 hown
      simpa using this
    · rw [upd_other V _ hdc, upd_other G _ hdc]
      exact own34 ((h2.rows d).kept hg (h.apart d c hdc))
  · intro d d' hne
    have lt := fun d j (hj : (V d).ownBlock = some j) => ((h.rows d).lt j hj).2
    by_cases hdc : d = c
    · subst hdc
      rw [upd_same, upd_other V _ (Ne.symm hne)]
      rcases hl with hl | hl
      · rw [hl]
        exact h.apart _ _ hne
      · rw [hl]
        refine .inr fun e => ?_
        have := lt d' _ e.symm
        omega
    · rw [upd_other V _ hdc]
      by_cases hdc' : d' = c
      · subst hdc'
        rw [upd_same]
        rcases hl with hl | hl
        · rw [hl]
          exact h.apart _ _ hne
        · rw [hl]
          refine .inr fun e => ?_
          have := lt d _ e
          omega
      · rw [upd_other V _ hdc']
        exact h.apart _ _ hne
  · intro d p hp
    have old : ∀ p ∈ G d, base ≤ p.2 ∧ w4.heap[p.2]? = some (.cells #[.int .i64 d, .int .i64 p.1] 3) := fun p hp =>
      ⟨(h2.inner d p hp).1, Eq.trans (k24 p.2 3 (by decide) (h2.inTag hp)) (h2.inner d p hp).2⟩
    by_cases hdc : d = c
    · subst hdc
      rw [upd_same] at hp
      rcases List.mem_append.1 hp with hp | hp
      · exact old p hp
      · simp only [List.mem_singleton] at hp
        subst hp
        exact ⟨hbase, Eq.trans (k24 _ 3 (by decide) ⟨_, hnew⟩) hnew⟩
    · rw [upd_other G _ hdc] at hp
      exact old p hp
  · intro d
    have := h.len d
    by_cases hdc : d = c
    · subst hdc
      rw [upd_same]
      simp
      omega
    · rw [upd_other G _ hdc]
      omega

end Go.Proofs.YtokooampmhcfeaaGreatDoor.Rg
