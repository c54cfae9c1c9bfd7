/- Showing or hiding columns, and giving them a style, return a new list: the flattened runs; for at most 12 runs within 60 columns. -/
import Derived.Test.YtdobgmeibccjnaaSetV
import Derived.Test.YtdobgmeibccjnaaSetS
namespace Go.Proofs.Ytdobgmeibccjnaa.Ln
open Go.RowKit
attribute [local go_sem] run_store_float

theorem SetPost.facts {w w' : World} {cb g : Nat} {X : List Run} {u : Value} (h : SetPost w cb X w') (hg : w.cell? ⟨g, 2, none⟩ = some u) (hc : ∃ u, w.cell? ⟨cb, 0, none⟩ = some u) (hne : g ≠ cb) :
    ∃ A m c, w'.cell? ⟨g, 2, none⟩ = some u ∧ w'.cell? ⟨cb, 0, none⟩ = some (.slice A m c) ∧ OwnsF w' w.heap.size A m c X ∧ w.heap.size ≤ w'.heap.size ∧ (∀ B, B ≤ cb → B ≤ w.heap.size → Below B w w') := by
  obtain ⟨A, m, c, w1, ho, hb, rfl⟩ := h
  obtain ⟨u', hu'⟩ := hc
  have hgW := World.block_lt_of_cell? w _ hg
  have hcW := World.block_lt_of_cell? w _ hu'
  simp only at hgW hcW
  refine ⟨A, m, c, ?_, ?_, ⟨ownsRow_setCell_below ho.own (by exact hcW) _, ho.len⟩, by simpa [World.setCell] using hb.size, fun B h1 h2 => (hb.mono h2).setCell (p := ⟨cb, 0, none⟩) h1 _⟩
  · rw [World.cell?_setCell_other _ _ _ _ (by intro e; injection e with e; exact hne e.symm)]
    exact (hb.cell (p := ⟨g, 2, none⟩) hgW).trans hg
  · exact World.cell?_setCell_same _ _ _ ((hb.cell (p := ⟨cb, 0, none⟩) hcW).trans hu')

theorem innerLines_lit (v : Value) (L : List Run) (w : World) (n : Nat) (hn : n = L.length) (hn2 : n ≤ 1000) (h : Rd w w.heap.size 7 v n (L.flatMap cA)) :
    Calls Try.prog 31 #[v] w fun e w' => ∃ (A : Option Addr) (c : Nat), e = .returned (.slice A n c) ∧ w'.ownsRow w.heap.size 68 7 (.slice A n c) n (L.flatMap cB) ∧ Below w.heap.size w w' :=
  (innerLines_any v L w n hn hn2 h).mono fun e w' ⟨v', he, ho, hb⟩ => by
    obtain ⟨A, c, rfl⟩ := own_slice ho
    exact ⟨A, c, he, ho, hb⟩

theorem doorLines_lit (v : Value) (L : List Run) (w : World) (n : Nat) (hn : n = L.length) (hn2 : n ≤ 1000) (h : Rd w w.heap.size 7 v n (L.flatMap cB)) :
    Calls Try.prog 33 #[v] w fun e w' => ∃ (A : Option Addr) (c : Nat), e = .returned (.slice A n c) ∧ w'.ownsRow w.heap.size 45 7 (.slice A n c) n (L.flatMap cA) ∧ Below w.heap.size w w' :=
  (doorLines_any v L w n hn hn2 h).mono fun e w' ⟨v', he, ho, hb⟩ => by
    obtain ⟨A, c, rfl⟩ := own_slice ho
    exact ⟨A, c, he, ho, hb⟩

theorem linesTo_lit (v : Value) (L : List Run) (w : World) (n : Nat) (hn : n = L.length) (hn2 : n ≤ 1000) (h : Rd w w.heap.size 7 v n (L.flatMap cA)) :
    Calls Try.prog 26 #[v] w fun e w' => ∃ (A : Option Addr) (c : Nat), e = .returned (.slice A n c) ∧ w'.ownsRow w.heap.size 45 7 (.slice A n c) n (L.flatMap cA) ∧ Below w.heap.size w w' :=
  (linesTo_any v L w n hn hn2 h).mono fun e w' ⟨v', he, ho, hb⟩ => by
    obtain ⟨A, c, rfl⟩ := own_slice ho
    exact ⟨A, c, he, ho, hb⟩

theorem linesOf_lit (v : Value) (L : List Run) (w : World) (n : Nat) (hn : n = L.length) (hn2 : n ≤ 1000) (h : Rd w w.heap.size 7 v n (L.flatMap cA)) :
    Calls Try.prog 24 #[v] w fun e w' => ∃ (A : Option Addr) (c : Nat), e = .returned (.slice A n c) ∧ w'.ownsRow w.heap.size 34 7 (.slice A n c) n (L.flatMap cA) ∧ Below w.heap.size w w' :=
  (linesOf_any v L w n hn hn2 h).mono fun e w' ⟨v', he, ho, hb⟩ => by
    obtain ⟨A, c, rfl⟩ := own_slice ho
    exact ⟨A, c, he, ho, hb⟩

set_option maxHeartbeats 800000 in
set_option maxRecDepth 100000 in
theorem doorHide_any (a b : Int) (shown : Bool) (v : Value) (L : List Run) (w : World) (n : Nat) (hn : n = L.length) (hn2 : n ≤ 12) (h : Rd w w.heap.size 7 v n (L.flatMap cA))
    (h1 : 1 ≤ a) (h2 : a ≤ b) (h3 : b ≤ 60) (hL : ∀ r ∈ L, 1 ≤ r.mn ∧ r.mn ≤ r.mx ∧ r.mx ≤ 60) (hX : (outerF repV (runV a b shown) L).length ≤ 1000) :
    Calls Try.prog 25 #[v, .int .i64 a, .int .i64 b, .bool shown] w fun e w' => ∃ v', e = .returned v' ∧ w'.ownsRow w.heap.size 45 7 v' (outerF repV (runV a b shown) L).length ((outerF repV (runV a b shown) L).flatMap cA) ∧ Below w.heap.size w w' := by
  have HN := Lib.hid hn; clear hn
  go_enter Try.func25, Try.ntmps25
  go_wp2_with fail
  refine (innerLines_lit v L w n HN.out (by omega) h).mono ?_
  rintro e w1 ⟨A, c, rfl, hown, hb1⟩
  have hs1 := hb1.size
  have hrd := Rd.of_own hown
  go_wp2_with fail
  refine (setVisible_any a b shown (w1.heap.size + 1) w1.heap.size (.slice A n c) L _ n HN.out hn2 ?_ h1 h2 h3 hL ?_ ?_ ?_).mono ?_
  · exact (hrd.below (((Below.refl _ _).alloc (Nat.le_refl _) _).alloc (by simp) _)).more (by simp; omega)
  · simp [go_sem]
  · simp [go_sem]
  · simp [go_sem]
  rintro e w2 ⟨rfl, hp⟩
  obtain ⟨A2, m2, c2, q1, q2, q3, q4, q5⟩ := hp.facts (g := w1.heap.size + 1) (u := .pointer (some ⟨w1.heap.size, 0, none⟩)) (by simp [go_sem]) ⟨.slice A n c, by simp [go_sem]⟩ (by omega)
  clear hp
  have q3o := Rd.of_own q3.own
  have hz2 : w1.heap.size + 2 ≤ w2.heap.size := by simpa using q4
  have hb2 : Below w.heap.size w w2 := (((hb1.alloc hs1 _).alloc (by simp; omega) _)).trans (q5 _ (by omega) (by simp; omega))
  have hm2 := q3.len
  have HM := Lib.hid hm2; clear hm2
  clear q5 q4 q3
  go_wp2_with fail
  refine (doorLines_lit _ _ w2 _ HM.out (by rw [HM.out]; exact hX) q3o).mono ?_
  rintro e w3 ⟨A3, c3, rfl, hown3, hb3⟩
  have HO := Lib.hid hown3; clear hown3
  go_wp2
  go_ret
  refine ⟨_, rfl, ?_, hb2.trans (hb3.mono hb2.size)⟩
  rw [← HM.out]
  exact own_mono HO.out hb2.size
set_option maxHeartbeats 800000 in
set_option maxRecDepth 100000 in
theorem doorStyle_any (a b style : Int) (v : Value) (L : List Run) (w : World) (n : Nat) (hn : n = L.length) (hn2 : n ≤ 12) (h : Rd w w.heap.size 7 v n (L.flatMap cA))
    (h1 : 1 ≤ a) (h2 : a ≤ b) (h3 : b ≤ 60) (hL : ∀ r ∈ L, 1 ≤ r.mn ∧ r.mn ≤ r.mx ∧ r.mx ≤ 60) (hX : (outerF repS (runS a b style) L).length ≤ 1000) :
    Calls Try.prog 27 #[v, .int .i64 a, .int .i64 b, .int .i64 style] w fun e w' => ∃ v', e = .returned v' ∧ w'.ownsRow w.heap.size 45 7 v' (outerF repS (runS a b style) L).length ((outerF repS (runS a b style) L).flatMap cA) ∧ Below w.heap.size w w' := by
  have HN := Lib.hid hn; clear hn
  go_enter Try.func27, Try.ntmps27
  go_wp2_with fail
  refine (innerLines_lit v L w n HN.out (by omega) h).mono ?_
  rintro e w1 ⟨A, c, rfl, hown, hb1⟩
  have hs1 := hb1.size
  have hrd := Rd.of_own hown
  go_wp2_with fail
  refine (setStyle_any a b style (w1.heap.size + 1) w1.heap.size (.slice A n c) L _ n HN.out hn2 ?_ h1 h2 h3 hL ?_ ?_ ?_).mono ?_
  · exact (hrd.below (((Below.refl _ _).alloc (Nat.le_refl _) _).alloc (by simp) _)).more (by simp; omega)
  · simp [go_sem]
  · simp [go_sem]
  · simp [go_sem]
  rintro e w2 ⟨rfl, hp⟩
  obtain ⟨A2, m2, c2, q1, q2, q3, q4, q5⟩ := hp.facts (g := w1.heap.size + 1) (u := .pointer (some ⟨w1.heap.size, 0, none⟩)) (by simp [go_sem]) ⟨.slice A n c, by simp [go_sem]⟩ (by omega)
  clear hp
  have q3o := Rd.of_own q3.own
  have hz2 : w1.heap.size + 2 ≤ w2.heap.size := by simpa using q4
  have hb2 : Below w.heap.size w w2 := (((hb1.alloc hs1 _).alloc (by simp; omega) _)).trans (q5 _ (by omega) (by simp; omega))
  have hm2 := q3.len
  have HM := Lib.hid hm2; clear hm2
  clear q5 q4 q3
  go_wp2_with fail
  refine (doorLines_lit _ _ w2 _ HM.out (by rw [HM.out]; exact hX) q3o).mono ?_
  rintro e w3 ⟨A3, c3, rfl, hown3, hb3⟩
  have HO := Lib.hid hown3; clear hown3
  go_wp2
  go_ret
  refine ⟨_, rfl, ?_, hb2.trans (hb3.mono hb2.size)⟩
  rw [← HM.out]
  exact own_mono HO.out hb2.size
/-- The slice is an owned list of the runs X, as lines. -/
structure OwnsA (w : World) (B : Nat) (t : TypeId) (A : Option Addr) (m c : Nat) (X : List Run) : Prop where
  own : w.ownsRow B t 7 (.slice A m c) m (X.flatMap cA)
  len : m = X.length

theorem doorHide_lit (a b : Int) (shown : Bool) (v : Value) (L : List Run) (w : World) (n : Nat) (hn : n = L.length) (hn2 : n ≤ 12) (h : Rd w w.heap.size 7 v n (L.flatMap cA))
    (h1 : 1 ≤ a) (h2 : a ≤ b) (h3 : b ≤ 60) (hL : ∀ r ∈ L, 1 ≤ r.mn ∧ r.mn ≤ r.mx ∧ r.mx ≤ 60) (hX : (outerF repV (runV a b shown) L).length ≤ 1000) :
    Calls Try.prog 25 #[v, .int .i64 a, .int .i64 b, .bool shown] w fun e w' => ∃ (A : Option Addr) (m c : Nat), e = .returned (.slice A m c) ∧ OwnsA w' w.heap.size 45 A m c (outerF repV (runV a b shown) L) ∧ Below w.heap.size w w' :=
  (doorHide_any a b shown v L w n hn hn2 h h1 h2 h3 hL hX).mono fun e w' ⟨v', he, ho, hb⟩ => by
    obtain ⟨A, c, rfl⟩ := own_slice ho
    exact ⟨A, _, c, he, ⟨ho, rfl⟩, hb⟩

theorem doorStyle_lit (a b style : Int) (v : Value) (L : List Run) (w : World) (n : Nat) (hn : n = L.length) (hn2 : n ≤ 12) (h : Rd w w.heap.size 7 v n (L.flatMap cA))
    (h1 : 1 ≤ a) (h2 : a ≤ b) (h3 : b ≤ 60) (hL : ∀ r ∈ L, 1 ≤ r.mn ∧ r.mn ≤ r.mx ∧ r.mx ≤ 60) (hX : (outerF repS (runS a b style) L).length ≤ 1000) :
    Calls Try.prog 27 #[v, .int .i64 a, .int .i64 b, .int .i64 style] w fun e w' => ∃ (A : Option Addr) (m c : Nat), e = .returned (.slice A m c) ∧ OwnsA w' w.heap.size 45 A m c (outerF repS (runS a b style) L) ∧ Below w.heap.size w w' :=
  (doorStyle_any a b style v L w n hn hn2 h h1 h2 h3 hL hX).mono fun e w' ⟨v', he, ho, hb⟩ => by
    obtain ⟨A, c, rfl⟩ := own_slice ho
    exact ⟨A, _, c, he, ⟨ho, rfl⟩, hb⟩

set_option maxHeartbeats 800000 in
set_option maxRecDepth 100000 in
theorem hide_any (a b : Int) (shown : Bool) (v : Value) (L : List Run) (w : World) (n : Nat) (hn : n = L.length) (hn2 : n ≤ 12) (h : Rd w w.heap.size 7 v n (L.flatMap cA))
    (h1 : 1 ≤ a) (h2 : a ≤ b) (h3 : b ≤ 60) (hL : ∀ r ∈ L, 1 ≤ r.mn ∧ r.mn ≤ r.mx ∧ r.mx ≤ 60) (hX : (outerF repV (runV a b shown) L).length ≤ 1000) :
    Calls Try.prog 16 #[v, .int .i64 a, .int .i64 b, .bool shown] w fun e w' => ∃ (A : Option Addr) (m c : Nat), e = .returned (.slice A m c) ∧ OwnsA w' w.heap.size 34 A m c (outerF repV (runV a b shown) L) ∧ Below w.heap.size w w' := by
  have HN := Lib.hid hn; clear hn
  go_enter Try.func16, Try.ntmps16
  go_wp2_with fail
  refine (linesTo_lit v L w n HN.out (by omega) h).mono ?_
  rintro e w1 ⟨A, c, rfl, hown, hb1⟩
  have hs1 := hb1.size
  have hrd := Rd.of_own hown
  go_wp2_with fail
  refine (doorHide_lit a b shown (.slice A n c) L w1 n HN.out hn2 hrd h1 h2 h3 hL hX).mono ?_
  rintro e w2 ⟨A2, m2, c2, rfl, hown2, hb2⟩
  have HO2 := Lib.hid hown2; clear hown2
  have hrd2 := Rd.of_own HO2.out.own
  have hB2 : Below w.heap.size w w2 := hb1.trans (hb2.mono hs1)
  go_wp2_with fail
  refine (linesOf_lit _ _ w2 _ HO2.out.len (by rw [HO2.out.len]; exact hX) hrd2).mono ?_
  rintro e w3 ⟨A3, c3, rfl, hown3, hb3⟩
  have HO := Lib.hid hown3; clear hown3
  go_wp2
  go_ret
  exact ⟨_, _, _, rfl, ⟨own_mono HO.out hB2.size, HO2.out.len⟩, hB2.trans (hb3.mono hB2.size)⟩

set_option maxHeartbeats 800000 in
set_option maxRecDepth 100000 in
theorem style_any (a b style : Int) (v : Value) (L : List Run) (w : World) (n : Nat) (hn : n = L.length) (hn2 : n ≤ 12) (h : Rd w w.heap.size 7 v n (L.flatMap cA))
    (h1 : 1 ≤ a) (h2 : a ≤ b) (h3 : b ≤ 60) (hL : ∀ r ∈ L, 1 ≤ r.mn ∧ r.mn ≤ r.mx ∧ r.mx ≤ 60) (hX : (outerF repS (runS a b style) L).length ≤ 1000) :
    Calls Try.prog 19 #[v, .int .i64 a, .int .i64 b, .int .i64 style] w fun e w' => ∃ (A : Option Addr) (m c : Nat), e = .returned (.slice A m c) ∧ OwnsA w' w.heap.size 34 A m c (outerF repS (runS a b style) L) ∧ Below w.heap.size w w' := by
  have HN := Lib.hid hn; clear hn
  go_enter Try.func19, Try.ntmps19
  go_wp2_with fail
  refine (linesTo_lit v L w n HN.out (by omega) h).mono ?_
  rintro e w1 ⟨A, c, rfl, hown, hb1⟩
  have hs1 := hb1.size
  have hrd := Rd.of_own hown
  go_wp2_with fail
  refine (doorStyle_lit a b style (.slice A n c) L w1 n HN.out hn2 hrd h1 h2 h3 hL hX).mono ?_
  rintro e w2 ⟨A2, m2, c2, rfl, hown2, hb2⟩
  have HO2 := Lib.hid hown2; clear hown2
  have hrd2 := Rd.of_own HO2.out.own
  have hB2 : Below w.heap.size w w2 := hb1.trans (hb2.mono hs1)
  go_wp2_with fail
  refine (linesOf_lit _ _ w2 _ HO2.out.len (by rw [HO2.out.len]; exact hX) hrd2).mono ?_
  rintro e w3 ⟨A3, c3, rfl, hown3, hb3⟩
  have HO := Lib.hid hown3; clear hown3
  go_wp2
  go_ret
  exact ⟨_, _, _, rfl, ⟨own_mono HO.out hB2.size, HO2.out.len⟩, hB2.trans (hb3.mono hB2.size)⟩

end Go.Proofs.Ytdobgmeibccjnaa.Ln
