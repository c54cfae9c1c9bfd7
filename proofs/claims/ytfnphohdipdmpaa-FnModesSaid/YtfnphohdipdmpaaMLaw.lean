/- FnModes whole: it returns true. -/
import Derived.Test.YtfnphohdipdmpaaMDoor
import Derived.Test.YtfnphohdipdmpaaMSums2
import Derived.Test.YtfnphohdipdmpaaMDoubt
namespace Go.Proofs.Ytfnphohdipdmpaa.Rg
open Go.RowKit

/-- A drawn region along a plan whose order is told. -/
theorem wp_region_perm {P : Program} {Q : Exit → Act → World → Prop} {S : World → Prop} {id : Nat} {o : Oper} {l : List Oper} {a : Act} {w : World} (is : List Nat) (fs : List Bool) (hm : P.follows .mixedOrders = true)
    (hB : (Region.noSelect (o :: l).toArray && planB (o :: l).toArray (fs.zip is) (Array.replicate (o :: l).toArray.size false) && decide (fs.length = (is.map fun i => (o :: l).getD i o).length) && decide ((is.map fun i => (o :: l).getD i o).length = (o :: l).toArray.size)) = true)
    (hidx : is.map (fun i => (o :: l).toArray[i]?) = (is.map fun i => (o :: l).getD i o).map some)
    (hQ : ∀ d v c a w, Q (.panic c) (Act.put a d v) w → Q (.panic c) a w) (hS : S w.drew)
    (h : wpSeq P (o :: l).toArray Q S fs (is.map fun i => (o :: l).getD i o) a w.drew) : (Code.region id (o :: l).toArray true).wp P Q a w := by
  simp only [Bool.and_eq_true, decide_eq_true_eq] at hB
  obtain ⟨⟨⟨h1, h2⟩, h3⟩, h4⟩ := hB
  refine wp_region_held_drew (S := S) hm hS (fun _ => ?_)
  have hh := held_of_plan h1 hQ fs _ _ h3 hidx (Array.replicate (o :: l).toArray.size false) a w.drew h2 hS h
  rw [h4] at hh
  exact hh

theorem uniq443 : Uniq [4, 4, 3] 4 := ⟨by decide, by decide, by decide⟩
theorem in443 : ∀ x ∈ ([4, 4, 3] : List Int), -9 ≤ x ∧ x ≤ 9 := by decide

theorem Uniq.range {X : List Int} {m : Int} (h : Uniq X m) (hX : ∀ x ∈ X, -9 ≤ x ∧ x ≤ 9) : -9 ≤ m ∧ m ≤ 9 := hX m h.1
theorem Uniq.pos {X : List Int} {m : Int} (h : Uniq X m) : 1 ≤ X.length := List.length_pos_of_mem h.1

/-- What stays while the statement's function asks: its own column, and what the reference wants. -/
structure Fs (w : World) (g : Nat) (K z d : Int) (Ax : Option Addr) (X : List Int) (wr : World) : Prop where
  below : Below w.heap.size w wr
  box : wr.heap[g]? = some (.cells #[.int .i64 K, .int .i64 z, .int .i64 d, .string ⟨#[]⟩, .slice none 0 0] 26 (0, 0))
  rd : RdI wr Ax X
theorem Fs.later {w : World} {g : Nat} {K z d : Int} {Ax : Option Addr} {X : List Int} {wr w' : World} (h : Fs w g K z d Ax X wr) (hb : Below wr.heap.size wr w') : Fs w g K z d Ax X w' :=
  ⟨h.below.trans (hb.mono h.below.size), (hb.block g (Array.getElem?_eq_some_iff.1 h.box).1).trans h.box, h.rd.later hb⟩

theorem box_new (w : World) (v0 v1 v2 v3 v4 : Value) (t : TypeId) : (w.alloc (.cells #[v0, v1, v2, v3, v4] t)).cell? ⟨w.heap.size, 0, none⟩ = some v0 ∧ (w.alloc (.cells #[v0, v1, v2, v3, v4] t)).cell? ⟨w.heap.size, 1, none⟩ = some v1 ∧ (w.alloc (.cells #[v0, v1, v2, v3, v4] t)).cell? ⟨w.heap.size, 2, none⟩ = some v2 ∧ (w.alloc (.cells #[v0, v1, v2, v3, v4] t)).cell? ⟨w.heap.size, 3, none⟩ = some v3 ∧ (w.alloc (.cells #[v0, v1, v2, v3, v4] t)).cell? ⟨w.heap.size, 4, none⟩ = some v4 := by
  obtain ⟨h0, h1, h2, h3, h4, _⟩ := five (heap_alloc_new w (.cells #[v0, v1, v2, v3, v4] t))
  exact ⟨h0, h1, h2, h3, h4⟩

theorem three {w : World} {g : Nat} {t : TypeId} {a b c : Value} (hh : w.heap[g]? = some (.cells #[a, b, c] t (0, 0))) :
    w.cell? ⟨g, 0, none⟩ = some a ∧ w.cell? ⟨g, 1, none⟩ = some b ∧ w.cell? ⟨g, 2, none⟩ = some c := by
  refine ⟨?_, ?_, ?_⟩ <;> simp [World.cell?, hh]

set_option maxHeartbeats 6400000 in
set_option maxRecDepth 100000 in
theorem modes_any (A : Option Addr) (n c : Nat) (w : World) (hA : ArgI w A n) :
    Calls Try.prog 3 #[.slice A n c] w (TruePost w true) := by
  have hst := store_float Try.prog
  have HA := Lib.hid hA
  clear hA
  by_cases hn : n ≤ 2147483647
  · have SM := Lib.hid (small_any A n c w hn HA.out)
    have hnI : ¬ (2147483647 : Int) < (n : Int) := by omega
    go_enter Try.func3, Try.ntmps3
    go_wp2_with fail
    refine SM.out.mono ?_
    rintro e w1 ⟨Ax, m, cx, X, rfl, hO, hX, hm, hb1⟩
    have HX := Lib.hid hX
    have HRD := Lib.hid hO.reads
    have HML := Lib.hid hO.len
    have HB1 := Lib.hid hb1
    clear SM HA hO hX hb1
    have WA := Lib.hid (sumsmode_any Ax m cx X w1 HML.out (by omega) HX.out HRD.out)
    go_wp2_with fail
    refine WA.out.mono ?_
    rintro e w2 ⟨⟨v, rfl, hv⟩, hb2⟩
    have HB2 := Lib.hid (HB1.out.trans (hb2.mono HB1.out.size))
    have HRD2 := Lib.hid (HRD.out.later hb2)
    have hv' : ∃ K z d, v = .agg #[.int .i64 K, .int .i64 z, .int .i64 d, .string ⟨#[]⟩, .slice none 0 0] ∧ Hid ((K = 6 ∧ z = 0 ∧ d = 0) ∨ (K = 1 ∧ d = 1 ∧ Uniq X z)) := by
      rcases hv with rfl | ⟨y, rfl, hu⟩
      · exact ⟨6, 0, 0, rfl, .inl ⟨rfl, rfl, rfl⟩⟩
      · exact ⟨1, y, 1, rfl, .inr ⟨rfl, rfl, hu⟩⟩
    clear hv hb2 WA HRD HB1
    obtain ⟨K, z, d, rfl, HV⟩ := hv'
    have hal3 : Below w2.heap.size w2 ((w2.alloc (.cells #[.int .i64 K, .int .i64 z, .int .i64 d, .string ⟨#[]⟩, .slice none 0 0] 26)).alloc (.cells #[.int .i64 4, .int .i64 4, .int .i64 3] 3)) := ((Below.refl _ _).alloc (Nat.le_refl _) _).alloc (by simp) _
    have hbx : ((w2.alloc (.cells #[.int .i64 K, .int .i64 z, .int .i64 d, .string ⟨#[]⟩, .slice none 0 0] 26)).alloc (.cells #[.int .i64 4, .int .i64 4, .int .i64 3] 3)).heap[w2.heap.size]? = some (.cells #[.int .i64 K, .int .i64 z, .int .i64 d, .string ⟨#[]⟩, .slice none 0 0] 26 (0, 0)) := by
      rw [Below.heap_alloc _ _ _ (by simp)]
      exact heap_alloc_new w2 _
    have FS := Lib.hid (Fs.mk (w := w) (g := w2.heap.size) (HB2.out.trans (hal3.mono HB2.out.size)) hbx (HRD2.out.later hal3))
    obtain ⟨X3, hX3⟩ : ∃ X3 : List Int, X3 = [4, 4, 3] := ⟨_, rfl⟩
    have hr3 : RdI ((w2.alloc (.cells #[.int .i64 K, .int .i64 z, .int .i64 d, .string ⟨#[]⟩, .slice none 0 0] 26)).alloc (.cells #[.int .i64 4, .int .i64 4, .int .i64 3] 3)) (some ⟨w2.heap.size + 1, 0, none⟩) X3 := by
      intro _
      have h9 := heap_alloc_new (w2.alloc (.cells #[.int .i64 K, .int .i64 z, .int .i64 d, .string ⟨#[]⟩, .slice none 0 0] 26)) (.cells #[.int .i64 4, .int .i64 4, .int .i64 3] 3)
      have hs : (w2.alloc (.cells #[.int .i64 K, .int .i64 z, .int .i64 d, .string ⟨#[]⟩, .slice none 0 0] 26)).heap.size = w2.heap.size + 1 := by simp
      rw [hs] at h9
      obtain ⟨t0, t1, t2⟩ := three h9
      refine ⟨_, rfl, (Array.getElem?_eq_some_iff.1 h9).1, fun k x hk => ?_⟩
      rw [hX3] at hk
      rcases k with _ | _ | _ | k
      · simp at hk; subst hk; exact t0
      · simp at hk; subst hk; exact t1
      · simp at hk; subst hk; exact t2
      · simp at hk
    have h3l : 3 = X3.length := by rw [hX3]; rfl
    have H3L := Lib.hid h3l
    have h3in : ∀ x ∈ X3, -9 ≤ x ∧ x ≤ 9 := by rw [hX3]; exact in443
    have H3IN := Lib.hid h3in
    have H3U : Hid (Uniq X3 4) := by show Uniq X3 4; rw [hX3]; exact uniq443
    have CO := Lib.hid (column_any (some ⟨w2.heap.size + 1, 0, none⟩) 3 3 X3 _ h3l (by omega) h3in hr3)
    clear hal3 hbx HB2 HRD2 hX3 hr3 h3l h3in
    go_wp2_with fail
    generalize w2.heap.size = g3 at *
    refine CO.out.mono ?_
    rintro e w4 ⟨A4, c4, rfl, hr4, hb4⟩
    have FS4 := Lib.hid (FS.out.later hb4)
    have hal4 : Below w4.heap.size w4 (w4.alloc (.cells #[.int .i64 5, .int .i64 0, .int .i64 0, .string ⟨#[]⟩, .slice A4 X3.length c4] 26)) := (Below.refl _ _).alloc (Nat.le_refl _) _
    obtain ⟨b0, b1, b2, b3, b4⟩ := box_new w4 (.int .i64 5) (.int .i64 0) (.int .i64 0) (.string ⟨#[]⟩) (.slice A4 X3.length c4) 26
    have AO := Lib.hid (all_one w4.heap.size 1 A4 X3.length c4 X3 _ rfl (by have := H3L.out; omega) H3IN.out ((hr4.later hal4).lower (Nat.zero_le _)) b0 b1 b2 b3 b4)
    have FS5 := Lib.hid (FS4.out.later hal4)
    clear hr4 hb4 hal4 CO FS FS4 b0 b1 b2 b3 b4
    go_wp2_with fail
    refine AO.out.mono ?_
    rintro e w5 ⟨g5, c5, rfl, hc5, hb5⟩
    have FS6 := Lib.hid (FS5.out.later hb5)
    have SN := Lib.hid (sngl_any g5 c5 X3 4 w5 (by have := H3L.out; omega) (by have := H3L.out; omega) H3IN.out H3U.out hc5)
    clear hc5 hb5 FS5 AO
    go_wp2_with fail
    refine SN.out.mono ?_
    rintro e w6 ⟨rfl, hb6⟩
    have FS7 := Lib.hid (FS6.out.later hb6)
    clear hb6 FS6 SN
    go_wp2_with fail
    refine (int_any 4 w6 (by omega) (by omega)).mono ?_
    rintro e w7 ⟨rfl, hb7⟩
    have FS8 := Lib.hid (FS7.out.later hb7)
    clear hb7 FS7
    go_wp2_with fail
    refine (same_num 4 w7 (by omega) (by omega)).mono ?_
    rintro e w8 ⟨rfl, hb8⟩
    have FS9 := Lib.hid (FS8.out.later hb8)
    clear hb8 FS8 H3L H3IN H3U
    rcases HV.out with ⟨rfl, rfl, rfl⟩ | ⟨rfl, rfl, hu⟩
    · clear HV
      go_wp2
      have hS0 : (fun w' : World => Fs w g3 6 0 0 Ax X w') w8.drew := FS9.out.later (below_drewN w8 1)
      refine wp_region_perm [0, 1, 2, 8, 3, 4, 5, 6, 7, 9, 10, 11, 12, 13, 14] [true, false, true, true, true, false, false, false, false, false, true, true, true, true, true] (S := fun w' => Fs w g3 6 0 0 Ax X w') (by kernel_rfl) (by kernel_rfl) (by kernel_rfl) (fun d _ _ _ _ h => by cases d <;> exact h) hS0 ?_
      simp only [List.map_cons, List.map_nil, List.getD_cons_zero, List.getD_cons_succ]
      refine seq_take (v := ?_) (by rfl) ?_ ?_
      rotate_left
      · intro w' hSw
        obtain ⟨z0, z1, z2, z3, z4, zf⟩ := five hSw.box
        clear hSw
        go_simp
        try (with_reducible rfl)
      try simp only [Act.put, List.setIfInBounds_toArray, List.set_cons_zero, List.set_cons_succ]
      refine seq_solo (by rfl) (fun K hK => ?_)
      go_simp
      refine (doubtful_any 6 0 0 _ _ (by decide)).mono ?_
      rintro e w9 ⟨rfl, hb9⟩
      have FS10 := Lib.hid (hS0.later hb9)
      refine hK.out _ _ FS10.out (fun _ => ?_)
      clear hK K
      rw [show ((6 : Int) == 6) = true from rfl]
      refine seq_take (v := ?_) (by rfl) ?_ ?_
      rotate_left
      · intro w' hSw
        obtain ⟨z0, z1, z2, z3, z4, zf⟩ := five hSw.box
        clear hSw
        go_simp
        try (with_reducible rfl)
      try simp only [Act.put, List.setIfInBounds_toArray, List.set_cons_zero, List.set_cons_succ]
      iterate 7
        refine seq_skip (by rfl) ?_
        try simp only [Act.put, List.setIfInBounds_toArray, List.set_cons_zero, List.set_cons_succ]
      iterate 5
        refine seq_take (v := ?_) (by rfl) ?_ ?_
        rotate_left
        · intro w' hSw
          obtain ⟨z0, z1, z2, z3, z4, zf⟩ := five hSw.box
          clear hSw
          go_simp
          try (with_reducible rfl)
        try simp only [Act.put, List.setIfInBounds_toArray, List.set_cons_zero, List.set_cons_succ]
      refine seq_done ?_
      go_wp2
      go_ret
      exact ⟨rfl, FS10.out.below⟩
    · have HU := Lib.hid hu
      clear hu HV
      have hzr := HU.out.range HX.out
      have hp := HU.out.pos
      go_wp2
      have hS0 : (fun w' : World => Fs w g3 1 z 1 Ax X w') w8.drew := FS9.out.later (below_drewN w8 1)
      refine wp_region_perm [0, 1, 2, 8, 3, 4, 5, 6, 7, 9, 10, 11, 12, 13, 14] [true, false, true, true, true, false, false, false, false, false, true, true, true, true, true] (S := fun w' => Fs w g3 1 z 1 Ax X w') (by kernel_rfl) (by kernel_rfl) (by kernel_rfl) (fun d _ _ _ _ h => by cases d <;> exact h) hS0 ?_
      simp only [List.map_cons, List.map_nil, List.getD_cons_zero, List.getD_cons_succ]
      refine seq_take (v := ?_) (by rfl) ?_ ?_
      rotate_left
      · intro w' hSw
        obtain ⟨z0, z1, z2, z3, z4, zf⟩ := five hSw.box
        clear hSw
        go_simp
        try (with_reducible rfl)
      try simp only [Act.put, List.setIfInBounds_toArray, List.set_cons_zero, List.set_cons_succ]
      refine seq_solo (by rfl) (fun K hK => ?_)
      go_simp
      refine (doubtful_any 1 z 1 _ _ (by decide)).mono ?_
      rintro e w9 ⟨rfl, hb9⟩
      have FS10 := Lib.hid (hS0.later hb9)
      refine hK.out _ _ FS10.out (fun _ => ?_)
      clear hK K
      rw [show ((1 : Int) == 6) = false from rfl]
      iterate 3
        refine seq_take (v := ?_) (by rfl) ?_ ?_
        rotate_left
        · intro w' hSw
          obtain ⟨z0, z1, z2, z3, z4, zf⟩ := five hSw.box
          clear hSw
          go_simp
          try (with_reducible rfl)
        try simp only [Act.put, List.setIfInBounds_toArray, List.set_cons_zero, List.set_cons_succ]
      refine seq_solo (by rfl) (fun K hK => ?_)
      go_simp
      refine (column_any Ax m cx X w9 HML.out (by omega) HX.out FS10.out.rd).mono ?_
      rintro e w10 ⟨A10, c10, rfl, hr10, hb10⟩
      have FS11 := Lib.hid (FS10.out.later hb10)
      refine hK.out _ _ FS11.out (fun _ => ?_)
      clear hK K
      try simp only [Act.put, List.setIfInBounds_toArray, List.set_cons_zero, List.set_cons_succ]
      have hal10 : Below w10.heap.size w10 (w10.alloc (.cells #[.int .i64 5, .int .i64 0, .int .i64 0, .string ⟨#[]⟩, .slice A10 X.length c10] 26)) := (Below.refl _ _).alloc (Nat.le_refl _) _
      have FS12 := Lib.hid (FS11.out.later hal10)
      refine seq_solo (by rfl) (fun K hK => ?_)
      go_simp
      refine hK.out _ _ FS12.out (fun _ => ?_)
      clear hK K
      try simp only [Act.put, List.setIfInBounds_toArray, List.set_cons_zero, List.set_cons_succ]
      obtain ⟨b0, b1, b2, b3, b4⟩ := box_new w10 (.int .i64 5) (.int .i64 0) (.int .i64 0) (.string ⟨#[]⟩) (.slice A10 X.length c10) 26
      have AO := Lib.hid (all_one w10.heap.size 1 A10 X.length c10 X _ rfl (by have := HML.out; omega) HX.out ((hr10.later hal10).lower (Nat.zero_le _)) b0 b1 b2 b3 b4)
      clear b0 b1 b2 b3 b4 hr10 hb10 hb9 hal10
      refine seq_solo (by rfl) (fun K hK => ?_)
      go_simp
      refine AO.out.mono ?_
      rintro e w11 ⟨g11, c11, rfl, hc11, hb11⟩
      have FS13 := Lib.hid (FS12.out.later hb11)
      refine hK.out _ _ FS13.out (fun _ => ?_)
      clear hK K
      try simp only [Act.put, List.setIfInBounds_toArray, List.set_cons_zero, List.set_cons_succ]
      refine seq_solo (by rfl) (fun K hK => ?_)
      go_simp
      refine (sngl_any g11 c11 X z w11 hp (by have := HML.out; omega) HX.out HU.out hc11).mono ?_
      rintro e w12 ⟨rfl, hb12⟩
      have FS14 := Lib.hid (FS13.out.later hb12)
      refine hK.out _ _ FS14.out (fun _ => ?_)
      clear hK K
      try simp only [Act.put, List.setIfInBounds_toArray, List.set_cons_zero, List.set_cons_succ]
      refine seq_solo (by rfl) (fun K hK => ?_)
      go_simp
      refine (same_num z w12 hzr.1 hzr.2).mono ?_
      rintro e w13 ⟨rfl, hb13⟩
      have FS15 := Lib.hid (FS14.out.later hb13)
      refine hK.out _ _ FS15.out (fun _ => ?_)
      clear hK K
      try simp only [Act.put, List.setIfInBounds_toArray, List.set_cons_zero, List.set_cons_succ]
      iterate 5
        refine seq_take (v := ?_) (by rfl) ?_ ?_
        rotate_left
        · intro w' hSw
          obtain ⟨z0, z1, z2, z3, z4, zf⟩ := five hSw.box
          clear hSw
          go_simp
          try (with_reducible rfl)
        try simp only [Act.put, List.setIfInBounds_toArray, List.set_cons_zero, List.set_cons_succ]
      refine seq_done ?_
      go_wp2
      go_ret
      exact ⟨rfl, FS15.out.below⟩
  · have hnI : (2147483647 : Int) < (n : Int) := by omega
    go_enter Try.func3, Try.ntmps3
    go_wp2
    go_ret
    exact ⟨rfl, Below.refl _ _⟩
end Go.Proofs.Ytfnphohdipdmpaa.Rg
