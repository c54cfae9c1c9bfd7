/- The package's areas of rows of a column, by its door and by the thin package. -/
import Derived.Test.YtokooampmhcfeaaGreatDoorGSquash
import Derived.Test.YtokooampmhcfeaaGreatDoorGRows
import Derived.Test.YtokooampmhcfeaaGreatDoorFFlat
namespace Go.Proofs.YtokooampmhcfeaaGreatDoor.Rg
open Go.RowKit

set_option maxHeartbeats 3200000 in
set_option maxRecDepth 100000 in
theorem squash_one (B : Nat) (A : Option Addr) (c col : Nat) (y : Nat) (gs : List Nat) (w : World) (hP : Pairs w B A 1 c col [y] gs) (hy : 1 ≤ y ∧ y ≤ 99) (hc : 1 ≤ col ∧ col ≤ 30) (hTab : Tab w) :
    Calls Tryz.prog 31 #[.slice A 1 c] w (SquashPost w col [y]) := by
  obtain ⟨g, rfl, hg, hrows⟩ := hP.at (by omega)
  obtain ⟨gl, cl, hT⟩ := hrows 0 y rfl
  have hdr : Below w.heap.size w w.drew := (Below.refl _ _).drew
  have COR := Lib.hid (coord_any false col y 0 0 none w.drew (by omega) (by omega) (hTab.stays hdr) (.inl ⟨rfl, rfl⟩))
  have HTX := Lib.hid (seg_cell (col := col) (p := y))
  have HOK := Lib.hid (segItem_ok hc hy.1 (Nat.le_refl y) hy.2)
  have hS0 : w.drew.cell? ⟨g, 0, none⟩ = some (.slice (some ⟨gl, 0, none⟩) 2 2) ∧ w.drew.cell? ⟨gl, 0, none⟩ = some (.int .i64 col) ∧ w.drew.cell? ⟨gl, 1, none⟩ = some (.int .i64 y) := ⟨cl, hT.c0, hT.c1⟩
  clear hrows hP hTab
  go_enter Tryz.func31, Tryz.ntmps31
  go_wp2_with fail
  refine wp_region_plan (List.replicate 16 false) [true, true, true, true, true, true, true, true, true, true, false, true, true, true, true, true] (S := fun w' => w'.cell? ⟨g, 0, none⟩ = some (.slice (some ⟨gl, 0, none⟩) 2 2) ∧ w'.cell? ⟨gl, 0, none⟩ = some (.int .i64 col) ∧ w'.cell? ⟨gl, 1, none⟩ = some (.int .i64 y)) (by kernel_rfl) (by kernel_rfl) (by kernel_rfl) (fun d _ _ _ _ h => by cases d <;> exact h) hS0 ?_
  simp only [List.replicate, swaps]
  iterate 10
    refine seq_take (v := ?_) (by rfl) ?_ ?_
    rotate_left
    · intro w' hSw
      obtain ⟨s0, s1, s2⟩ := hSw
      go_simp
      try (with_reducible rfl)
    try simp only [Act.put, List.setIfInBounds_toArray, List.set_cons_zero, List.set_cons_succ]

  refine seq_solo (by rfl) (fun K hK => ?_)
  go_simp
  refine COR.out.mono ?_
  rintro e w6 ⟨rfl, hb6⟩
  have hb6' : Below w.heap.size w w6 := hdr.trans hb6
  refine hK.out _ _ ⟨(hb6'.cell (p := ⟨g, 0, none⟩) hg).trans cl, (hb6'.cell (p := ⟨gl, 0, none⟩) hT.lt).trans hT.c0, (hb6'.cell (p := ⟨gl, 1, none⟩) hT.lt).trans hT.c1⟩ (fun _ => ?_)
  clear hK K
  try simp only [Act.put, List.setIfInBounds_toArray, List.set_cons_zero, List.set_cons_succ]
  iterate 5
    refine seq_take (v := ?_) (by rfl) ?_ ?_
    rotate_left
    · intro w' hSw
      obtain ⟨s0, s1, s2⟩ := hSw
      go_simp
      try (with_reducible rfl)
    try simp only [Act.put, List.setIfInBounds_toArray, List.set_cons_zero, List.set_cons_succ]

  refine seq_done ?_
  have HB6 := Lib.hid hb6'
  clear hS0 COR hb6 hb6' cl hT hdr
  go_wp2
  go_ret
  have hb7 : Below w.heap.size w (w6.alloc (.cells #[.string ⟨(cellText false col y).toArray⟩] 9)) := HB6.out.trans (((Below.refl _ _).alloc (Nat.le_refl _) _).mono HB6.out.size)
  refine ⟨_, _, _, [segItem col y y], rfl, ?_, rfl, ?_, ?_, by simp, hb7⟩
  · intro _
    refine ⟨w6.heap.size, rfl, by simp, fun k t hk => ?_⟩
    rcases k with _ | k
    · unfold itexts at hk
      simp only [List.map_cons, List.map_nil, List.getElem?_cons_zero, Option.some.injEq] at hk
      rw [HTX.out] at hk
      subst hk
      simp [go_sem]
    · simp [itexts] at hk
  · intro i hi
    simp only [List.mem_singleton] at hi
    subst hi
    exact ⟨HOK.out, rfl, rfl⟩
  · have := (Run.start (Y := [y]) (col := col) (Nat.le_refl 1)).flush (p := y) (q := y) rfl rfl
    simpa using this

theorem squash_any (B : Nat) (A : Option Addr) (n c col : Nat) (Y gs : List Nat) (w : World) (hP : Pairs w B A n c col Y gs) (hY : Y.Pairwise (· < ·)) (hy1 : ∀ y ∈ Y, 1 ≤ y ∧ y ≤ 99) (hn1 : 1 ≤ n) (hn : n ≤ 25) (hc : 1 ≤ col ∧ col ≤ 30) (hTab : Tab w) :
    Calls Tryz.prog 31 #[.slice A n c] w (SquashPost w col Y) := by
  by_cases h : n = 1
  · subst h
    have hl := hP.len
    match Y, hl, hP, hy1 with
    | [y], _, hP, hy1 => exact squash_one B A c col y gs w hP (hy1 y (by simp)) hc hTab
  · exact squash_many B A n c col Y gs w hP hY hy1 (by omega) hn hc hTab

/-- The slice reads as these numbers. -/
def RdI (w : World) (A : Option Addr) (Y : List Nat) : Prop :=
  0 < Y.length → ∃ g, A = some ⟨g, 0, none⟩ ∧ g < w.heap.size ∧ ∀ k y : Nat, Y[k]? = some y → w.cell? ⟨g, k, none⟩ = some (.int .i64 y)
theorem RdI.later {w w' : World} {A : Option Addr} {Y : List Nat} (h : RdI w A Y) (hb : Below w.heap.size w w') : RdI w' A Y := by
  intro hn
  obtain ⟨g, hA, hg, hc⟩ := h hn
  exact ⟨g, hA, Nat.lt_of_lt_of_le hg hb.size, fun k y hk => (hb.cell (p := ⟨g, k, none⟩) hg).trans (hc k y hk)⟩
theorem OwnsI.reads {w : World} {B : Nat} {A : Option Addr} {m c : Nat} {Y : List Nat} (h : OwnsI w B A m c (ints Y)) : RdI w A Y := by
  intro hn
  have hl := h.len
  unfold ints at hl
  rw [List.length_map] at hl
  obtain ⟨g, cap, hv, _⟩ := h.own.form (by omega)
  injection hv with hA hm hc
  subst hA
  refine ⟨g, rfl, (h.own.lt g (by rw [hc]; rfl)).2, fun k y hy => ?_⟩
  have := h.own.cells (g := g) (by rw [hc]; rfl) k (.int .i64 y) (by simp [ints, hy])
  rwa [addAt] at this

theorem Pairs.push {w w2 : World} {B : Nat} {A : Option Addr} {n c : Nat} {col : Nat} {Y gs : List Nat} {y : Nat} {v' : Value} (h : Pairs w B A n c col Y gs)
    (hown : w2.ownsRow B 32 1 v' (n + 1) (gs.map pairV ++ [pairV w.heap.size]))
    (hg : ((w.alloc (.cells #[.int .i64 col, .int .i64 y] 3)).alloc (.cells #[pairV w.heap.size] 32)).grownBy w2 (Value.slice A n c).ownBlock) :
    ∃ A' c', v' = .slice A' (n + 1) c' ∧ Pairs w2 B A' (n + 1) c' col (Y ++ [y]) (gs ++ [w.heap.size]) := by
  obtain ⟨A', c', rfl⟩ := own_slice hown
  have e2 : ((w.alloc (.cells #[.int .i64 col, .int .i64 y] 3)).alloc (.cells #[pairV w.heap.size] 32)).heap.size = w.heap.size + 2 := by simp
  have hbel : Below w.heap.size w ((w.alloc (.cells #[.int .i64 col, .int .i64 y] 3)).alloc (.cells #[pairV w.heap.size] 32)) := ((Below.refl _ _).alloc (Nat.le_refl _) _).alloc (by simp) _
  have hnew : ((w.alloc (.cells #[.int .i64 col, .int .i64 y] 3)).alloc (.cells #[pairV w.heap.size] 32)).heap[w.heap.size]? = some (.cells #[.int .i64 col, .int .i64 y] 3) := by
    rw [Below.heap_alloc _ _ _ (by simp)]
    exact heap_alloc_new w _
  generalize ((w.alloc (.cells #[.int .i64 col, .int .i64 y] 3)).alloc (.cells #[pairV w.heap.size] 32)) = w1 at *
  have hk := KeepBut.grown hg (own_below h.own hbel)
  refine ⟨A', c', rfl, ⟨by rw [List.map_append]; exact hown, by rw [List.length_append, h.len]; rfl, by rw [List.length_append, List.length_append, h.glen]; rfl, fun k g z h1 h2 => ?_⟩⟩
  by_cases hkl : k < gs.length
  · rw [List.getElem?_append_left hkl] at h1
    rw [List.getElem?_append_left (by rw [← h.glen]; exact hkl)] at h2
    have hin := h.inner k g z h1 h2
    have hin1 := (hbel.block g (Array.getElem?_eq_some_iff.1 hin).1).trans hin
    exact Eq.trans (hk g 3 (by decide) ⟨_, hin1⟩) hin1
  · have hk2 : k = gs.length := by
      have := (List.getElem?_eq_some_iff.1 h1).1
      simp at this
      omega
    subst hk2
    rw [List.getElem?_append_right (Nat.le_refl _)] at h1
    rw [h.glen, List.getElem?_append_right (Nat.le_refl _)] at h2
    simp at h1 h2
    subst h1
    subst h2
    exact Eq.trans (hk _ 3 (by decide) ⟨_, hnew⟩) hnew

theorem SquashPost.under {w w1 : World} {col : Nat} {Y : List Nat} {e : Ending} {w' : World} (h : SquashPost w1 col Y e w') (hb : Below w.heap.size w w1) : SquashPost w col Y e w' := by
  obtain ⟨A, m, c, I, h1, h2, h3, h4, h5, h6, h7⟩ := h
  exact ⟨A, m, c, I, h1, h2, h3, h4, h5, h6, hb.trans (h7.mono hb.size)⟩

set_option maxHeartbeats 3200000 in
set_option maxRecDepth 100000 in
theorem door_squash (A : Option Addr) (n c col : Nat) (Y : List Nat) (w : World) (hA : RdI w A Y) (hl : n = Y.length) (hY : Y.Pairwise (· < ·)) (hy1 : ∀ y ∈ Y, 1 ≤ y ∧ y ≤ 99) (hn1 : 1 ≤ n) (hn : n ≤ 25) (hc : 1 ≤ col ∧ col ≤ 30) (hTab : Tab w) :
    Calls Tryz.prog 23 #[.int .i64 col, .slice A n c] w (SquashPost w col Y) := by
  obtain ⟨i0, hi, hz0, hz1, hz2⟩ := info_parts infoRow
  obtain ⟨g, rfl, hg, hrd⟩ := hA (by omega)
  have HRD := Lib.hid hrd
  have HL := Lib.hid hl
  have HYS := Lib.hid hY
  have HY1 := Lib.hid hy1
  have HTAB := Lib.hid hTab
  clear hA hrd hl hY hy1 hTab
  go_enter Tryz.func23, Tryz.ntmps23
  go_wp2
  go_loopw [5, 10] (fun v i wr => ∃ (k cx : Nat) (Ax : Option Addr) (gs : List Nat), k ≤ n ∧ i = .int .i64 k ∧ v = .slice Ax k cx ∧ Pairs wr w.heap.size Ax k cx col (Y.take k) gs ∧ Below w.heap.size w wr) (fun _ i _ => n - (intOf i).toNat)
  case atStart => exact ⟨0, 0, none, [], by omega, rfl, rfl, ⟨World.ownsRow_nil _ _ _ _, by simp, by simp, by simp⟩, Below.refl _ _⟩
  case round =>
    obtain ⟨k, cx, Ax, gs, hk, rfl, rfl, hP, hb⟩ := hrel
    by_cases hkn : k < n
    · obtain ⟨y, hy⟩ : ∃ y, Y[k]? = some y := ⟨_, List.getElem?_eq_getElem (by have := HL.out; omega)⟩
      have cy := (hb.cell (p := ⟨g, k, none⟩) hg).trans (HRD.out k y hy)
      have HT : Hid (Y.take (k + 1) = Y.take k ++ [y]) := by
        show Y.take (k + 1) = Y.take k ++ [y]
        rw [List.take_add_one, hy]
        rfl
      have i0' : (0 : Int) ≤ (k : Int) := by omega
      have i1' : (k : Int) < (n : Int) := by omega
      have hown := hP.own
      have hbs := hb.size
      have HP := Lib.hid hP
      clear hP hy
      go_wp2_with (at_builtin; refine wpList_append_own _ rfl _ _ 57 rfl w.heap.size 32 i0 _ 1 24 Tryz.underlying57 hi hz0 hz1 hz2 rfl (by decide) _ _ _ rfl ((hown.alloc _).alloc _) ⟨wr.heap.size + 1, 0, none⟩ 1 1 [pairV wr.heap.size] rfl rfl ?c1 ?c2 ?c3 ?c4 ?c5 ?_)
      case c1 => exact newAt _ [pairV wr.heap.size] _ _ (by simp)
      case c2 => intro u hu; simp at hu; subst hu; rfl
      case c3 => unfold maxLen; omega
      case c4 => omega
      case c5 => simp; omega
      intro v' w2 hown' hgrow _
      have hb2 : Below w.heap.size w w2 := ((hb.alloc hbs _).alloc (by simp; omega) _).grown hgrow (by simp; omega) (fun j hj => (hown.lt j hj).1)
      obtain ⟨A', c', he, hP'⟩ := HP.out.push (y := y) hown' hgrow
      rw [← HT.out] at hP'
      subst he
      clear hgrow hown' hown HP cy
      go_wp2
      go_roundw
      case rel => exact ⟨k + 1, c', A', gs ++ [wr.heap.size], by omega, by go_num, rfl, hP', hb2⟩
      case measure => simp [intOf]; omega
    · obtain rfl : k = n := by omega
      rw [List.take_of_length_le (by have := HL.out; omega)] at hP
      have SQ := Lib.hid (squash_any w.heap.size Ax k cx col Y gs wr hP HYS.out HY1.out hn1 hn hc (HTAB.out.stays hb))
      clear hP
      go_wp2_with fail
      refine SQ.out.mono ?_
      rintro e w3 hpost
      obtain ⟨A3, m3, c3, I, rfl, h⟩ := hpost
      have H := Lib.hid h
      clear h
      go_wp2
      go_ret
      exact SquashPost.under ⟨A3, m3, c3, I, rfl, H.out⟩ hb

set_option maxHeartbeats 1600000 in
set_option maxRecDepth 100000 in
theorem impl_squash (A : Option Addr) (n c col : Nat) (Y : List Nat) (w : World) (hA : RdI w A Y) (hl : n = Y.length) (hY : Y.Pairwise (· < ·)) (hy1 : ∀ y ∈ Y, 1 ≤ y ∧ y ≤ 99) (hn1 : 1 ≤ n) (hn : n ≤ 25) (hc : 1 ≤ col ∧ col ≤ 30) (hTab : Tab w) :
    Calls Tryz.prog 13 #[.int .i64 col, .slice A n c] w (SquashPost w col Y) := by
  have DS := Lib.hid (door_squash A n c col Y w hA hl hY hy1 hn1 hn hc hTab)
  clear hA hl hY hy1 hn1 hn hc hTab
  go_enter Tryz.func13, Tryz.ntmps13
  go_wp2_with fail
  refine DS.out.mono ?_
  rintro e w3 ⟨A3, m3, c3, I, rfl, h⟩
  have H := Lib.hid h
  clear h DS
  go_wp2
  go_ret
  exact ⟨A3, m3, c3, I, rfl, H.out⟩

set_option maxHeartbeats 1600000 in
set_option maxRecDepth 100000 in
theorem sameints_any (A A2 : Option Addr) (n c c2 : Nat) (Y : List Nat) (w : World) (hn : n = Y.length) (hn2 : n ≤ 1000) (h1 : RdI w A Y) (h2 : RdI w A2 Y) :
    Calls Tryz.prog 14 #[.slice A n c, .slice A2 n c2] w fun e w' => e = .returned (.bool true) ∧ Below w.heap.size w w' := by
  have HN := Lib.hid hn
  have H1 := Lib.hid h1
  have H2 := Lib.hid h2
  clear hn h1 h2
  go_enter Tryz.func14, Tryz.ntmps14
  go_wp2
  go_loopw [5] (fun u wr => ∃ k : Nat, u = .int .i64 k ∧ k ≤ n ∧ Below w.heap.size w wr) (fun u _ => n - (intOf u).toNat)
  case atStart => exact ⟨0, rfl, by omega, Below.refl _ _⟩
  case round =>
    obtain ⟨k, rfl, hk, hb⟩ := hrel
    by_cases hlt : k < n
    · obtain ⟨y, hy⟩ : ∃ y, Y[k]? = some y := ⟨_, List.getElem?_eq_getElem (by have := HN.out; omega)⟩
      obtain ⟨g1, rfl, _, r1⟩ := (H1.out.later hb) (by have := HN.out; omega)
      obtain ⟨g2, rfl, _, r2⟩ := (H2.out.later hb) (by have := HN.out; omega)
      have c0 := r1 k y hy
      have c1 := r2 k y hy
      have i0 : (0 : Int) ≤ (k : Int) := by omega
      have i1 : (k : Int) < (n : Int) := by omega
      clear r1 r2 hy
      go_wp2_with fail
      go_quiet (fail)
      have hb2 := hb.trans ((below_drewN wr nq).mono hb.size)
      clear c0 c1 hb
      go_wp2
      go_roundw
      case rel => exact ⟨k + 1, by go_num, by omega, hb2⟩
      case measure => simp [intOf]; omega
    · obtain rfl : k = n := by omega
      go_wp2
      go_ret
      exact ⟨rfl, hb⟩
end Go.Proofs.YtokooampmhcfeaaGreatDoor.Rg
