/- The areas of rows of a column, as the package writes them. -/
import Derived.Test.YtokooampmhcfeaaGreatDoorGItems
import Derived.Test.YtokooampmhcfeaaGreatDoorFColSort
import Derived.Test.YtokooampmhcfeaaGreatDoorFPlan
import Derived.ArgAppend
namespace Go.Proofs.YtokooampmhcfeaaGreatDoor.Rg
open Go.RowKit

/-- The slice is rows of two numbers: the column, and each of Y. -/
structure Pairs (w : World) (B : Nat) (A : Option Addr) (n c : Nat) (col : Nat) (Y gs : List Nat) : Prop where
  own : w.ownsRow B 32 1 (.slice A n c) n (gs.map pairV)
  len : n = Y.length
  glen : gs.length = Y.length
  inner : ∀ (k g y : Nat), gs[k]? = some g → Y[k]? = some y → w.heap[g]? = some (.cells #[.int .i64 col, .int .i64 y] 3)

theorem Pairs.keep {w w' : World} {B : Nat} {A : Option Addr} {n c : Nat} {col : Nat} {Y gs : List Nat} (h : Pairs w B A n c col Y gs) (hb : Below w.heap.size w w') : Pairs w' B A n c col Y gs :=
  ⟨own_below h.own hb, h.len, h.glen, fun k g y h1 h2 => (hb.block g (Array.getElem?_eq_some_iff.1 (h.inner k g y h1 h2)).1).trans (h.inner k g y h1 h2)⟩

/-- Block gk is two numbers. -/
structure Two (w : World) (gk : Nat) (a b : Nat) : Prop where
  lt : gk < w.heap.size
  c0 : w.cell? ⟨gk, 0, none⟩ = some (.int .i64 a)
  c1 : w.cell? ⟨gk, 1, none⟩ = some (.int .i64 b)
theorem Two.keep {w w' : World} {gk a b : Nat} (h : Two w gk a b) (hb : Below w.heap.size w w') : Two w' gk a b :=
  ⟨Nat.lt_of_lt_of_le h.lt hb.size, (hb.cell (p := ⟨gk, 0, none⟩) h.lt).trans h.c0, (hb.cell (p := ⟨gk, 1, none⟩) h.lt).trans h.c1⟩

theorem Pairs.at {w : World} {B : Nat} {A : Option Addr} {n c : Nat} {col : Nat} {Y gs : List Nat} (h : Pairs w B A n c col Y gs) (hn : 0 < n) :
    ∃ g, A = some ⟨g, 0, none⟩ ∧ g < w.heap.size ∧ ∀ k y : Nat, Y[k]? = some y → ∃ gk, w.cell? ⟨g, k, none⟩ = some (.slice (some ⟨gk, 0, none⟩) 2 2) ∧ Two w gk col y := by
  obtain ⟨g, cap, hv, _⟩ := h.own.form hn
  injection hv with hA hm hc
  subst hA
  refine ⟨g, rfl, (h.own.lt g (by rw [hc]; rfl)).2, fun k y hy => ?_⟩
  have hk : k < gs.length := by rw [h.glen]; exact (List.getElem?_eq_some_iff.1 hy).1
  have hg : gs[k]? = some gs[k] := List.getElem?_eq_getElem hk
  have hin := h.inner k gs[k] y hg hy
  have hc0 := h.own.cells (g := g) (by rw [hc]; rfl) k (pairV gs[k]) (by rw [List.getElem?_map, hg]; rfl)
  rw [addAt] at hc0
  exact ⟨gs[k], hc0, ⟨(Array.getElem?_eq_some_iff.1 hin).1, by simp [World.cell?, hin], by simp [World.cell?, hin]⟩⟩

theorem two_cells {w : World} {gk a b : Nat} (h : Two w gk a b) : ∀ j u, [Value.int .i64 a, .int .i64 b][j]? = some u → w.cell? ((⟨gk, 0, none⟩ : Addr).add j) = some u := by
  intro j u hu
  rw [addAt]
  rcases j with _ | _ | j
  · simp at hu
    subst hu
    exact h.c0
  · simp at hu
    subst hu
    exact h.c1
  · simp at hu

/-- One row of two behind another makes a fresh row of four. -/
theorem pair_append {w : World} {gl gr a b c d : Nat} (hl : Two w gl a b) (hr : Two w gr c d) :
    ∃ b4 c4 w', (Builtin.append_ #[32, 32] 32 #[.slice (some ⟨gl, 0, none⟩) 2 2, .slice (some ⟨gr, 0, none⟩) 2 2]).run Tryz.prog w = .ok (.slice (some ⟨b4, 0, none⟩) 4 c4) w' ∧ Four w w' b4 a b c d := by
  obtain ⟨i1, hi1, hi1z, hi1s, hi1b⟩ := info_parts infoInt
  obtain ⟨v', w', hr, hown, hg⟩ := run_append_arg_grows (P := Tryz.prog) w 32 32 3 i1 _ 1 8 Tryz.underlying32 hi1 hi1z hi1s hi1b rfl (by decide) ⟨gl, 0, none⟩ 2 2 [.int .i64 a, .int .i64 b] rfl (two_cells hl) ⟨gr, 0, none⟩ 2 2 [.int .i64 c, .int .i64 d] rfl (two_cells hr) (by decide) (by decide) (by decide)
  have hb : Below w.heap.size w w' := ⟨hg.os, hg.tape, hg.output, hg.size, fun k hk => hg.block k hk (by simp)⟩
  obtain ⟨b4, c4, rfl, hF⟩ := Four.of_own hown hb
  exact ⟨b4, c4, w', hr, hF⟩

def SquashPost (w : World) (col : Nat) (Y : List Nat) (e : Ending) (w' : World) : Prop := ∃ (A : Option Addr) (m c : Nat) (I : List Item), e = .returned (.slice A m c) ∧ RdS w' A (itexts I) ∧ m = I.length ∧ (∀ i ∈ I, i.Ok ∧ i.a.p = col ∧ i.a.x = col) ∧ cols (iareas I) col = ints Y ∧ I.length ≤ Y.length ∧ Below w.heap.size w w'

theorem itexts_snoc (I : List Item) (i : Item) : itexts (I ++ [i]) = itexts I ++ [i.t] := by unfold itexts; rw [List.map_append]; rfl

theorem strs_snoc (T : List (List UInt8)) (t : List UInt8) : strs (T ++ [t]) = strs T ++ [.string ⟨t.toArray⟩] := by
  unfold strs
  rw [List.map_append]
  rfl
theorem seg_cell {col p : Nat} : (segItem col p p).t = cellText false col p := if_pos rfl
theorem seg_area {col p q : Nat} (h : p ≠ q) : (segItem col p q).t = areaText false col p col q := if_neg h

theorem rise_inj {Y : List Nat} (h : Y.Pairwise (· < ·)) {l k p x : Nat} (hl : Y[l]? = some p) (hk : Y[k]? = some x) (e : p = x) : l = k := by
  obtain ⟨h1, rfl⟩ := List.getElem?_eq_some_iff.1 hl
  obtain ⟨h2, rfl⟩ := List.getElem?_eq_some_iff.1 hk
  have hp := List.pairwise_iff_getElem.1 h
  rcases Nat.lt_trichotomy l k with h3 | h3 | h3
  · have := hp l k h1 h2 h3
    omega
  · exact h3
  · have := hp k l h2 h1 h3
    omega

set_option maxHeartbeats 6400000 in
set_option maxRecDepth 100000 in
theorem squash_many (B : Nat) (A : Option Addr) (n c col : Nat) (Y gs : List Nat) (w : World) (hP : Pairs w B A n c col Y gs) (hY : Y.Pairwise (· < ·)) (hy1 : ∀ y ∈ Y, 1 ≤ y ∧ y ≤ 99) (hn1 : 2 ≤ n) (hn : n ≤ 25) (hc : 1 ≤ col ∧ col ≤ 30) (hTab : Tab w) :
    Calls Tryz.prog 31 #[.slice A n c] w (SquashPost w col Y) := by
  obtain ⟨i0, hi, hz0, hz1, hz2⟩ := info_parts infoString
  have HTAB := Lib.hid hTab
  have HL := Lib.hid hP.len
  have HP := Lib.hid hP
  have HY1 := Lib.hid hy1
  have HY := Lib.hid hY
  obtain ⟨g, rfl, hg0, _⟩ := hP.at (by omega)
  have hn1' : ((n : Int) == 1) = false := beq_false_of_ne (by omega)
  have hn0' : ((n : Int) == 0) = false := beq_false_of_ne (by omega)
  have hstart : Run Y col [] 0 1 := Run.start (by have := hP.len; omega)
  have HST := Lib.hid hstart
  clear hP hTab hy1 hstart hY
  go_enter Tryz.func31, Tryz.ntmps31
  go_wp2
  go_loopw [5, 6, 7, 8] (fun refs l r i wr => ∃ (rr ln m cx : Nat) (Ax : Option Addr) (I : List Item), l = .int .i64 ln ∧ r = .int .i64 rr ∧ i = .int .i64 ((rr : Int) + 1) ∧ refs = .slice Ax m cx ∧ OwnsS wr w.heap.size Ax m cx (itexts I) ∧ Hid (Run Y col I ln (rr + 1)) ∧ Below w.heap.size w wr) (fun _ _ _ i _ => n - (intOf i).toNat)
  case atStart => exact ⟨0, 0, 0, 0, none, [], rfl, rfl, rfl, rfl, ⟨World.ownsRow_nil _ _ _ _, rfl⟩, HST.out, Below.refl _ _⟩
  clear HST
  case round =>
    obtain ⟨rr, ln, m, cx, Ax, I, rfl, rfl, rfl, rfl, hO, HR, hb⟩ := hrel
    have hlt := HR.out.lt
    have hle := HR.out.le
    have hil := HR.out.len
    have HM := Lib.hid hO.len
    have hmI : m = I.length := by have := HM.out; unfold itexts at this; rw [List.length_map] at this; exact this
    have HIL := Lib.hid hmI
    have hYn := HL.out
    have hY := HY.out
    obtain ⟨x, hx⟩ : ∃ x, Y[rr]? = some x := ⟨_, List.getElem?_eq_getElem (by omega)⟩
    obtain ⟨p, hp⟩ : ∃ p, Y[ln]? = some p := ⟨_, List.getElem?_eq_getElem (by omega)⟩
    have hpx : p ≤ x := rise_le hY hp hx (by omega)
    have hp1 := HY1.out p (List.mem_of_getElem? hp)
    have hx1 := HY1.out x (List.mem_of_getElem? hx)
    have hok : (segItem col p x).Ok := segItem_ok hc hp1.1 hpx hx1.2
    have hg : g < wr.heap.size := Nat.lt_of_lt_of_le hg0 hb.size
    have hrows : ∀ k y : Nat, Y[k]? = some y → ∃ gk, wr.cell? ⟨g, k, none⟩ = some (.slice (some ⟨gk, 0, none⟩) 2 2) ∧ Two wr gk col y := by
      obtain ⟨g', e, _, h⟩ := (HP.out.keep hb).at (by omega)
      cases e
      exact h
    have l0' : (0 : Int) ≤ (ln : Int) := by omega
    have HRL : Hid (rr < Y.length) := by show rr < Y.length; omega
    have l1' : (ln : Int) < (n : Int) := by omega
    have r0' : (0 : Int) ≤ (rr : Int) := by omega
    have r1' : (rr : Int) < (n : Int) := by omega
    have hm25 : m ≤ 25 := by omega
    clear hYn hmI hle
    by_cases hin : rr + 1 < n
    · obtain ⟨y, hy⟩ : ∃ y, Y[rr + 1]? = some y := ⟨_, List.getElem?_eq_getElem (by have := HL.out; omega)⟩
      have hxy : x < y := by
        obtain ⟨q1, e1⟩ := List.getElem?_eq_some_iff.1 hx
        obtain ⟨q2, e2⟩ := List.getElem?_eq_some_iff.1 hy
        have := List.pairwise_iff_getElem.1 hY rr (rr + 1) q1 q2 (by omega)
        omega
      have hy1 := HY1.out y (List.mem_of_getElem? hy)
      obtain ⟨gi, ci, hTi⟩ := hrows (rr + 1) y hy
      obtain ⟨gr0, cr0, hTr0⟩ := hrows rr x hx
      obtain ⟨_, ti0, ti1⟩ := hTi
      obtain ⟨_, tr0, tr1⟩ := hTr0
      have i0' : (0 : Int) ≤ (rr : Int) + 1 := by omega
      have i1' : (rr : Int) + 1 < (n : Int) := by omega
      have i2' : ((rr : Int) + 1).toNat = rr + 1 := by omega
      by_cases hd : 1 < (y : Int) - (x : Int)
      · have HCUT := Lib.hid (HR.out.cut (by have := HL.out; omega) hp (by rw [Nat.add_sub_cancel]; exact hx) hok)
        have dd : decide (1 < (y : Int) - (x : Int)) = true := decide_eq_true hd
        clear HR
        go_wp2_with fail
        go_quiet (fail)
        have hbq := (below_drewN wr nq)
        have hb' := hb.trans (hbq.mono hb.size)
        have hO' : OwnsS (wr.drewN nq) w.heap.size Ax m cx (itexts I) := ⟨own_below hO.own hbq, hO.len⟩
        have hrows' : ∀ k y : Nat, Y[k]? = some y → ∃ gk, (wr.drewN nq).cell? ⟨g, k, none⟩ = some (.slice (some ⟨gk, 0, none⟩) 2 2) ∧ Two (wr.drewN nq) gk col y := by
          obtain ⟨g', e, _, h⟩ := (HP.out.keep hb').at (by omega)
          cases e
          exact h
        have hg' : g < (wr.drewN nq).heap.size := Nat.lt_of_lt_of_le hg hbq.size
        clear hb hO hrows hg hbq ci ti0 ti1 tr0 tr1 cr0
        generalize wr.drewN nq = wr at *
        have hb := hb'
        have hO := hO'
        have hrows := hrows'
        have hg := hg'
        clear hb' hO' hrows' hg'
        obtain ⟨gl, cl, hTl⟩ := hrows ln p hp
        obtain ⟨gr, cr, hTr⟩ := hrows rr x hx
        have hdr : Below wr.heap.size wr wr.drew := (Below.refl _ _).drew
        obtain ⟨b4, c4, w3, happ, hF4⟩ := pair_append (hTl.keep hdr) (hTr.keep hdr)
        have hb3 := hF4.below
        have hb3' : Below wr.heap.size wr w3 := hdr.trans hb3
        have cl3 := (hb3'.cell (p := ⟨g, ln, none⟩) hg).trans cl
        have cr3 := (hb3'.cell (p := ⟨g, rr, none⟩) hg).trans cr
        have hB3 := hb.trans (hb3'.mono hb.size)
        have REF := Lib.hid (ref_any false b4 c4 0 0 none col p col x wr.drew w3 hF4 (by omega) (by omega) (by omega) (by omega) ((HTAB.out).stays hB3) (.inl ⟨rfl, rfl⟩))
        have hS0 : wr.drew.cell? ⟨g, ln, none⟩ = some (.slice (some ⟨gl, 0, none⟩) 2 2) ∧ wr.drew.cell? ⟨g, rr, none⟩ = some (.slice (some ⟨gr, 0, none⟩) 2 2) := ⟨cl, cr⟩
        go_wp2_with fail
        refine wp_region_plan (List.replicate 15 false) [true, true, true, true, true, true, true, true, false, false, true, true, true, true, true] (S := fun w' => w'.cell? ⟨g, ln, none⟩ = some (.slice (some ⟨gl, 0, none⟩) 2 2) ∧ w'.cell? ⟨g, rr, none⟩ = some (.slice (some ⟨gr, 0, none⟩) 2 2)) (by kernel_rfl) (by kernel_rfl) (by kernel_rfl) (fun d _ _ _ _ h => by cases d <;> exact h) hS0 ?_
        simp only [List.replicate, swaps]
        iterate 8
          refine seq_take (v := ?_) (by rfl) ?_ ?_
          rotate_left
          · intro w' hSw
            obtain ⟨s0, s1⟩ := hSw
            go_simp
            try (with_reducible rfl)
          try simp only [Act.put, List.setIfInBounds_toArray, List.set_cons_zero, List.set_cons_succ]

        refine seq_solo (by rfl) (fun K hK => ?_)
        refine wp_append _ _ _ (by rfl) (by rfl) (by rfl) happ ?_
        refine hK.out _ _ ⟨cl3, cr3⟩ (fun _ => ?_)
        clear hK K
        try simp only [Act.put, List.setIfInBounds_toArray, List.set_cons_zero, List.set_cons_succ]
        refine seq_solo (by rfl) (fun K hK => ?_)
        go_simp
        refine REF.out.mono ?_
        rintro e w5 ⟨rfl, hb5⟩
        have hg3 : g < w3.heap.size := Nat.lt_of_lt_of_le hg hb3'.size
        refine hK.out _ _ ⟨(hb5.cell (p := ⟨g, ln, none⟩) hg3).trans cl3, (hb5.cell (p := ⟨g, rr, none⟩) hg3).trans cr3⟩ (fun _ => ?_)
        clear hK K
        try simp only [Act.put, List.setIfInBounds_toArray, List.set_cons_zero, List.set_cons_succ]
        iterate 5
          refine seq_take (v := ?_) (by rfl) ?_ ?_
          rotate_left
          · intro w' hSw
            obtain ⟨s0, s1⟩ := hSw
            go_simp
            try (with_reducible rfl)
          try simp only [Act.put, List.setIfInBounds_toArray, List.set_cons_zero, List.set_cons_succ]

        refine seq_done ?_
        have hb35 : Below wr.heap.size wr w5 := hb3'.trans (hb5.mono hb3'.size)
        have HB5 := Lib.hid (hb.trans (hb35.mono hb.size))
        have hown5 := own_below hO.own hb35
        have hT5 := hTl.keep hb35
        have cl5 := (hb35.cell (p := ⟨g, ln, none⟩) hg).trans cl
        have hg5 : g < w5.heap.size := Nat.lt_of_lt_of_le hg hb35.size
        clear hS0 REF happ hF4 hb3 hb3' cl3 cr3 hB3 hTl hTr cl cr hb5 hb35 hg3 hdr
        by_cases hlr : ln = rr
        · subst hlr
          obtain rfl : p = x := by rw [hp] at hx; exact Option.some.inj hx
          have HTX := Lib.hid (seg_cell (col := col) (p := p))
          have COR := Lib.hid (coord_any false col p 0 0 none w5.drew (by omega) (by omega) ((HTAB.out).stays (HB5.out.trans ((Below.refl _ _).drew.mono HB5.out.size))) (.inl ⟨rfl, rfl⟩))
          have hS0 : w5.drew.cell? ⟨g, ln, none⟩ = some (.slice (some ⟨gl, 0, none⟩) 2 2) ∧ w5.drew.cell? ⟨gl, 0, none⟩ = some (.int .i64 col) ∧ w5.drew.cell? ⟨gl, 1, none⟩ = some (.int .i64 p) := ⟨cl5, hT5.c0, hT5.c1⟩
          go_wp2_with fail
          refine wp_region_plan (List.replicate 17 false) [true, true, true, true, true, true, true, true, true, true, true, true, false, true, true, true, true] (S := fun w' => w'.cell? ⟨g, ln, none⟩ = some (.slice (some ⟨gl, 0, none⟩) 2 2) ∧ w'.cell? ⟨gl, 0, none⟩ = some (.int .i64 col) ∧ w'.cell? ⟨gl, 1, none⟩ = some (.int .i64 p)) (by kernel_rfl) (by kernel_rfl) (by kernel_rfl) (fun d _ _ _ _ h => by cases d <;> exact h) hS0 ?_
          simp only [List.replicate, swaps]
          iterate 12
            refine seq_take (v := ?_) (by rfl) ?_ ?_
            rotate_left
            · intro w' hSw
              obtain ⟨s0, s1, s2⟩ := hSw
              go_simp
              try (with_reducible rfl)
            try simp only [Act.put, List.setIfInBounds_toArray, List.set_cons_zero, List.set_cons_succ]

          refine seq_solo (by rfl) (fun K hK => ?_)
          go_simp
          refine COR.out.mono ?_
          rintro e w6 ⟨rfl, hb6⟩
          have hb6' : Below w5.heap.size w5 w6 := (Below.refl _ _).drew.trans hb6
          refine hK.out _ _ ⟨(hb6'.cell (p := ⟨g, ln, none⟩) hg5).trans cl5, (hb6'.cell (p := ⟨gl, 0, none⟩) hT5.lt).trans hT5.c0, (hb6'.cell (p := ⟨gl, 1, none⟩) hT5.lt).trans hT5.c1⟩ (fun _ => ?_)
          clear hK K
          try simp only [Act.put, List.setIfInBounds_toArray, List.set_cons_zero, List.set_cons_succ]
          iterate 4
            refine seq_take (v := ?_) (by rfl) ?_ ?_
            rotate_left
            · intro w' hSw
              obtain ⟨s0, s1, s2⟩ := hSw
              go_simp
              try (with_reducible rfl)
            try simp only [Act.put, List.setIfInBounds_toArray, List.set_cons_zero, List.set_cons_succ]

          refine seq_done ?_
          have HB6 := Lib.hid (HB5.out.trans (hb6'.mono HB5.out.size))
          have hown6 := own_below hown5 hb6'
          clear hS0 COR hb6 hb6' hown5 HB5 cl5 hT5 hg5
          have hbs := HB6.out.size
          go_wp2_with (at_builtin; refine wpList_append_own _ rfl _ _ 35 rfl w.heap.size 9 i0 _ 1 16 Tryz.underlying35 hi hz0 hz1 hz2 rfl (by decide) _ _ _ rfl (hown6.alloc _) ⟨w6.heap.size, 0, none⟩ 1 1 [.string ⟨(cellText false col p).toArray⟩] rfl rfl ?c1 ?c2 ?c3 ?c4 ?c5 ?_)
          case c1 => exact newAt _ [.string ⟨(cellText false col p).toArray⟩] _ _ rfl
          case c2 => exact fun u hu => one_string u _ hu
          case c3 => unfold maxLen; omega
          case c4 => omega
          case c5 => simp; omega
          intro v' w7 hown' hgrow _
          have HB7 := Lib.hid ((HB6.out.alloc hbs _).grown hgrow (by simp; omega) (fun j hj => (hown6.lt j hj).1))
          have hO7 : w7.ownsRow w.heap.size 9 1 v' (m + 1) (strs (itexts (I ++ [segItem col p p]))) := by
            rw [itexts_snoc, strs_snoc, HTX.out]
            exact hown'
          have HO := Lib.hid hO7
          clear hown' hgrow hown6 HB6 hbs hO7
          go_wp2
          go_roundw
          case rel =>
            obtain ⟨A', c', he⟩ := own_slice HO.out
            have h2 := HO.out
            rw [he] at h2
            exact ⟨ln + 1, ln + 1, m + 1, c', A', I ++ [segItem col p p], rfl, rfl, by go_num, he, ⟨h2, by rw [itexts_snoc, List.length_append, ← HM.out]; rfl⟩, HCUT.out, HB7.out⟩
          case measure => simp [intOf]; omega
        · have hne : p ≠ x := fun e => hlr (rise_inj hY hp hx e)
          have HTX := Lib.hid (seg_area (col := col) hne)
          have hlr' : (((ln : Int)) == (rr : Int)) = false := beq_false_of_ne (by omega)
          clear cl5 hT5 hg5
          have hbs := HB5.out.size
          go_wp2_with (at_builtin; refine wpList_append_own _ rfl _ _ 35 rfl w.heap.size 9 i0 _ 1 16 Tryz.underlying35 hi hz0 hz1 hz2 rfl (by decide) _ _ _ rfl (hown5.alloc _) ⟨w5.heap.size, 0, none⟩ 1 1 [.string ⟨(areaText false col p col x).toArray⟩] rfl rfl ?c1 ?c2 ?c3 ?c4 ?c5 ?_)
          case c1 => exact newAt _ [.string ⟨(areaText false col p col x).toArray⟩] _ _ rfl
          case c2 => exact fun u hu => one_string u _ hu
          case c3 => unfold maxLen; omega
          case c4 => omega
          case c5 => simp; omega
          intro v' w7 hown' hgrow _
          have HB7 := Lib.hid ((HB5.out.alloc hbs _).grown hgrow (by simp; omega) (fun j hj => (hown5.lt j hj).1))
          have hO7 : w7.ownsRow w.heap.size 9 1 v' (m + 1) (strs (itexts (I ++ [segItem col p x]))) := by
            rw [itexts_snoc, strs_snoc, HTX.out]
            exact hown'
          have HO := Lib.hid hO7
          clear hown' hgrow hown5 HB5 hbs hO7
          go_wp2
          go_roundw
          case rel =>
            obtain ⟨A', c', he⟩ := own_slice HO.out
            have h2 := HO.out
            rw [he] at h2
            exact ⟨rr + 1, rr + 1, m + 1, c', A', I ++ [segItem col p x], rfl, rfl, by go_num, he, ⟨h2, by rw [itexts_snoc, List.length_append, ← HM.out]; rfl⟩, HCUT.out, HB7.out⟩
          case measure => simp [intOf]; omega
      · have HMORE := Lib.hid (HR.out.more hy (by rw [Nat.add_sub_cancel]; exact hx) (fun q hq => by rw [hp] at hq; cases hq; exact hpx) (by omega))
        have dd : decide (1 < (y : Int) - (x : Int)) = false := decide_eq_false hd
        clear HR hrows
        go_wp2_with fail
        go_quiet (fail)
        have hb2 := hb.trans ((below_drewN wr nq).mono hb.size)
        have hO2 := own_below hO.own (below_drewN wr nq)
        clear ci ti0 ti1 tr0 tr1 cr0 hb hO
        go_wp2
        go_roundw
        case rel => exact ⟨rr + 1, ln, m, cx, Ax, I, rfl, by go_num, by go_num, rfl, ⟨hO2, HM.out⟩, HMORE.out, hb2⟩
        case measure => simp [intOf]; omega
    · have hend : rr + 1 = Y.length := by have := HL.out; have := HRL.out; omega
      have HFL : Hid (cols (iareas (I ++ [segItem col p x])) col = ints Y) := by
        have := HR.out.flush hp (by rw [Nat.add_sub_cancel]; exact hx)
        rw [hend, List.take_length] at this
        exact this
      have HALL : Hid (∀ i ∈ I ++ [segItem col p x], i.Ok ∧ i.a.p = col ∧ i.a.x = col) := by
        intro it hit
        rcases List.mem_append.1 hit with hit | hit
        · exact HR.out.ok it hit
        · simp only [List.mem_singleton] at hit
          subst hit
          exact ⟨hok, rfl, rfl⟩
      have HLE : Hid (I.length + 1 ≤ Y.length) := by
        show I.length + 1 ≤ Y.length
        have := HRL.out
        omega
      clear HR hend
      obtain ⟨gl, cl, hTl⟩ := hrows ln p hp
      obtain ⟨gr, cr, hTr⟩ := hrows rr x hx
      have hdr : Below wr.heap.size wr wr.drew := (Below.refl _ _).drew
      obtain ⟨b4, c4, w3, happ, hF4⟩ := pair_append (hTl.keep hdr) (hTr.keep hdr)
      have hb3 := hF4.below
      have hb3' : Below wr.heap.size wr w3 := hdr.trans hb3
      have cl3 := (hb3'.cell (p := ⟨g, ln, none⟩) hg).trans cl
      have cr3 := (hb3'.cell (p := ⟨g, rr, none⟩) hg).trans cr
      have hB3 := hb.trans (hb3'.mono hb.size)
      have REF := Lib.hid (ref_any false b4 c4 0 0 none col p col x wr.drew w3 hF4 (by omega) (by omega) (by omega) (by omega) ((HTAB.out).stays hB3) (.inl ⟨rfl, rfl⟩))
      have hS0 : wr.drew.cell? ⟨g, ln, none⟩ = some (.slice (some ⟨gl, 0, none⟩) 2 2) ∧ wr.drew.cell? ⟨g, rr, none⟩ = some (.slice (some ⟨gr, 0, none⟩) 2 2) := ⟨cl, cr⟩
      go_wp2_with fail
      refine wp_region_plan (List.replicate 15 false) [true, true, true, true, true, true, true, true, false, false, true, true, true, true, true] (S := fun w' => w'.cell? ⟨g, ln, none⟩ = some (.slice (some ⟨gl, 0, none⟩) 2 2) ∧ w'.cell? ⟨g, rr, none⟩ = some (.slice (some ⟨gr, 0, none⟩) 2 2)) (by kernel_rfl) (by kernel_rfl) (by kernel_rfl) (fun d _ _ _ _ h => by cases d <;> exact h) hS0 ?_
      simp only [List.replicate, swaps]
      iterate 8
        refine seq_take (v := ?_) (by rfl) ?_ ?_
        rotate_left
        · intro w' hSw
          obtain ⟨s0, s1⟩ := hSw
          go_simp
          try (with_reducible rfl)
        try simp only [Act.put, List.setIfInBounds_toArray, List.set_cons_zero, List.set_cons_succ]

      refine seq_solo (by rfl) (fun K hK => ?_)
      refine wp_append _ _ _ (by rfl) (by rfl) (by rfl) happ ?_
      refine hK.out _ _ ⟨cl3, cr3⟩ (fun _ => ?_)
      clear hK K
      try simp only [Act.put, List.setIfInBounds_toArray, List.set_cons_zero, List.set_cons_succ]
      refine seq_solo (by rfl) (fun K hK => ?_)
      go_simp
      refine REF.out.mono ?_
      rintro e w5 ⟨rfl, hb5⟩
      have hg3 : g < w3.heap.size := Nat.lt_of_lt_of_le hg hb3'.size
      refine hK.out _ _ ⟨(hb5.cell (p := ⟨g, ln, none⟩) hg3).trans cl3, (hb5.cell (p := ⟨g, rr, none⟩) hg3).trans cr3⟩ (fun _ => ?_)
      clear hK K
      try simp only [Act.put, List.setIfInBounds_toArray, List.set_cons_zero, List.set_cons_succ]
      iterate 5
        refine seq_take (v := ?_) (by rfl) ?_ ?_
        rotate_left
        · intro w' hSw
          obtain ⟨s0, s1⟩ := hSw
          go_simp
          try (with_reducible rfl)
        try simp only [Act.put, List.setIfInBounds_toArray, List.set_cons_zero, List.set_cons_succ]

      refine seq_done ?_
      have hb35 : Below wr.heap.size wr w5 := hb3'.trans (hb5.mono hb3'.size)
      have HB5 := Lib.hid (hb.trans (hb35.mono hb.size))
      have hown5 := own_below hO.own hb35
      have hT5 := hTl.keep hb35
      have cl5 := (hb35.cell (p := ⟨g, ln, none⟩) hg).trans cl
      have hg5 : g < w5.heap.size := Nat.lt_of_lt_of_le hg hb35.size
      clear hS0 REF happ hF4 hb3 hb3' cl3 cr3 hB3 hTl hTr cl cr hb5 hb35 hg3 hdr
      by_cases hlr : ln = rr
      · subst hlr
        obtain rfl : p = x := by rw [hp] at hx; exact Option.some.inj hx
        have HTX := Lib.hid (seg_cell (col := col) (p := p))
        have COR := Lib.hid (coord_any false col p 0 0 none w5.drew (by omega) (by omega) ((HTAB.out).stays (HB5.out.trans ((Below.refl _ _).drew.mono HB5.out.size))) (.inl ⟨rfl, rfl⟩))
        have hS0 : w5.drew.cell? ⟨g, ln, none⟩ = some (.slice (some ⟨gl, 0, none⟩) 2 2) ∧ w5.drew.cell? ⟨gl, 0, none⟩ = some (.int .i64 col) ∧ w5.drew.cell? ⟨gl, 1, none⟩ = some (.int .i64 p) := ⟨cl5, hT5.c0, hT5.c1⟩
        go_wp2_with fail
        refine wp_region_plan (List.replicate 17 false) [true, true, true, true, true, true, true, true, true, true, true, true, false, true, true, true, true] (S := fun w' => w'.cell? ⟨g, ln, none⟩ = some (.slice (some ⟨gl, 0, none⟩) 2 2) ∧ w'.cell? ⟨gl, 0, none⟩ = some (.int .i64 col) ∧ w'.cell? ⟨gl, 1, none⟩ = some (.int .i64 p)) (by kernel_rfl) (by kernel_rfl) (by kernel_rfl) (fun d _ _ _ _ h => by cases d <;> exact h) hS0 ?_
        simp only [List.replicate, swaps]
        iterate 12
          refine seq_take (v := ?_) (by rfl) ?_ ?_
          rotate_left
          · intro w' hSw
            obtain ⟨s0, s1, s2⟩ := hSw
            go_simp
            try (with_reducible rfl)
          try simp only [Act.put, List.setIfInBounds_toArray, List.set_cons_zero, List.set_cons_succ]

        refine seq_solo (by rfl) (fun K hK => ?_)
        go_simp
        refine COR.out.mono ?_
        rintro e w6 ⟨rfl, hb6⟩
        have hb6' : Below w5.heap.size w5 w6 := (Below.refl _ _).drew.trans hb6
        refine hK.out _ _ ⟨(hb6'.cell (p := ⟨g, ln, none⟩) hg5).trans cl5, (hb6'.cell (p := ⟨gl, 0, none⟩) hT5.lt).trans hT5.c0, (hb6'.cell (p := ⟨gl, 1, none⟩) hT5.lt).trans hT5.c1⟩ (fun _ => ?_)
        clear hK K
        try simp only [Act.put, List.setIfInBounds_toArray, List.set_cons_zero, List.set_cons_succ]
        iterate 4
          refine seq_take (v := ?_) (by rfl) ?_ ?_
          rotate_left
          · intro w' hSw
            obtain ⟨s0, s1, s2⟩ := hSw
            go_simp
            try (with_reducible rfl)
          try simp only [Act.put, List.setIfInBounds_toArray, List.set_cons_zero, List.set_cons_succ]

        refine seq_done ?_
        have HB6 := Lib.hid (HB5.out.trans (hb6'.mono HB5.out.size))
        have hown6 := own_below hown5 hb6'
        clear hS0 COR hb6 hb6' hown5 HB5 cl5 hT5 hg5
        have hbs := HB6.out.size
        go_wp2_with (at_builtin; refine wpList_append_own _ rfl _ _ 35 rfl w.heap.size 9 i0 _ 1 16 Tryz.underlying35 hi hz0 hz1 hz2 rfl (by decide) _ _ _ rfl (hown6.alloc _) ⟨w6.heap.size, 0, none⟩ 1 1 [.string ⟨(cellText false col p).toArray⟩] rfl rfl ?c1 ?c2 ?c3 ?c4 ?c5 ?_)
        case c1 => exact newAt _ [.string ⟨(cellText false col p).toArray⟩] _ _ rfl
        case c2 => exact fun u hu => one_string u _ hu
        case c3 => unfold maxLen; omega
        case c4 => omega
        case c5 => simp; omega
        intro v' w7 hown' hgrow _
        have HB7 := Lib.hid ((HB6.out.alloc hbs _).grown hgrow (by simp; omega) (fun j hj => (hown6.lt j hj).1))
        have hO7 : w7.ownsRow w.heap.size 9 1 v' (m + 1) (strs (itexts (I ++ [segItem col p p]))) := by
          rw [itexts_snoc, strs_snoc, HTX.out]
          exact hown'
        have HO := Lib.hid hO7
        clear hown' hgrow hown6 HB6 hbs hO7
        obtain ⟨A', c', he⟩ := own_slice HO.out
        have h2 := HO.out
        rw [he] at h2 ⊢
        go_wp2
        go_ret
        exact ⟨A', m + 1, c', I ++ [segItem col p p], rfl, (OwnsS.mk (m := m + 1) (c := c') h2 (by rw [itexts_snoc, List.length_append, ← HM.out]; rfl)).reads, by rw [List.length_append, HIL.out]; rfl, HALL.out, HFL.out, by have := HLE.out; rw [List.length_append, List.length_singleton]; omega, HB7.out⟩
      · have hne : p ≠ x := fun e => hlr (rise_inj hY hp hx e)
        have HTX := Lib.hid (seg_area (col := col) hne)
        have hlr' : (((ln : Int)) == (rr : Int)) = false := beq_false_of_ne (by omega)
        clear cl5 hT5 hg5
        have hbs := HB5.out.size
        go_wp2_with (at_builtin; refine wpList_append_own _ rfl _ _ 35 rfl w.heap.size 9 i0 _ 1 16 Tryz.underlying35 hi hz0 hz1 hz2 rfl (by decide) _ _ _ rfl (hown5.alloc _) ⟨w5.heap.size, 0, none⟩ 1 1 [.string ⟨(areaText false col p col x).toArray⟩] rfl rfl ?c1 ?c2 ?c3 ?c4 ?c5 ?_)
        case c1 => exact newAt _ [.string ⟨(areaText false col p col x).toArray⟩] _ _ rfl
        case c2 => exact fun u hu => one_string u _ hu
        case c3 => unfold maxLen; omega
        case c4 => omega
        case c5 => simp; omega
        intro v' w7 hown' hgrow _
        have HB7 := Lib.hid ((HB5.out.alloc hbs _).grown hgrow (by simp; omega) (fun j hj => (hown5.lt j hj).1))
        have hO7 : w7.ownsRow w.heap.size 9 1 v' (m + 1) (strs (itexts (I ++ [segItem col p x]))) := by
          rw [itexts_snoc, strs_snoc, HTX.out]
          exact hown'
        have HO := Lib.hid hO7
        clear hown' hgrow hown5 HB5 hbs hO7
        obtain ⟨A', c', he⟩ := own_slice HO.out
        have h2 := HO.out
        rw [he] at h2 ⊢
        go_wp2
        go_ret
        exact ⟨A', m + 1, c', I ++ [segItem col p x], rfl, (OwnsS.mk (m := m + 1) (c := c') h2 (by rw [itexts_snoc, List.length_append, ← HM.out]; rfl)).reads, by rw [List.length_append, HIL.out]; rfl, HALL.out, HFL.out, by have := HLE.out; rw [List.length_append, List.length_singleton]; omega, HB7.out⟩

end Go.Proofs.YtokooampmhcfeaaGreatDoor.Rg
