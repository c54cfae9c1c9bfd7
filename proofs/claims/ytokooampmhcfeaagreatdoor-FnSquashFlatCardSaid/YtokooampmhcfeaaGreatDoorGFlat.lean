/- The package's map of columns, as it is filled: over texts of areas and of cells. -/
import Derived.Test.YtokooampmhcfeaaGreatDoorFFlat
import Derived.Test.YtokooampmhcfeaaGreatDoorGItems
import Derived.Test.YtokooampmhcfeaaGreatDoorFImpl
namespace Go.Proofs.YtokooampmhcfeaaGreatDoor.Rg
open Go.RowKit Go.Maps

def IFlatPost (w : World) (M : List Ar) (e : Ending) (w' : World) : Prop := ∃ (b base N : Nat), e = .returned (.tuple #[.map (some b), .nilIface]) ∧ w.heap.size ≤ b ∧ b < base ∧ N ≤ 75000 ∧ base ≤ w'.heap.size ∧ Rise w' b base N (cols M) ∧ Below w.heap.size w w'

theorem icols_take {I : List Item} {k : Nat} {i : Item} (h : I[k]? = some i) (c : Int) : cols (iareas (I.take (k + 1))) c = cols (iareas (I.take k)) c ++ full i.a c := by
  unfold iareas
  rw [List.map_take, List.map_take]
  exact cols_take (by rw [List.getElem?_map, h]; rfl) c

theorem upd_one (F : Int → List Int) (a : Ar) (ex : a.x = a.p) (ey : a.y = a.q) : upd F a.p (F a.p ++ [a.q]) = fun c => F c ++ full a c := by
  funext c
  unfold full
  by_cases h : c = a.p
  · subst h
    rw [upd_same, if_pos (by omega), ey, rowsTo_snoc (Int.le_refl _), rowsTo_same]
    rfl
  · rw [upd_other _ _ h, if_neg (by omega)]
    simp

set_option maxHeartbeats 3200000 in
set_option maxRecDepth 100000 in
theorem iflat_any (I : List Item) (w : World) (hn2 : I.length ≤ 25) (hG : ∀ i ∈ I, i.Ok) (htab : Lib.TabIs Tryz.prog w "strings.asciiSpace" .u8 Lib.asciiSpaceTab) :
    Calls Tryz.prog 26 #[.string ⟨(joined (itexts I)).toArray⟩] w (IFlatPost w (iareas I)) := by
  obtain ⟨i0, hi, hz0, hz1, hz2⟩ := info_parts infoRow
  have hmm := @run_makeMap Tryz.prog
  obtain ⟨f1, f2, f3⟩ := items_fields hG hn2
  have FS := Tryz.strings_Fields_laid ⟨(joined (itexts I)).toArray⟩ ((w.alloc (Obj.cells #[Value.map (some (w.heap.size + 1))] 43)).alloc (Obj.map #[] 0))
    (by show (joined (itexts I)).toArray.size < 4294967281; simp; omega)
    (fun j u hj => f2 u (by have := List.mem_of_getElem? hj; simpa using this))
    (tab_stays htab (((Below.refl _ _).alloc (Nat.le_refl _) _).alloc (by simp) _))
  have e3 : (⟨(joined (itexts I)).toArray⟩ : ByteArray).data.toList = joined (itexts I) := by simp
  rw [e3, f3] at FS
  have hTL : (itexts I).length = I.length := by unfold itexts; rw [List.length_map]
  have hA0 := At0.made w (itexts I)
  have hC0 : Col (((w.alloc (.cells #[.map (some (w.heap.size + 1))] 43)).alloc (.map #[] 0)).alloc (.cells ((itexts I).map fun l => Value.string ⟨l.toArray⟩).toArray 9)) (w.heap.size + 1) (w.heap.size + 3) 0 (fun _ => []) := by
    have h := (Col.made (w.alloc (.cells #[.map (some (w.heap.size + 1))] 43)) (w.heap.size + 3)).keep (w' := ((w.alloc (.cells #[.map (some (w.heap.size + 1))] 43)).alloc (.map #[] 0)).alloc (.cells ((itexts I).map fun l => Value.string ⟨l.toArray⟩).toArray 9)) ((Below.refl _ _).alloc (Nat.le_refl _) _)
    have e : (w.alloc (.cells #[.map (some (w.heap.size + 1))] 43)).heap.size = w.heap.size + 1 := by simp
    rwa [e] at h
  clear htab f1 f2 f3 e3
  have HG := Lib.hid hG
  clear hG
  go_enter Tryz.func26, Tryz.ntmps26
  go_wp2_with fail
  refine FS.mono ?_
  rintro e w1 ⟨rfl, hw1⟩
  rw [← hw1] at hA0 hC0
  clear FS hw1
  have eS : ((w.alloc (Obj.cells #[Value.map (some (w.heap.size + 1))] 43)).alloc (Obj.map #[] 0)).heap.size = w.heap.size + 2 := by simp
  rw [eS, hTL]
  clear eS
  have HA0 := Lib.hid hA0
  have HC0 := Lib.hid hC0
  clear hA0 hC0
  generalize hWW : w.heap.size = W at *
  go_wp2
  go_loopw [3, 17] (fun er i wr => ∃ k : Nat, k ≤ I.length ∧ er = .nilIface ∧ i = .int .i64 k ∧ w1.grownBy wr (some (W + 1)) ∧ Col wr (W + 1) (W + 3) (3000 * k) (cols (iareas (I.take k)))) (fun _ i _ => I.length - (intOf i).toNat)
  case atStart => exact ⟨0, by omega, rfl, rfl, ⟨rfl, rfl, rfl, Nat.le_refl _, fun _ _ _ => rfl⟩, HC0.out⟩
  case round =>
    obtain ⟨k, hk, rfl, rfl, hgr, hcol⟩ := hrel
    by_cases hlt : k < I.length
    · obtain ⟨⟨t, a⟩, hka⟩ : ∃ i, I[k]? = some i := ⟨_, List.getElem?_eq_getElem hlt⟩
      have hgood := HG.out _ (List.mem_of_getElem? hka)
      have HCT : Hid (∀ c, cols (iareas (I.take (k + 1))) c = cols (iareas (I.take k)) c ++ full a c) := fun c => icols_take hka c
      have hkt : (itexts I)[k]? = some t := by unfold itexts; rw [List.getElem?_map, hka]; rfl
      have hA := HA0.out
      have hsz := hA.size
      have hbox := (grownBy_cell (i := 0) hgr (show W < w1.heap.size by omega) (by omega)).trans hA.box
      have hword := (grownBy_cell (i := k) hgr (show W + 2 < w1.heap.size by omega) (by omega)).trans (hA.word k _ hkt)
      have hl : 1 ≤ t.length ∧ t.length ≤ 25 := hgood.len
      have SP := fun w => split_any ⟨t.toArray⟩ 58 w (by show t.toArray.size ≤ 1000000; simp; omega)
      have ed : (⟨t.toArray⟩ : ByteArray).data.toList = t := by simp
      rw [ed] at SP
      have hpx : a.p ≤ a.x := hgood.px
      have hqy : a.q ≤ a.y := hgood.qy
      have hp1 : 1 ≤ a.p := hgood.p1
      have hq1 : 1 ≤ a.q := hgood.q1
      have hx30 : a.x ≤ 30 := hgood.x30
      have hy60 : a.y ≤ 99 := hgood.y99
      have i0' : (0 : Int) ≤ (k : Int) := by omega
      have i1' : (k : Int) < (I.length : Int) := by omega
      have hws := hgr.size
      have hshape := hgood.shape
      clear ed hkt hgood hka hl
      rcases hshape with ⟨⟨s1, s2, hp⟩, hrange⟩ | ⟨hp, ⟨n0, hcell⟩, ex, ey⟩
      · have RG := fun w => range_any ⟨t.toArray⟩ a.p a.q a.x a.y w hrange
        simp only at hp
        rw [hp] at SP
        clear hp hrange
        go_wp2_with fail
        refine (SP _).mono ?_
        rintro e w2 ⟨A2, m2, c2, rfl, hO2, hb2⟩
        obtain rfl : m2 = 2 := hO2.len
        clear hO2 SP
        go_wp2_with fail
        refine (RG _).mono ?_
        rintro e w3 ⟨fb, rfl, hF⟩
        clear RG
        go_wp2_with fail
        refine (sort_any fb 4 a.p a.q a.x a.y w2 w3 hF).mono ?_
        rintro e w4 ⟨rfl, hF4⟩
        rw [show min a.p a.x = a.p by omega, show min a.q a.y = a.q by omega, show max a.p a.x = a.x by omega, show max a.q a.y = a.y by omega] at hF4
        clear hF
        have hb4 : Below wr.heap.size wr w4 := hb2.trans (hF4.below.mono hb2.size)
        have hgr4 := grownBy_below hgr hb4
        have hfar : FarCol w4 (W + 1) (W + 3) (3000 * k) fb (fun c => cols (iareas (I.take k)) c ++ part a a.p a.q c) :=
          ((hcol.keep hb2).far hF4.fresh hF4.below).eq (by rw [part_start]; funext c; simp) (Nat.le_refl _)
        have hbox4 := (hb4.cell (p := ⟨W, 0, none⟩) (show W < wr.heap.size by omega)).trans hbox
        have hquad : Quad w4 fb a := ⟨hF4.old, hF4.c0, hF4.c1, hF4.c2, hF4.c3⟩
        have hfb : W + 3 ≤ fb := by
          have := hF4.fresh
          have := hb2.size
          omega
        clear hb4 hF4 hb2 hcol hgr hbox hword i0' i1' hws w2 w3
        have HGR := Lib.hid hgr4
        have HFAR := Lib.hid hfar
        have HQ := Lib.hid hquad
        have q0 := hquad.c0
        clear hgr4 hfar hquad hA
        go_wp2_with fail
        clear q0
        go_loopw [10] (fun cc wr => ∃ z : Int, cc = .int .i64 z ∧ a.p ≤ z ∧ z ≤ a.x + 1 ∧ w1.grownBy wr (some (W + 1)) ∧ FarCol wr (W + 1) (W + 3) (3000 * k + 100 * (z - a.p).toNat) fb (fun c => cols (iareas (I.take k)) c ++ part a z a.q c) ∧ Quad wr fb a) (fun cc _ => (a.x + 1 - intOf cc).toNat)
        case atStart => exact ⟨a.p, rfl, by omega, by omega, HGR.out, HFAR.out.eq rfl (by omega), HQ.out⟩
        clear HGR HFAR HQ hbox4 w4
        case round =>
          obtain ⟨z, rfl, hz1', hz2', hgr, hfar, hquad⟩ := hrel
          have q2 := hquad.c2
          by_cases hzx : z ≤ a.x
          · have q1 := hquad.c1
            have HGR := Lib.hid hgr
            have HFAR := Lib.hid hfar
            have HQ := Lib.hid hquad
            clear hgr hfar hquad
            go_wp2_with fail
            clear q1 q2
            go_loopw [11] (fun rr wr => ∃ y : Int, rr = .int .i64 y ∧ a.q ≤ y ∧ y ≤ a.y + 1 ∧ w1.grownBy wr (some (W + 1)) ∧ FarCol wr (W + 1) (W + 3) (3000 * k + 100 * (z - a.p).toNat + (y - a.q).toNat) fb (fun c => cols (iareas (I.take k)) c ++ part a z y c) ∧ Quad wr fb a) (fun rr _ => (a.y + 1 - intOf rr).toNat)
            case atStart => exact ⟨a.q, rfl, by omega, by omega, HGR.out, HFAR.out.eq rfl (by omega), HQ.out⟩
            clear HGR HFAR HQ
            case round =>
              obtain ⟨y, rfl, hy1, hy2, hgr, hfar, hquad⟩ := hrel
              have q3 := hquad.c3
              by_cases hyy : y ≤ a.y
              · obtain ⟨n, D, V, G, hg, hn, hfst, hne⟩ := hfar
                have hws := hgr.size
                have hbase : W + 3 ≤ wr.heap.size := by omega
                have hwf : (ik z).wf = true := WalkArith.wf_i64 (by omega)
                have hA := HA0.out
                have hbox := (grownBy_cell (i := 0) hgr (show W < w1.heap.size by omega) (by omega)).trans hA.box
                have hlen := hg.len z
                -- the worlds that the region passes through
                have hbA : Below wr.heap.size wr (wr.alloc (.cells #[.int .i64 z, .int .i64 y] 3)).drew := ((Below.refl _ _).alloc (Nat.le_refl _) _).drew
                have hbB : Below wr.heap.size wr ((wr.alloc (.cells #[.int .i64 z, .int .i64 y] 3)).alloc (.cells #[pairV wr.heap.size] 32)).drew := (((Below.refl _ _).alloc (Nat.le_refl _) _).alloc (by simp) _).drew
                have hgB := hg.keep hbB
                have hnews : ∀ j u, [pairV wr.heap.size][j]? = some u → ((wr.alloc (.cells #[.int .i64 z, .int .i64 y] 3)).alloc (.cells #[pairV wr.heap.size] 32)).drew.cell? ((⟨wr.heap.size + 1, 0, none⟩ : Addr).add j) = some u := by
                  intro j u hj
                  rcases j with _ | j
                  · simp at hj
                    subst hj
                    simp [go_sem, Addr.add]
                  · simp at hj
                obtain ⟨v', w3, happ, hown3, hgr3, _, hloc⟩ := run_append_own_at (P := Tryz.prog) ((wr.alloc (.cells #[.int .i64 z, .int .i64 y] 3)).alloc (.cells #[pairV wr.heap.size] 32)).drew (W + 3) 57 57 32 i0 _ 1 24 Tryz.underlying57 hi hz0 hz1 hz2 rfl (by decide) (V z) (G z).length _ (hgB.rows z) ⟨wr.heap.size + 1, 0, none⟩ 1 1 [pairV wr.heap.size] rfl hnews (fun u hu => by simp at hu; subst hu; rfl) (by unfold maxLen; omega) (by omega) (by simp; omega)
                have ownA : (wr.alloc (.cells #[.int .i64 z, .int .i64 y] 3)).drew.ownsMap Tryz.prog 3 held (W + 1) n D := (hg.keep hbA).own
                have ownB := hgB.own
                have own3 : w3.ownsMap Tryz.prog 3 held (W + 1) n D := ownB.kept hgr3 (fun e => by
                  have h := ((hgB.rows z).lt (W + 1) e.symm).1
                  omega)
                obtain ⟨w4, hupd, own4, hgr4⟩ := own3.update colKeyed Tryz.underlying43 (by unfold maxLen; omega) (val := v') (d := .held v') (ps := []) (colKey hwf) rfl
                have hat := hg.at_ z hwf
                have look0 := hg.look hwf
                have lookA := look_own ownA hwf hat
                have lookB := look_own ownB hwf hat
                have look3 := look_own own3 hwf hat
                have cellA := (hbA.cell (p := ⟨W, 0, none⟩) (show W < wr.heap.size by omega)).trans hbox
                have cellB := (hbB.cell (p := ⟨W, 0, none⟩) (show W < wr.heap.size by omega)).trans hbox
                have ltB : wr.heap.size + 2 = ((wr.alloc (.cells #[.int .i64 z, .int .i64 y] 3)).alloc (.cells #[pairV wr.heap.size] 32)).drew.heap.size := by simp
                have cell3 : w3.cell? ⟨W, 0, none⟩ = some (.map (some (W + 1))) := (World.cell?_of_block (w := ((wr.alloc (.cells #[.int .i64 z, .int .i64 y] 3)).alloc (.cells #[pairV wr.heap.size] 32)).drew) (a := ⟨W, 0, none⟩) (hgr3.block W (by omega) (fun e => by
                  have h := ((hgB.rows z).lt W e.symm).1
                  omega))).trans cellB
                have hS0 : wr.drew.cell? ⟨W, 0, none⟩ = some (.map (some (W + 1))) ∧ (Instr.lookup 43 (.map (some (W + 1))) (.int .i64 z) false).run Tryz.prog wr.drew = .ok (V z) wr.drew := ⟨hbox, look_own (show wr.drew.ownsMap Tryz.prog 3 held (W + 1) n D from hg.own) hwf hat⟩
                go_wp2_with fail
                refine wp_region_late (List.replicate 11 false) [true, true, true, true, true, true, true, false, false, false, false] (S := fun w' => w'.cell? ⟨W, 0, none⟩ = some (.map (some (W + 1))) ∧ (Instr.lookup 43 (.map (some (W + 1))) (.int .i64 z) false).run Tryz.prog w' = .ok (V z) w') (by kernel_rfl) (by kernel_rfl) (by kernel_rfl) (fun d _ _ _ _ h => by cases d <;> exact h) hS0 ?_
                simp only [List.replicate, swaps]
                iterate 7
                  refine seqT_take (v := ?_) (by rfl) ?_ ?_
                  rotate_left
                  · intro w' hSw
                    obtain ⟨s0, s1⟩ := hSw
                    go_simp
                    try (with_reducible rfl)
                  try simp only [Act.put, List.setIfInBounds_toArray, List.set_cons_zero, List.set_cons_succ]
                refine seqT_solo (by rfl) (fun K hK => ?_)
                go_simp
                refine hK.out _ _ (fun _ => ⟨cellA, lookA⟩) ?_
                clear hK K
                try simp only [Act.put, List.setIfInBounds_toArray, List.set_cons_zero, List.set_cons_succ]
                refine seqT_solo (by rfl) (fun K hK => ?_)
                go_simp
                refine hK.out _ _ (fun _ => ⟨cellB, lookB⟩) ?_
                clear hK K
                try simp only [Act.put, List.setIfInBounds_toArray, List.set_cons_zero, List.set_cons_succ]
                refine seqT_solo (by rfl) (fun K hK => ?_)
                refine wp_append _ _ _ (by rfl) (by rfl) (by rfl) happ ?_
                refine hK.out _ _ (fun _ => ⟨cell3, look3⟩) ?_
                clear hK K
                try simp only [Act.put, List.setIfInBounds_toArray, List.set_cons_zero, List.set_cons_succ]
                refine seqT_solo (by rfl) (fun K hK => ?_)
                refine wp_mapUpdate _ _ _ _ (by rfl) (by rfl) (by rfl) (by rfl) hupd ?_
                refine hK.out _ _ (fun h => absurd rfl h) ?_
                clear hK K
                refine seqT_done ?_
                have hgrB := grownBy_below hgr hbB
                have hgr4' : w1.grownBy w4 (some (W + 1)) := (hgrB.andThen hgr3 (fun j hj => .inl (by
                  have h := ((hgB.rows z).lt j hj).1
                  omega))).andThen hgr4 (fun j hj => .inr hj)
                have hG4 := hg.push (by omega) hbase hwf hown3 ⟨hgr3.os, hgr3.tape, hgr3.output, hgr3.size, hgr3.block⟩ (hloc.imp id (fun h => by rw [h]; simp)) own4 hgr4
                have hs3 := hgr3.size
                have hs4 := hgr4.size
                have hfbl := hquad.lt
                have hsame : Same wr w4 fb := Eq.trans (hgr4.block fb (by omega) (fun e => by cases e; omega)) ((hgr3.block fb (by omega) (fun e => hne z e.symm)).trans (hbB.block fb hfbl))
                have hquad4 := hquad.same hsame (by omega)
                have hfar4 : FarCol w4 (W + 1) (W + 3) (3000 * k + 100 * (z - a.p).toNat + (y + 1 - a.q).toNat) fb (fun c => cols (iareas (I.take k)) c ++ part a z (y + 1) c) := by
                  refine FarCol.eq ⟨_, _, _, _, hG4, Nat.le_refl _, upd_fst hfst z y _, fun c => ?_⟩ (part_at _ hy1 z) (by omega)
                  by_cases hcz : c = z
                  · subst hcz
                    rw [upd_same]
                    rcases hloc with h | h
                    · rw [h]
                      exact hne c
                    · rw [h]
                      intro e
                      simp at e
                      omega
                  · rw [upd_other _ _ hcz]
                    exact hne c
                have HGR := Lib.hid hgr4'
                have HFAR := Lib.hid hfar4
                have HQ := Lib.hid hquad4
                clear hgr hg hn hfst hne hws hbase hwf hA hbox hlen hbA hbB hgB hnews happ hown3 hgr3 hloc ownA ownB own3 hupd own4 hgr4 hat look0 lookA lookB look3 cellA cellB ltB cell3 hS0 hgrB hgr4' hG4 hs3 hs4 hfbl hsame hquad4 hfar4 hquad q3
                go_wp2
                go_roundw
                case rel => exact ⟨y + 1, by go_num, by omega, by omega, HGR.out, HFAR.out, HQ.out⟩
                case measure => simp [intOf]; omega
              · obtain rfl : y = a.y + 1 := by omega
                have hfar' := hfar.eq (N' := 3000 * k + 100 * (z + 1 - a.p).toNat) (F' := fun c => cols (iareas (I.take k)) c ++ part a (z + 1) a.q c) (by rw [part_col hz1']) (by omega)
                clear hfar
                go_wp2
                go_roundw
                case rel => exact ⟨z + 1, by go_num, by omega, by omega, hgr, hfar', hquad⟩
                case measure => simp [intOf]; omega
          · obtain rfl : z = a.x + 1 := by omega
            have hcol' : Col wr (W + 1) (W + 3) (3000 * (k + 1)) (cols (iareas (I.take (k + 1)))) := hfar.col.eq (by rw [part_end]; funext c; rw [HCT.out]) (by omega)
            clear hfar hquad
            go_wp2
            go_roundw
            case rel => exact ⟨k + 1, by omega, rfl, by go_num, hgr, hcol'⟩
            case measure => simp [intOf]; omega
      · have CG := fun w => cell_any ⟨t.toArray⟩ n0 a.p a.q w hcell
        simp only at hp ex ey
        rw [hp] at SP
        clear hp hcell
        go_wp2_with fail
        refine (SP _).mono ?_
        rintro e w2 ⟨A2, m2, c2, rfl, hO2, hb2⟩
        obtain rfl : m2 = 1 := hO2.len
        obtain ⟨g2, rfl, hg2, hc2⟩ := hO2.reads (by simp)
        have c20 := hc2 0 t rfl
        clear hO2 SP hc2
        go_wp2_with fail
        refine (CG _).mono ?_
        rintro e wc ⟨rfl, hb3⟩
        clear CG c20
        have hb4 : Below wr.heap.size wr wc := hb2.trans (hb3.mono hb2.size)
        have hgr := grownBy_below hgr hb4
        have hcol4 := hcol.keep hb4
        have hbox := (hb4.cell (p := ⟨W, 0, none⟩) (show W < wr.heap.size by omega)).trans hbox
        clear hb4 hb2 hb3 hcol hword i0' i1' hws hg2
        obtain ⟨n, D, V, G, hg, hn, hfst⟩ := hcol4
        have hws := hgr.size
        have hA := HA0.out
        have hsz := hA.size
        have hbase : W + 3 ≤ wc.heap.size := by omega
        have hwf : (ik a.p).wf = true := WalkArith.wf_i64 (by omega)
        have hlen := hg.len a.p
        -- the worlds that the region passes through
        have hbA : Below wc.heap.size wc (wc.alloc (.cells #[.int .i64 a.p, .int .i64 a.q] 3)).drew := ((Below.refl _ _).alloc (Nat.le_refl _) _).drew
        have hbB : Below wc.heap.size wc ((wc.alloc (.cells #[.int .i64 a.p, .int .i64 a.q] 3)).alloc (.cells #[pairV wc.heap.size] 32)).drew := (((Below.refl _ _).alloc (Nat.le_refl _) _).alloc (by simp) _).drew
        have hgB := hg.keep hbB
        have hnews : ∀ j u, [pairV wc.heap.size][j]? = some u → ((wc.alloc (.cells #[.int .i64 a.p, .int .i64 a.q] 3)).alloc (.cells #[pairV wc.heap.size] 32)).drew.cell? ((⟨wc.heap.size + 1, 0, none⟩ : Addr).add j) = some u := by
          intro j u hj
          rcases j with _ | j
          · simp at hj
            subst hj
            simp [go_sem, Addr.add]
          · simp at hj
        obtain ⟨v', w3, happ, hown3, hgr3, _, hloc⟩ := run_append_own_at (P := Tryz.prog) ((wc.alloc (.cells #[.int .i64 a.p, .int .i64 a.q] 3)).alloc (.cells #[pairV wc.heap.size] 32)).drew (W + 3) 57 57 32 i0 _ 1 24 Tryz.underlying57 hi hz0 hz1 hz2 rfl (by decide) (V a.p) (G a.p).length _ (hgB.rows a.p) ⟨wc.heap.size + 1, 0, none⟩ 1 1 [pairV wc.heap.size] rfl hnews (fun u hu => by simp at hu; subst hu; rfl) (by unfold maxLen; omega) (by omega) (by simp; omega)
        have ownA : (wc.alloc (.cells #[.int .i64 a.p, .int .i64 a.q] 3)).drew.ownsMap Tryz.prog 3 held (W + 1) n D := (hg.keep hbA).own
        have ownB := hgB.own
        have own3 : w3.ownsMap Tryz.prog 3 held (W + 1) n D := ownB.kept hgr3 (fun e => by
          have h := ((hgB.rows a.p).lt (W + 1) e.symm).1
          omega)
        obtain ⟨w4, hupd, own4, hgr4⟩ := own3.update colKeyed Tryz.underlying43 (by unfold maxLen; omega) (val := v') (d := .held v') (ps := []) (colKey hwf) rfl
        have hat := hg.at_ a.p hwf
        have look0 := hg.look hwf
        have lookA := look_own ownA hwf hat
        have lookB := look_own ownB hwf hat
        have look3 := look_own own3 hwf hat
        have cellA := (hbA.cell (p := ⟨W, 0, none⟩) (show W < wc.heap.size by omega)).trans hbox
        have cellB := (hbB.cell (p := ⟨W, 0, none⟩) (show W < wc.heap.size by omega)).trans hbox
        have ltB : wc.heap.size + 2 = ((wc.alloc (.cells #[.int .i64 a.p, .int .i64 a.q] 3)).alloc (.cells #[pairV wc.heap.size] 32)).drew.heap.size := by simp
        have cell3 : w3.cell? ⟨W, 0, none⟩ = some (.map (some (W + 1))) := (World.cell?_of_block (w := ((wc.alloc (.cells #[.int .i64 a.p, .int .i64 a.q] 3)).alloc (.cells #[pairV wc.heap.size] 32)).drew) (a := ⟨W, 0, none⟩) (hgr3.block W (by omega) (fun e => by
          have h := ((hgB.rows a.p).lt W e.symm).1
          omega))).trans cellB
        have hS0 : wc.drew.cell? ⟨W, 0, none⟩ = some (.map (some (W + 1))) ∧ (Instr.lookup 43 (.map (some (W + 1))) (.int .i64 a.p) false).run Tryz.prog wc.drew = .ok (V a.p) wc.drew := ⟨hbox, look_own (show wc.drew.ownsMap Tryz.prog 3 held (W + 1) n D from hg.own) hwf hat⟩
        go_wp2_with fail
        refine wp_region_late (List.replicate 11 false) [true, true, true, true, true, true, true, false, false, false, false] (S := fun w' => w'.cell? ⟨W, 0, none⟩ = some (.map (some (W + 1))) ∧ (Instr.lookup 43 (.map (some (W + 1))) (.int .i64 a.p) false).run Tryz.prog w' = .ok (V a.p) w') (by kernel_rfl) (by kernel_rfl) (by kernel_rfl) (fun d _ _ _ _ h => by cases d <;> exact h) hS0 ?_
        simp only [List.replicate, swaps]
        iterate 7
          refine seqT_take (v := ?_) (by rfl) ?_ ?_
          rotate_left
          · intro w' hSw
            obtain ⟨s0, s1⟩ := hSw
            go_simp
            try (with_reducible rfl)
          try simp only [Act.put, List.setIfInBounds_toArray, List.set_cons_zero, List.set_cons_succ]
        refine seqT_solo (by rfl) (fun K hK => ?_)
        go_simp
        refine hK.out _ _ (fun _ => ⟨cellA, lookA⟩) ?_
        clear hK K
        try simp only [Act.put, List.setIfInBounds_toArray, List.set_cons_zero, List.set_cons_succ]
        refine seqT_solo (by rfl) (fun K hK => ?_)
        go_simp
        refine hK.out _ _ (fun _ => ⟨cellB, lookB⟩) ?_
        clear hK K
        try simp only [Act.put, List.setIfInBounds_toArray, List.set_cons_zero, List.set_cons_succ]
        refine seqT_solo (by rfl) (fun K hK => ?_)
        refine wp_append _ _ _ (by rfl) (by rfl) (by rfl) happ ?_
        refine hK.out _ _ (fun _ => ⟨cell3, look3⟩) ?_
        clear hK K
        try simp only [Act.put, List.setIfInBounds_toArray, List.set_cons_zero, List.set_cons_succ]
        refine seqT_solo (by rfl) (fun K hK => ?_)
        refine wp_mapUpdate _ _ _ _ (by rfl) (by rfl) (by rfl) (by rfl) hupd ?_
        refine hK.out _ _ (fun h => absurd rfl h) ?_
        clear hK K
        refine seqT_done ?_
        have hgrB := grownBy_below hgr hbB
        have hgr4' : w1.grownBy w4 (some (W + 1)) := (hgrB.andThen hgr3 (fun j hj => .inl (by
          have h := ((hgB.rows a.p).lt j hj).1
          omega))).andThen hgr4 (fun j hj => .inr hj)
        have hG4 := hg.push (by omega) hbase hwf hown3 ⟨hgr3.os, hgr3.tape, hgr3.output, hgr3.size, hgr3.block⟩ (hloc.imp id (fun h => by rw [h]; simp)) own4 hgr4
        have hcolN : Col w4 (W + 1) (W + 3) (3000 * (k + 1)) (cols (iareas (I.take (k + 1)))) := by
          refine Col.eq ⟨_, _, _, _, hG4, Nat.le_refl _, upd_fst hfst a.p a.q _⟩ ?_ (by omega)
          rw [upd_one _ a ex ey]
          funext c
          rw [HCT.out]
        have HGR := Lib.hid hgr4'
        have HCN := Lib.hid hcolN
        clear hgr hg hn hfst hws hbase hwf hA hbox hlen hbA hbB hgB hnews happ hown3 hgr3 hloc ownA ownB own3 hupd own4 hgr4 hat look0 lookA lookB look3 cellA cellB ltB cell3 hS0 hgrB hgr4' hG4 hcolN
        go_wp2
        go_roundw
        case rel => exact ⟨k + 1, by omega, rfl, by go_num, HGR.out, HCN.out⟩
        case measure => simp [intOf]; omega
    · obtain rfl : k = I.length := by omega
      rw [List.take_length] at hcol
      have hA := HA0.out
      have hsz := hA.size
      have hbox := (grownBy_cell (i := 0) hgr (show W < w1.heap.size by omega) (by omega)).trans hA.box
      obtain ⟨n, D, V, G, hG, hn, hfst⟩ := hcol
      have hws := hgr.size
      go_wp2_with (at_range; refine wpList_range_own _ rfl _ 43 rfl 3 57 colKeyed Tryz.underlying43 held (W + 1) n D rfl hG.own ?_; intro w0 hrg0 hg0 hs0; go_frame)
      have hgF := grownBy_below hgr (show Below wr.heap.size wr w0 from ⟨hg0.os, hg0.tape, hg0.output, hg0.size, fun k hk => hg0.block k hk (by simp)⟩)
      have hGF := hG.keep (show Below wr.heap.size wr w0 from ⟨hg0.os, hg0.tape, hg0.output, hg0.size, fun k hk => hg0.block k hk (by simp)⟩)
      have hst : ∀ c, (ik c).wf = true → has D (ik c) = false → (G c).Pairwise (fun p q => p.1 ≤ q.1) := by
        intro c hc hh
        have := hG.has c hc
        rw [hh] at this
        cases hgc : G c with
        | nil => exact List.Pairwise.nil
        | cons _ _ => rw [hgc] at this; simp at this
      have hpm : ∀ c, ((G c).map Prod.fst).Perm (cols (iareas I) c) := fun c => by rw [hfst c]
      generalize hR : wr.heap.size = R at *
      have HP := Lib.hid hpm
      have HST := Lib.hid hst
      have HGF := Lib.hid hGF
      have HgF := Lib.hid hgF
      clear hpm hst hGF hgF hfst hG hg0 hbox hA hgr HC0 hk hlt
      go_loopw [12] (fun _ wq => ∃ (left : Lit → Bool) (cnt : Nat) (G' : Int → List (Int × Nat)), wq.ranges Tryz.prog 3 held (W + 1) R n D left cnt ∧ Grp wq (W + 1) (W + 3) n D V G' ∧ (∀ c, ((G' c).map Prod.fst).Perm (cols (iareas I) c)) ∧ (∀ c, (ik c).wf = true → left (ik c) = false → (G' c).Pairwise (fun p q => p.1 ≤ q.1)) ∧ w1.grownBy wq (some (W + 1))) (fun _ wq => wq.rangeLeft (W + 1) R)
      case atStart => exact ⟨_, _, G, hrg0, HGF.out, HP.out, HST.out, HgF.out⟩
      clear HP HST HGF HgF hrg0 hs0
      case round =>
        obtain ⟨left, cnt, G', hrg, hG, hpm, hst, hgr⟩ := hrel
        go_wp2_with (at_next; refine wpList_next_ranges _ rfl _ rfl 3 colKeyed held (Value.int .i64) id (fun key kl hkey => by obtain ⟨x, rfl, _⟩ := Maps.keyOf_int_inv Tryz.underlying3 hkey; exact ⟨x, rfl⟩) (fun v y hv => ⟨v, rfl⟩) (W + 1) R n D left cnt rfl hrg ?_ ?_)
        · intro _ hl0
          have hend : Rise wr (W + 1) (W + 3) 75000 (cols (iareas I)) := ⟨n, D, V, G', hG, by omega, fun c hc => ⟨hpm c, hst c hc (hl0 _)⟩⟩
          have hbox := (grownBy_cell (i := 0) hgr (show W < w1.heap.size by omega) (by omega)).trans HA0.out.box
          have hbel : Below w.heap.size w wr := by
            have hb1 := HA0.out.below
            exact hb1.grown hgr hb1.size (fun j hj => by cases hj; omega)
          have hsz' := hgr.size
          clear hrg hG hpm hst hgr
          go_wp2
          (try simp only [Exit.inBlock, Exit.then])
          refine bodyPost_ret ?_ rfl (show IFlatPost w (iareas I) (.returned (.tuple #[.map (some (W + 1)), .nilIface])) wr from ?_)
          · rw [results_cell_tmp rfl]
            go_simp
          · exact ⟨W + 1, W + 3, 75000, rfl, by omega, by omega, by omega, by omega, hend, hbel⟩
        · intro x v kl y ps wn cnt1 hkx hlx hvy hat hrg1 hlt hg1 hs1 hen
          obtain ⟨x', ex, rfl, hwf⟩ := Maps.keyOf_int_inv Tryz.underlying3 hkx
          obtain rfl : x = x' := by injection ex
          have hvV : v = V x := by
            have h1 := hG.at_ x hwf
            have h2 := hat (.held nilS)
            simp only [held, Option.some.injEq, Prod.mk.injEq] at hvy
            rw [← hvy.1] at h2
            exact (DataW.held.inj (h2.symm.trans h1))
          subst hvV
          have hne : G' x ≠ [] := by
            have h1 := hG.has x hwf
            rw [show has D (ik x) = true from has_true_of_atKey hat] at h1
            intro e
            rw [e] at h1
            simp at h1
          have hG1 := hG.iter hrg hg1
          have hgr1 : w1.grownBy wn (some (W + 1)) := hgr.andThen hg1 (fun j hj => by cases hj; exact .inl hws)
          have hsz' := hgr.size
          have hboxn := (grownBy_cell (i := 0) hgr1 (show W < w1.heap.size by omega) (by omega)).trans HA0.out.box
          have hlook := hG1.look hwf
          have hb2 : Below wn.heap.size wn (wn.alloc (.cells #[.int .i64 x] 3)) := (Below.refl _ _).alloc (Nat.le_refl _) _
          have hG2 := hG1.keep hb2
          have hlook2 := hG2.look hwf
          have hbox2 := (hb2.cell (p := ⟨W, 0, none⟩) (show W < wn.heap.size by omega)).trans hboxn
          have hlen := hG.len x
          have hCt : Tag (wn.alloc (.cells #[.int .i64 x] 3)) wr.heap.size 3 := Tag.made wn _ _ _ hs1.symm
          have hCc : (wn.alloc (.cells #[.int .i64 x] 3)).cell? ⟨wr.heap.size, 0, none⟩ = some (.int .i64 x) := by
            rw [← hs1]
            simp [go_sem]
          have hrg2 := hrg1.alloc (.cells #[.int .i64 x] 3)
          have hgr2 := grownBy_below hgr1 hb2
          clear hkx hvy hG1 hgr1 hg1
          go_wp2_with fail
          refine (sort_col (W := W) (C := wr.heap.size) hG2 (by omega) hwf hne (by omega) hbox2 (by omega) (by have := hb2.size; omega) hCc hCt).mono ?_
          rintro e w3 ⟨rfl, X, hXp, hXs, hG3, hg3⟩
          have hrg3 := hrg2.kept hg3 (fun e => by have := ((hG2.rows x).lt (W + 1) e.symm).1; omega) (hG2.far_iter hrg2 x)
          have hgr3 : w1.grownBy w3 (some (W + 1)) := hgr2.andThen hg3 (fun j hj => .inl (by have := ((hG2.rows x).lt j hj).1; omega))
          have hpm3 : ∀ c, ((upd G' x X c).map Prod.fst).Perm (cols (iareas I) c) := by
            intro c
            by_cases hc : c = x
            · subst hc
              rw [upd_same]
              exact (hXp.map _).trans (hpm c)
            · rw [upd_other _ _ hc]
              exact hpm c
          have hst3 : ∀ c, (ik c).wf = true → (left (ik c) && !(ik c).sameKey (.int .i64 x)) = false → (upd G' x X c).Pairwise (fun p q => p.1 ≤ q.1) := by
            intro c hcw hl
            by_cases hc : c = x
            · subst hc
              rw [upd_same]
              exact hXs
            · rw [upd_other _ _ hc]
              refine hst c hcw ?_
              have : (ik c).sameKey (.int .i64 x) = false := sameKey_ne (ik_ne hc)
              rw [this] at hl
              simpa using hl
          clear hrg2 hgr2 hG2 hbox2 hlook2 hlook hen hCt hCc hb2 hpm hst hboxn hat
          go_wp2
          go_roundw
          case rel => exact ⟨_, cnt1, _, hrg3, hG3, hpm3, hst3, hgr3⟩
          case measure => rw [hrg3.left_eq, hrg.left_eq]; exact hlt

def IDoorPost (w : World) (M : List Ar) (e : Ending) (w' : World) : Prop := ∃ (b base N : Nat), e = .returned (.tuple #[.map (some b), .bool true]) ∧ w.heap.size ≤ b ∧ b < base ∧ N ≤ 75000 ∧ base ≤ w'.heap.size ∧ Rise w' b base N (cols M) ∧ Below w.heap.size w w'

set_option maxHeartbeats 1600000 in
set_option maxRecDepth 100000 in
theorem idoor_flat (I : List Item) (w : World) (hn2 : I.length ≤ 25) (hG : ∀ i ∈ I, i.Ok) (htab : Lib.TabIs Tryz.prog w "strings.asciiSpace" .u8 Lib.asciiSpaceTab) :
    Calls Tryz.prog 17 #[.string ⟨(joined (itexts I)).toArray⟩] w (IDoorPost w (iareas I)) := by
  have FA := iflat_any I w hn2 hG htab
  go_enter Tryz.func17, Tryz.ntmps17
  go_wp2_with fail
  refine FA.mono ?_
  rintro e w1 ⟨b, base, N, rfl, h1, h2, h3, h4, h5, h6⟩
  go_wp2_with fail
  go_quiet (fail)
  go_wp2
  go_ret2
  have hb := below_drewN w1 nq
  exact ⟨b, base, N, rfl, h1, h2, h3, Nat.le_trans h4 hb.size, h5.keep hb, h6.trans (hb.mono h6.size)⟩

set_option maxHeartbeats 1600000 in
set_option maxRecDepth 100000 in
theorem iimpl_flat (I : List Item) (w : World) (hn2 : I.length ≤ 25) (hG : ∀ i ∈ I, i.Ok) (htab : Lib.TabIs Tryz.prog w "strings.asciiSpace" .u8 Lib.asciiSpaceTab) :
    Calls Tryz.prog 6 #[.string ⟨(joined (itexts I)).toArray⟩] w (FlatColsPost w (iareas I)) := by
  have DF := idoor_flat I w hn2 hG htab
  go_enter Tryz.func6, Tryz.ntmps6
  go_wp2_with fail
  refine DF.mono ?_
  rintro e w1 ⟨b, base, N, rfl, h1, h2, h3, h4, ⟨n, D, V, G, hGr, hn, hr⟩, h6⟩
  go_wp2_with fail
  refine (cols_any w1 hGr (by omega)).mono ?_
  rintro e w2 ⟨v, K, rfl, hC, hk1, hk2, hk3, hb2⟩
  have hs := h6.size
  obtain ⟨A, c, rfl⟩ := own_slice hC.own
  go_wp2
  go_ret2
  exact ⟨_, K, _, rfl, ⟨own_lower hC.own hs, fun p hp => own_lower (hC.rows p hp) hs, hC.nodup⟩, fun c hc => ⟨(hr c hc).1, by rw [List.pairwise_map]; exact (hr c hc).2⟩, hk1, hk2, hk3, h6.trans (hb2.mono hs)⟩
end Go.Proofs.YtokooampmhcfeaaGreatDoor.Rg
