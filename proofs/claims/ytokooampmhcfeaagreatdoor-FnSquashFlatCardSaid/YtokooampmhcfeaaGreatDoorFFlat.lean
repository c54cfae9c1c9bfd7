/- The package's map of columns, as it is filled. -/
import Derived.Test.YtokooampmhcfeaaGreatDoorFSort
import Derived.Test.YtokooampmhcfeaaGreatDoorFPlan
import Derived.Test.YtokooampmhcfeaaGreatDoorFText
import Derived.Test.YtokooampmhcfeaaGreatDoorFWords
import Derived.Test.YtokooampmhcfeaaGreatDoorShelf
import Derived.Laws.ResultCell
namespace Go.Proofs.YtokooampmhcfeaaGreatDoor.Rg
open Go.RowKit Go.Maps

theorem infoRow : (Tryz.prog.info? 32).map (fun i => (i.zero, i.size, i.bytes)) = some (some (.slice none 0 0), 1, 24) := by kernel_rfl

def FlatPost (w : World) (L : List Ar) (e : Ending) (w' : World) : Prop := ∃ (b base N : Nat), e = .returned (.tuple #[.map (some b), .nilIface]) ∧ w.heap.size ≤ b ∧ b < base ∧ N ≤ 9000 ∧ base ≤ w'.heap.size ∧ Rise w' b base N (cols L) ∧ Below w.heap.size w w'

/-- Where the loops stand: the box of the map, the words, and what the call has made. -/
structure At0 (w w1 : World) (W : Nat) (T : List (List UInt8)) : Prop where
  size : w1.heap.size = W + 3
  box : w1.cell? ⟨W, 0, none⟩ = some (.map (some (W + 1)))
  word : ∀ (k : Nat) t, T[k]? = some t → w1.cell? ⟨W + 2, k, none⟩ = some (.string ⟨t.toArray⟩)
  below : Below w.heap.size w w1

theorem At0.made (w : World) (T : List (List UInt8)) :
    At0 w (((w.alloc (.cells #[.map (some (w.heap.size + 1))] 43)).alloc (.map #[] 0)).alloc (.cells (T.map fun l => Value.string ⟨l.toArray⟩).toArray 9)) w.heap.size T := by
  refine ⟨by simp, ?_, fun k t ht => ?_, (((Below.refl _ _).alloc (Nat.le_refl _) _).alloc (by simp) _).alloc (by simp; omega) _⟩
  · simp [go_sem]
  · simp [go_sem, ht]

theorem grownBy_cell {w w' : World} {b g i : Nat} (h : w.grownBy w' (some b)) (hg : g < w.heap.size) (hne : g ≠ b) : w'.cell? ⟨g, i, none⟩ = w.cell? ⟨g, i, none⟩ :=
  World.cell?_of_block (w := w) (a := ⟨g, i, none⟩) (h.block g hg (fun e => hne (by cases e; rfl)))

theorem grownBy_drew {w w' : World} {row : Option Nat} (h : w.grownBy w' row) : w.grownBy w'.drew row := ⟨h.os, h.tape, h.output, h.size, h.block⟩
theorem grownBy_below {w w1 w2 : World} {row : Option Nat} (h : w.grownBy w1 row) (hb : Below w1.heap.size w1 w2) : w.grownBy w2 row :=
  ⟨hb.os.trans h.os, hb.tape.trans h.tape, hb.output.trans h.output, Nat.le_trans h.size hb.size, fun k hk hne => (hb.block k (Nat.lt_of_lt_of_le hk h.size)).trans (h.block k hk hne)⟩

set_option maxHeartbeats 3200000 in
set_option maxRecDepth 100000 in
theorem flat_any (L : List Ar) (w : World) (hn2 : L.length ≤ 5) (hG : ∀ a ∈ L, Good a) (htab : Lib.TabIs Tryz.prog w "strings.asciiSpace" .u8 Lib.asciiSpaceTab) :
    Calls Tryz.prog 26 #[.string ⟨(joined (texts L)).toArray⟩] w (FlatPost w L) := by
  obtain ⟨i0, hi, hz0, hz1, hz2⟩ := info_parts infoRow
  have hmm := @run_makeMap Tryz.prog
  obtain ⟨f1, f2, f3⟩ := areas_fields hG hn2
  have FS := Tryz.strings_Fields_laid ⟨(joined (texts L)).toArray⟩ ((w.alloc (Obj.cells #[Value.map (some (w.heap.size + 1))] 43)).alloc (Obj.map #[] 0))
    (by show (joined (texts L)).toArray.size < 4294967281; simp; omega)
    (fun j u hj => f2 u (by have := List.mem_of_getElem? hj; simpa using this))
    (tab_stays htab (((Below.refl _ _).alloc (Nat.le_refl _) _).alloc (by simp) _))
  have e3 : (⟨(joined (texts L)).toArray⟩ : ByteArray).data.toList = joined (texts L) := by simp
  rw [e3, f3] at FS
  have hTL : (texts L).length = L.length := by unfold texts; rw [List.length_map]
  have hA0 := At0.made w (texts L)
  have hC0 : Col (((w.alloc (.cells #[.map (some (w.heap.size + 1))] 43)).alloc (.map #[] 0)).alloc (.cells ((texts L).map fun l => Value.string ⟨l.toArray⟩).toArray 9)) (w.heap.size + 1) (w.heap.size + 3) 0 (fun _ => []) := by
    have h := (Col.made (w.alloc (.cells #[.map (some (w.heap.size + 1))] 43)) (w.heap.size + 3)).keep (w' := ((w.alloc (.cells #[.map (some (w.heap.size + 1))] 43)).alloc (.map #[] 0)).alloc (.cells ((texts L).map fun l => Value.string ⟨l.toArray⟩).toArray 9)) ((Below.refl _ _).alloc (Nat.le_refl _) _)
    have e : (w.alloc (.cells #[.map (some (w.heap.size + 1))] 43)).heap.size = w.heap.size + 1 := by simp
    rwa [e] at h
  clear htab f1 f2 f3 e3
  have HG := Lib.hid hG
  clear hG
  go_enter Tryz.func26, Tryz.ntmps26
  go_wp2_with fail
  refine FS.mono ?_
  rintro e w1 ⟨rfl, hw1⟩
  rw [← hw1] at hA0 hC0
  clear FS hw1
  have eS : ((w.alloc (Obj.cells #[Value.map (some (w.heap.size + 1))] 43)).alloc (Obj.map #[] 0)).heap.size = w.heap.size + 2 := by simp
  rw [eS, hTL]
  clear eS
  have HA0 := Lib.hid hA0
  have HC0 := Lib.hid hC0
  clear hA0 hC0
  generalize hWW : w.heap.size = W at *
  go_wp2
  go_loopw [3, 17] (fun er i wr => ∃ k : Nat, k ≤ L.length ∧ er = .nilIface ∧ i = .int .i64 k ∧ w1.grownBy wr (some (W + 1)) ∧ Col wr (W + 1) (W + 3) (1800 * k) (cols (L.take k))) (fun _ i _ => L.length - (intOf i).toNat)
  case atStart => exact ⟨0, by omega, rfl, rfl, ⟨rfl, rfl, rfl, Nat.le_refl _, fun _ _ _ => rfl⟩, HC0.out⟩
  case round =>
    obtain ⟨k, hk, rfl, rfl, hgr, hcol⟩ := hrel
    by_cases hlt : k < L.length
    · obtain ⟨a, hka⟩ : ∃ a, L[k]? = some a := ⟨_, List.getElem?_eq_getElem hlt⟩
      have hgood := HG.out a (List.mem_of_getElem? hka)
      have HCT := Lib.hid (fun c => cols_take hka c)
      have hkt : (texts L)[k]? = some a.text := by unfold texts; rw [List.getElem?_map, hka]; rfl
      have hA := HA0.out
      have hsz := hA.size
      have hbox := (grownBy_cell (i := 0) hgr (show W < w1.heap.size by omega) (by omega)).trans hA.box
      have hword := (grownBy_cell (i := k) hgr (show W + 2 < w1.heap.size by omega) (by omega)).trans (hA.word k _ hkt)
      have hl := hgood.text_len
      obtain ⟨s1, s2, hp⟩ := hgood.pieces
      have SP := fun w => split_any ⟨a.text.toArray⟩ 58 w (by show a.text.toArray.size ≤ 1000000; simp; omega)
      have ed : (⟨a.text.toArray⟩ : ByteArray).data.toList = a.text := by simp
      rw [ed, hp] at SP
      have RG := fun w => range_any ⟨a.text.toArray⟩ a.p a.q a.x a.y w hgood.range
      have hpx := hgood.px
      have hqy := hgood.qy
      have hp1 := hgood.p1
      have hq1 := hgood.q1
      have hx30 := hgood.x30
      have hy60 := hgood.y60
      have i0' : (0 : Int) ≤ (k : Int) := by omega
      have i1' : (k : Int) < (L.length : Int) := by omega
      have hws := hgr.size
      clear ed hp hkt hgood hka hl
      go_wp2_with fail
      refine (SP _).mono ?_
      rintro e w2 ⟨A2, m2, c2, rfl, hO2, hb2⟩
      obtain rfl : m2 = 2 := hO2.len
      clear hO2 SP
      go_wp2_with fail
      refine (RG _).mono ?_
      rintro e w3 ⟨fb, rfl, hF⟩
      clear RG
      go_wp2_with fail
      refine (sort_any fb 4 a.p a.q a.x a.y w2 w3 hF).mono ?_
      rintro e w4 ⟨rfl, hF4⟩
      rw [show min a.p a.x = a.p by omega, show min a.q a.y = a.q by omega, show max a.p a.x = a.x by omega, show max a.q a.y = a.y by omega] at hF4
      clear hF
      have hb4 : Below wr.heap.size wr w4 := hb2.trans (hF4.below.mono hb2.size)
      have hgr4 := grownBy_below hgr hb4
      have hfar : FarCol w4 (W + 1) (W + 3) (1800 * k) fb (fun c => cols (L.take k) c ++ part a a.p a.q c) :=
        ((hcol.keep hb2).far hF4.fresh hF4.below).eq (by rw [part_start]; funext c; simp) (Nat.le_refl _)
      have hbox4 := (hb4.cell (p := ⟨W, 0, none⟩) (show W < wr.heap.size by omega)).trans hbox
      have hquad : Quad w4 fb a := ⟨hF4.old, hF4.c0, hF4.c1, hF4.c2, hF4.c3⟩
      have hfb : W + 3 ≤ fb := by
        have := hF4.fresh
        have := hb2.size
        omega
      clear hb4 hF4 hb2 hcol hgr hbox hword i0' i1' hws w2 w3
      have HGR := Lib.hid hgr4
      have HFAR := Lib.hid hfar
      have HQ := Lib.hid hquad
      have q0 := hquad.c0
      clear hgr4 hfar hquad hA
      go_wp2_with fail
      clear q0
      go_loopw [10] (fun cc wr => ∃ z : Int, cc = .int .i64 z ∧ a.p ≤ z ∧ z ≤ a.x + 1 ∧ w1.grownBy wr (some (W + 1)) ∧ FarCol wr (W + 1) (W + 3) (1800 * k + 60 * (z - a.p).toNat) fb (fun c => cols (L.take k) c ++ part a z a.q c) ∧ Quad wr fb a) (fun cc _ => (a.x + 1 - intOf cc).toNat)
      case atStart => exact ⟨a.p, rfl, by omega, by omega, HGR.out, HFAR.out.eq rfl (by omega), HQ.out⟩
      clear HGR HFAR HQ hbox4 w4
      case round =>
        obtain ⟨z, rfl, hz1', hz2', hgr, hfar, hquad⟩ := hrel
        have q2 := hquad.c2
        by_cases hzx : z ≤ a.x
        · have q1 := hquad.c1
          have HGR := Lib.hid hgr
          have HFAR := Lib.hid hfar
          have HQ := Lib.hid hquad
          clear hgr hfar hquad
          go_wp2_with fail
          clear q1 q2
          go_loopw [11] (fun rr wr => ∃ y : Int, rr = .int .i64 y ∧ a.q ≤ y ∧ y ≤ a.y + 1 ∧ w1.grownBy wr (some (W + 1)) ∧ FarCol wr (W + 1) (W + 3) (1800 * k + 60 * (z - a.p).toNat + (y - a.q).toNat) fb (fun c => cols (L.take k) c ++ part a z y c) ∧ Quad wr fb a) (fun rr _ => (a.y + 1 - intOf rr).toNat)
          case atStart => exact ⟨a.q, rfl, by omega, by omega, HGR.out, HFAR.out.eq rfl (by omega), HQ.out⟩
          clear HGR HFAR HQ
          case round =>
            obtain ⟨y, rfl, hy1, hy2, hgr, hfar, hquad⟩ := hrel
            have q3 := hquad.c3
            by_cases hyy : y ≤ a.y
            · obtain ⟨n, D, V, G, hg, hn, hfst, hne⟩ := hfar
              have hws := hgr.size
              have hbase : W + 3 ≤ wr.heap.size := by omega
              have hwf : (ik z).wf = true := WalkArith.wf_i64 (by omega)
              have hA := HA0.out
              have hbox := (grownBy_cell (i := 0) hgr (show W < w1.heap.size by omega) (by omega)).trans hA.box
              have hlen := hg.len z
              -- the worlds that the region passes through
              have hbA : Below wr.heap.size wr (wr.alloc (.cells #[.int .i64 z, .int .i64 y] 3)).drew := ((Below.refl _ _).alloc (Nat.le_refl _) _).drew
              have hbB : Below wr.heap.size wr ((wr.alloc (.cells #[.int .i64 z, .int .i64 y] 3)).alloc (.cells #[pairV wr.heap.size] 32)).drew := (((Below.refl _ _).alloc (Nat.le_refl _) _).alloc (by simp) _).drew
              have hgB := hg.keep hbB
              have hnews : ∀ j u, [pairV wr.heap.size][j]? = some u → ((wr.alloc (.cells #[.int .i64 z, .int .i64 y] 3)).alloc (.cells #[pairV wr.heap.size] 32)).drew.cell? ((⟨wr.heap.size + 1, 0, none⟩ : Addr).add j) = some u := by
                intro j u hj
                rcases j with _ | j
                · simp at hj
                  subst hj
                  simp [go_sem, Addr.add]
                · simp at hj
              obtain ⟨v', w3, happ, hown3, hgr3, _, hloc⟩ := run_append_own_at (P := Tryz.prog) ((wr.alloc (.cells #[.int .i64 z, .int .i64 y] 3)).alloc (.cells #[pairV wr.heap.size] 32)).drew (W + 3) 57 57 32 i0 _ 1 24 Tryz.underlying57 hi hz0 hz1 hz2 rfl (by decide) (V z) (G z).length _ (hgB.rows z) ⟨wr.heap.size + 1, 0, none⟩ 1 1 [pairV wr.heap.size] rfl hnews (fun u hu => by simp at hu; subst hu; rfl) (by unfold maxLen; omega) (by omega) (by simp; omega)
              have ownA : (wr.alloc (.cells #[.int .i64 z, .int .i64 y] 3)).drew.ownsMap Tryz.prog 3 held (W + 1) n D := (hg.keep hbA).own
              have ownB := hgB.own
              have own3 : w3.ownsMap Tryz.prog 3 held (W + 1) n D := ownB.kept hgr3 (fun e => by
                have h := ((hgB.rows z).lt (W + 1) e.symm).1
                omega)
              obtain ⟨w4, hupd, own4, hgr4⟩ := own3.update colKeyed Tryz.underlying43 (by unfold maxLen; omega) (val := v') (d := .held v') (ps := []) (colKey hwf) rfl
              have hat := hg.at_ z hwf
              have look0 := hg.look hwf
              have lookA := look_own ownA hwf hat
              have lookB := look_own ownB hwf hat
              have look3 := look_own own3 hwf hat
              have cellA := (hbA.cell (p := ⟨W, 0, none⟩) (show W < wr.heap.size by omega)).trans hbox
              have cellB := (hbB.cell (p := ⟨W, 0, none⟩) (show W < wr.heap.size by omega)).trans hbox
              have ltB : wr.heap.size + 2 = ((wr.alloc (.cells #[.int .i64 z, .int .i64 y] 3)).alloc (.cells #[pairV wr.heap.size] 32)).drew.heap.size := by simp
              have cell3 : w3.cell? ⟨W, 0, none⟩ = some (.map (some (W + 1))) := (World.cell?_of_block (w := ((wr.alloc (.cells #[.int .i64 z, .int .i64 y] 3)).alloc (.cells #[pairV wr.heap.size] 32)).drew) (a := ⟨W, 0, none⟩) (hgr3.block W (by omega) (fun e => by
                have h := ((hgB.rows z).lt W e.symm).1
                omega))).trans cellB
              have hS0 : wr.drew.cell? ⟨W, 0, none⟩ = some (.map (some (W + 1))) ∧ (Instr.lookup 43 (.map (some (W + 1))) (.int .i64 z) false).run Tryz.prog wr.drew = .ok (V z) wr.drew := ⟨hbox, look_own (show wr.drew.ownsMap Tryz.prog 3 held (W + 1) n D from hg.own) hwf hat⟩
              go_wp2_with fail
              refine wp_region_late (List.replicate 11 false) [true, true, true, true, true, true, true, false, false, false, false] (S := fun w' => w'.cell? ⟨W, 0, none⟩ = some (.map (some (W + 1))) ∧ (Instr.lookup 43 (.map (some (W + 1))) (.int .i64 z) false).run Tryz.prog w' = .ok (V z) w') (by kernel_rfl) (by kernel_rfl) (by kernel_rfl) (fun d _ _ _ _ h => by cases d <;> exact h) hS0 ?_
              simp only [List.replicate, swaps]
              iterate 7
                refine seqT_take (v := ?_) (by rfl) ?_ ?_
                rotate_left
                · intro w' hSw
                  obtain ⟨s0, s1⟩ := hSw
                  go_simp
                  try (with_reducible rfl)
                try simp only [Act.put, List.setIfInBounds_toArray, List.set_cons_zero, List.set_cons_succ]
              refine seqT_solo (by rfl) (fun K hK => ?_)
              go_simp
              refine hK.out _ _ (fun _ => ⟨cellA, lookA⟩) ?_
              clear hK K
              try simp only [Act.put, List.setIfInBounds_toArray, List.set_cons_zero, List.set_cons_succ]
              refine seqT_solo (by rfl) (fun K hK => ?_)
              go_simp
              refine hK.out _ _ (fun _ => ⟨cellB, lookB⟩) ?_
              clear hK K
              try simp only [Act.put, List.setIfInBounds_toArray, List.set_cons_zero, List.set_cons_succ]
              refine seqT_solo (by rfl) (fun K hK => ?_)
              refine wp_append _ _ _ (by rfl) (by rfl) (by rfl) happ ?_
              refine hK.out _ _ (fun _ => ⟨cell3, look3⟩) ?_
              clear hK K
              try simp only [Act.put, List.setIfInBounds_toArray, List.set_cons_zero, List.set_cons_succ]
              refine seqT_solo (by rfl) (fun K hK => ?_)
              refine wp_mapUpdate _ _ _ _ (by rfl) (by rfl) (by rfl) (by rfl) hupd ?_
              refine hK.out _ _ (fun h => absurd rfl h) ?_
              clear hK K
              refine seqT_done ?_
              have hgrB := grownBy_below hgr hbB
              have hgr4' : w1.grownBy w4 (some (W + 1)) := (hgrB.andThen hgr3 (fun j hj => .inl (by
                have h := ((hgB.rows z).lt j hj).1
                omega))).andThen hgr4 (fun j hj => .inr hj)
              have hG4 := hg.push (by omega) hbase hwf hown3 ⟨hgr3.os, hgr3.tape, hgr3.output, hgr3.size, hgr3.block⟩ (hloc.imp id (fun h => by rw [h]; simp)) own4 hgr4
              have hs3 := hgr3.size
              have hs4 := hgr4.size
              have hfbl := hquad.lt
              have hsame : Same wr w4 fb := Eq.trans (hgr4.block fb (by omega) (fun e => by cases e; omega)) ((hgr3.block fb (by omega) (fun e => hne z e.symm)).trans (hbB.block fb hfbl))
              have hquad4 := hquad.same hsame (by omega)
              have hfar4 : FarCol w4 (W + 1) (W + 3) (1800 * k + 60 * (z - a.p).toNat + (y + 1 - a.q).toNat) fb (fun c => cols (L.take k) c ++ part a z (y + 1) c) := by
                refine FarCol.eq ⟨_, _, _, _, hG4, Nat.le_refl _, upd_fst hfst z y _, fun c => ?_⟩ (part_at _ hy1 z) (by omega)
                by_cases hcz : c = z
                · subst hcz
                  rw [upd_same]
                  rcases hloc with h | h
                  · rw [h]
                    exact hne c
                  · rw [h]
                    intro e
                    simp at e
                    omega
                · rw [upd_other _ _ hcz]
                  exact hne c
              have HGR := Lib.hid hgr4'
              have HFAR := Lib.hid hfar4
              have HQ := Lib.hid hquad4
              clear hgr hg hn hfst hne hws hbase hwf hA hbox hlen hbA hbB hgB hnews happ hown3 hgr3 hloc ownA ownB own3 hupd own4 hgr4 hat look0 lookA lookB look3 cellA cellB ltB cell3 hS0 hgrB hgr4' hG4 hs3 hs4 hfbl hsame hquad4 hfar4 hquad q3
              go_wp2
              go_roundw
              case rel => exact ⟨y + 1, by go_num, by omega, by omega, HGR.out, HFAR.out, HQ.out⟩
              case measure => simp [intOf]; omega
            · obtain rfl : y = a.y + 1 := by omega
              have hfar' := hfar.eq (N' := 1800 * k + 60 * (z + 1 - a.p).toNat) (F' := fun c => cols (L.take k) c ++ part a (z + 1) a.q c) (by rw [part_col hz1']) (by omega)
              clear hfar
              go_wp2
              go_roundw
              case rel => exact ⟨z + 1, by go_num, by omega, by omega, hgr, hfar', hquad⟩
              case measure => simp [intOf]; omega
        · obtain rfl : z = a.x + 1 := by omega
          have hcol' : Col wr (W + 1) (W + 3) (1800 * (k + 1)) (cols (L.take (k + 1))) := hfar.col.eq (by rw [part_end]; funext c; rw [HCT.out]) (by omega)
          clear hfar hquad
          go_wp2
          go_roundw
          case rel => exact ⟨k + 1, by omega, rfl, by go_num, hgr, hcol'⟩
          case measure => simp [intOf]; omega
    · obtain rfl : k = L.length := by omega
      rw [List.take_length] at hcol
      have hA := HA0.out
      have hsz := hA.size
      have hbox := (grownBy_cell (i := 0) hgr (show W < w1.heap.size by omega) (by omega)).trans hA.box
      obtain ⟨n, D, V, G, hG, hn, hfst⟩ := hcol
      have hws := hgr.size
      go_wp2_with (at_range; refine wpList_range_own _ rfl _ 43 rfl 3 57 colKeyed Tryz.underlying43 held (W + 1) n D rfl hG.own ?_; intro w0 hrg0 hg0 hs0; go_frame)
      have hgF := grownBy_below hgr (show Below wr.heap.size wr w0 from ⟨hg0.os, hg0.tape, hg0.output, hg0.size, fun k hk => hg0.block k hk (by simp)⟩)
      have hGF := hG.keep (show Below wr.heap.size wr w0 from ⟨hg0.os, hg0.tape, hg0.output, hg0.size, fun k hk => hg0.block k hk (by simp)⟩)
      have hst : ∀ c, (ik c).wf = true → has D (ik c) = false → (G c).Pairwise (fun p q => p.1 ≤ q.1) := by
        intro c hc hh
        have := hG.has c hc
        rw [hh] at this
        cases hgc : G c with
        | nil => exact List.Pairwise.nil
        | cons _ _ => rw [hgc] at this; simp at this
      have hpm : ∀ c, ((G c).map Prod.fst).Perm (cols L c) := fun c => by rw [hfst c]
      generalize hR : wr.heap.size = R at *
      have HP := Lib.hid hpm
      have HST := Lib.hid hst
      have HGF := Lib.hid hGF
      have HgF := Lib.hid hgF
      clear hpm hst hGF hgF hfst hG hg0 hbox hA hgr HC0 hk hlt
      go_loopw [12] (fun _ wq => ∃ (left : Lit → Bool) (cnt : Nat) (G' : Int → List (Int × Nat)), wq.ranges Tryz.prog 3 held (W + 1) R n D left cnt ∧ Grp wq (W + 1) (W + 3) n D V G' ∧ (∀ c, ((G' c).map Prod.fst).Perm (cols L c)) ∧ (∀ c, (ik c).wf = true → left (ik c) = false → (G' c).Pairwise (fun p q => p.1 ≤ q.1)) ∧ w1.grownBy wq (some (W + 1))) (fun _ wq => wq.rangeLeft (W + 1) R)
      case atStart => exact ⟨_, _, G, hrg0, HGF.out, HP.out, HST.out, HgF.out⟩
      clear HP HST HGF HgF hrg0 hs0
      case round =>
        obtain ⟨left, cnt, G', hrg, hG, hpm, hst, hgr⟩ := hrel
        go_wp2_with (at_next; refine wpList_next_ranges _ rfl _ rfl 3 colKeyed held (Value.int .i64) id (fun key kl hkey => by obtain ⟨x, rfl, _⟩ := Maps.keyOf_int_inv Tryz.underlying3 hkey; exact ⟨x, rfl⟩) (fun v y hv => ⟨v, rfl⟩) (W + 1) R n D left cnt rfl hrg ?_ ?_)
        · intro _ hl0
          have hend : Rise wr (W + 1) (W + 3) 9000 (cols L) := ⟨n, D, V, G', hG, by omega, fun c hc => ⟨hpm c, hst c hc (hl0 _)⟩⟩
          have hbox := (grownBy_cell (i := 0) hgr (show W < w1.heap.size by omega) (by omega)).trans HA0.out.box
          have hbel : Below w.heap.size w wr := by
            have hb1 := HA0.out.below
            exact hb1.grown hgr hb1.size (fun j hj => by cases hj; omega)
          have hsz' := hgr.size
          clear hrg hG hpm hst hgr
          go_wp2
          (try simp only [Exit.inBlock, Exit.then])
          refine bodyPost_ret ?_ rfl (show FlatPost w L (.returned (.tuple #[.map (some (W + 1)), .nilIface])) wr from ?_)
          · rw [results_cell_tmp rfl]
            go_simp
          · exact ⟨W + 1, W + 3, 9000, rfl, by omega, by omega, by omega, by omega, hend, hbel⟩
        · intro x v kl y ps wn cnt1 hkx hlx hvy hat hrg1 hlt hg1 hs1 hen
          obtain ⟨x', ex, rfl, hwf⟩ := Maps.keyOf_int_inv Tryz.underlying3 hkx
          obtain rfl : x = x' := by injection ex
          have hvV : v = V x := by
            have h1 := hG.at_ x hwf
            have h2 := hat (.held nilS)
            simp only [held, Option.some.injEq, Prod.mk.injEq] at hvy
            rw [← hvy.1] at h2
            exact (DataW.held.inj (h2.symm.trans h1))
          subst hvV
          have hne : G' x ≠ [] := by
            have h1 := hG.has x hwf
            rw [show has D (ik x) = true from has_true_of_atKey hat] at h1
            intro e
            rw [e] at h1
            simp at h1
          have hG1 := hG.iter hrg hg1
          have hgr1 : w1.grownBy wn (some (W + 1)) := hgr.andThen hg1 (fun j hj => by cases hj; exact .inl hws)
          have hsz' := hgr.size
          have hboxn := (grownBy_cell (i := 0) hgr1 (show W < w1.heap.size by omega) (by omega)).trans HA0.out.box
          have hlook := hG1.look hwf
          have hb2 : Below wn.heap.size wn (wn.alloc (.cells #[.int .i64 x] 3)) := (Below.refl _ _).alloc (Nat.le_refl _) _
          have hG2 := hG1.keep hb2
          have hlook2 := hG2.look hwf
          have hbox2 := (hb2.cell (p := ⟨W, 0, none⟩) (show W < wn.heap.size by omega)).trans hboxn
          have hlen := hG.len x
          have hCt : Tag (wn.alloc (.cells #[.int .i64 x] 3)) wr.heap.size 3 := Tag.made wn _ _ _ hs1.symm
          have hCc : (wn.alloc (.cells #[.int .i64 x] 3)).cell? ⟨wr.heap.size, 0, none⟩ = some (.int .i64 x) := by
            rw [← hs1]
            simp [go_sem]
          have hrg2 := hrg1.alloc (.cells #[.int .i64 x] 3)
          have hgr2 := grownBy_below hgr1 hb2
          clear hkx hvy hG1 hgr1 hg1
          go_wp2_with fail
          refine (sort_col (W := W) (C := wr.heap.size) hG2 (by omega) hwf hne (by omega) hbox2 (by omega) (by have := hb2.size; omega) hCc hCt).mono ?_
          rintro e w3 ⟨rfl, X, hXp, hXs, hG3, hg3⟩
          have hrg3 := hrg2.kept hg3 (fun e => by have := ((hG2.rows x).lt (W + 1) e.symm).1; omega) (hG2.far_iter hrg2 x)
          have hgr3 : w1.grownBy w3 (some (W + 1)) := hgr2.andThen hg3 (fun j hj => .inl (by have := ((hG2.rows x).lt j hj).1; omega))
          have hpm3 : ∀ c, ((upd G' x X c).map Prod.fst).Perm (cols L c) := by
            intro c
            by_cases hc : c = x
            · subst hc
              rw [upd_same]
              exact (hXp.map _).trans (hpm c)
            · rw [upd_other _ _ hc]
              exact hpm c
          have hst3 : ∀ c, (ik c).wf = true → (left (ik c) && !(ik c).sameKey (.int .i64 x)) = false → (upd G' x X c).Pairwise (fun p q => p.1 ≤ q.1) := by
            intro c hcw hl
            by_cases hc : c = x
            · subst hc
              rw [upd_same]
              exact hXs
            · rw [upd_other _ _ hc]
              refine hst c hcw ?_
              have : (ik c).sameKey (.int .i64 x) = false := sameKey_ne (ik_ne hc)
              rw [this] at hl
              simpa using hl
          clear hrg2 hgr2 hG2 hbox2 hlook2 hlook hen hCt hCc hb2 hpm hst hboxn hat
          go_wp2
          go_roundw
          case rel => exact ⟨_, cnt1, _, hrg3, hG3, hpm3, hst3, hgr3⟩
          case measure => rw [hrg3.left_eq, hrg.left_eq]; exact hlt
end Go.Proofs.YtokooampmhcfeaaGreatDoor.Rg
