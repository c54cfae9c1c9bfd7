/- The package's merging of areas, walked. -/
import Derived.Test.YtokooampmhcfeaaDoorRCells
import Derived.Deep.RegionHeld3
namespace Go.Proofs.YtokooampmhcfeaaDoor.Rg
open Go.RowKit

/-- What the merging leaves: the merged cells' texts are the areas'. -/
def MergePost (w0 : World) (W M : Nat) (F : List Ar) (e : Ending) (w' : World) : Prop := ∃ (A : Option Addr) (n c : Nat) (G : List Nat), e = .returned .nilIface ∧ n = F.length ∧ Sheet w' W M ∧ w'.cell? ⟨M, 1, none⟩ = some (.slice A n c) ∧ w'.ownsRow w0.heap.size 93 1 (.slice A n c) n (G.map ptr) ∧ CellsTx w' G (texts F) ∧ Below w0.heap.size w0 w'

set_option maxHeartbeats 6400000 in
set_option maxRecDepth 100000 in
theorem mergerun_any (W M n c : Nat) (A : Option Addr) (G : List Nat) (L : List Ar) (w0 w : World) (hB : Below w0.heap.size w0 w) (hS : Sheet w W M) (hM : w0.heap.size ≤ M)
    (hmc : w.cell? ⟨M, 1, none⟩ = some (.slice A n c)) (hn : n = L.length) (hn2 : n ≤ 100) (hown : w.ownsRow w0.heap.size 93 1 (.slice A n c) n (G.map ptr))
    (hG0 : ∀ g ∈ G, w0.heap.size ≤ g) (hnd : G.Nodup) (hC : CellsFrom w 0 G (fun _ => .slice none 0 0) (texts L)) (hL : ∀ a ∈ L, Good a) (F : List Ar) (hF : Runs L F) (hFG : ∀ a ∈ F, Good a) (hTab : Tab w0) :
    Calls Tryd.prog 41 #[ptr W] w (MergePost w0 W M F) := by
  obtain ⟨i0, hi, hz0, hz1, hz2⟩ := info_parts infoRow
  obtain ⟨j0, hj, hy0, hy1, hy2⟩ := info_parts infoBool
  obtain ⟨p0, hp, hx0, hx1, hx2⟩ := info_parts infoPtr
  have HF := Lib.hid hF
  have HFG := Lib.hid hFG
  have HTAB := Lib.hid hTab
  clear hF hFG hTab
  have HN := Lib.hid hn
  have HL := Lib.hid hL
  have HG0 := Lib.hid hG0
  have HND := Lib.hid hnd
  have HW := Lib.hid hS.wc
  clear hn hL hG0 hnd
  have hwc := hS.wc
  unfold ptr at hwc
  unfold ptr
  go_enter Tryd.func41, Tryd.ntmps41
  go_wp2
  clear hwc hmc
  go_loopw [3, 4, 26] (fun e v i wr => ∃ (k : Nat) (V : List Value), k ≤ n ∧ e = .nilIface ∧ i = .int .i64 k ∧ wr.ownsRow w0.heap.size 24 1 v k V ∧ Recs wr V (L.take k) ∧ Sheet wr W M ∧ wr.ownsRow w0.heap.size 93 1 (.slice A n c) n (G.map ptr) ∧ CellsFrom wr k G (fun _ => .slice none 0 0) (texts L) ∧ Below w0.heap.size w0 wr) (fun _ _ i _ => n - (intOf i).toNat)
  case atStart => exact ⟨0, [], by omega, rfl, rfl, World.ownsRow_nil _ _ _ _, Recs.nil _, hS, hown, hC, hB⟩
  case round =>
    obtain ⟨k, V, hk, rfl, rfl, hv, hR, hSr, hP, hCr, hb⟩ := hrel
    have hVl := hv.1
    by_cases hlt : k < n
    · have hkL : k < L.length := by rw [← HN.out]; exact hlt
      have hGl : G.length = n := by have := hP.1; simpa using this
      have hkG : k < G.length := by omega
      have hkL' : L[k]? = some L[k] := List.getElem?_eq_getElem hkL
      have hkG' : G[k]? = some G[k] := List.getElem?_eq_getElem hkG
      have hcr := hCr.recs k G[k] L[k].text (Nat.le_refl _) hkG' (by simp [texts, hkL'])
      obtain ⟨gc, cap, he, _, _⟩ := hP.form (by omega)
      obtain rfl : A = some ⟨gc, 0, none⟩ := by injection he
      clear he
      have cP := hP.cells (g := gc) rfl k (ptr G[k]) (by simp [hkG'])
      rw [addAt] at cP
      have hgood := HL.out L[k] (List.getElem_mem hkL)
      have hg0 := HG0.out G[k] (List.getElem_mem hkG)
      have HKL := Lib.hid hkL'
      have HKG := Lib.hid hkG'
      have HVL := Lib.hid hVl
      generalize L[k] = ak at hcr hgood HKL
      generalize G[k] = gk at hcr cP hg0 HKG
      clear hkL' hkG' hkL hkG hGl hVl
      obtain ⟨j, hj⟩ := ak.colon
      have hsz : (⟨ak.text.toArray⟩ : ByteArray).size ≤ 1000 := by
        show ak.text.toArray.size ≤ 1000
        have := hgood.text_len
        simp
        omega
      have hcall := rect_any gk ⟨ak.text.toArray⟩ ak.p ak.q ak.x ak.y wr j hcr.c0 hcr.c1 hcr.tag hsz hj hgood.range
      have HC := Lib.hid hcall
      have HCR := Lib.hid hcr
      clear hcall hcr hj hsz
      unfold ptr at cP
      have i0' : (0 : Int) ≤ (k : Int) := by omega
      have i1' : (k : Int) < (n : Int) := by omega
      go_wp2_with fail
      refine HC.out.mono ?_
      rintro e w2 ⟨b, w1, rfl, hrec, hbf, hb1, hw2⟩
      have htg1 := HCR.out.tag.below hb1
      have hX : KeepX wr w2 gk := by rw [hw2]; exact (KeepX.below hb1 gk).trans hb1.size (KeepX.set w1 gk 0 _)
      have hT : Tag w2 gk 95 := by rw [hw2]; exact htg1.setCell _ _ rfl
      have c2 : w2.cell? ⟨gk, 0, none⟩ = some (.slice (some ⟨b, 0, none⟩) 4 4) := by rw [hw2]; exact set_same w1 gk 0 _ _ ((hb1.cell (p := ⟨gk, 0, none⟩) HCR.out.tag.lt).trans HCR.out.c0)
      have hr2 : Rec w2 b ak := by rw [hw2]; exact hrec.same (Same.of_set _ _ (hrec.tag.ne htg1 (by decide)))
      have hB2 : Below w0.heap.size w0 w2 := by rw [hw2]; exact (hb.trans (hb1.mono hb.size)).setCell hg0 _
      have hs2 : wr.heap.size ≤ w2.heap.size := by rw [hw2]; simpa using hb1.size
      have f2 := hT.free 0
      clear hw2 hrec hbf hb1 htg1 cP
      have hX3 : KeepX wr (w2.setCell ⟨gk, 0, none⟩ (.slice (some ⟨b, 0, none⟩) 4 4)) gk := hX.trans hs2 (KeepX.set w2 gk 0 _)
      have hb3 := hX3.but HCR.out.tag
      have hv3 := hb3.own hv (by decide)
      have hB3 : Below w0.heap.size w0 (w2.setCell ⟨gk, 0, none⟩ (.slice (some ⟨b, 0, none⟩) 4 4)) := hB2.setCell hg0 _
      have hr3 : Rec (w2.setCell ⟨gk, 0, none⟩ (.slice (some ⟨b, 0, none⟩) 4 4)) b ak := hr2.same (Same.of_set _ _ (hr2.tag.ne hT (by decide)))
      have hs3 := hB3.size
      go_wp2_with (at_builtin; refine wpList_append_own _ rfl _ _ 106 rfl w0.heap.size 24 i0 _ 1 24 Tryd.underlying106 hi hz0 hz1 hz2 rfl (by decide) _ _ _ rfl (hv3.alloc _) ⟨w2.heap.size, 0, none⟩ 1 1 [.slice (some ⟨b, 0, none⟩) 4 4] rfl rfl ?c1 ?c2 ?c3 ?c4 ?c5 ?_)
      case c1 => exact newAt _ [.slice (some ⟨b, 0, none⟩) 4 4] _ _ (by simp)
      case c2 => intro u hu; simp at hu; subst hu; rfl
      case c3 => unfold maxLen; omega
      case c4 => omega
      case c5 => simp at hs3 ⊢; omega
      intro v' w4 hown' hgrow _
      have hKA : KeepBut (w2.setCell ⟨gk, 0, none⟩ (.slice (some ⟨b, 0, none⟩) 4 4)) w4 24 := ((KeepAll.below ((Below.refl _ _).alloc (Nat.le_refl _) _)).but _).trans (KeepBut.grown hgrow (hv3.alloc _))
      have hrec4 : RecV w4 (.slice (some ⟨b, 0, none⟩) 4 4) ak := ⟨b, 4, rfl, hr3.same (hKA b _ (by decide) hr3.tag)⟩
      have hRN := Lib.hid ((hKA.recs (hb3.recs hR (by decide)) (by decide)).snoc hrec4)
      have hSN := Lib.hid ((hSr.keep hb3 (by decide) (by decide)).keep hKA (by decide) (by decide))
      have hPN := Lib.hid (hKA.own (hb3.own hP (by decide)) (by decide))
      have hBN := Lib.hid ((hB3.alloc hs3 _).grown hgrow (by simp at hs3 ⊢; omega) (fun j hj => (hv3.lt j hj).1))
      have hCN : Hid (CellsFrom w4 (k + 1) G (fun _ => .slice none 0 0) (texts L)) := ⟨hCr.len, fun i g t hi hg ht => by
        have h1 := hCr.recs i g t (by omega) hg ht
        have h2 := h1.same (hX3 g h1.tag.lt (nodup_ne HND.out hg HKG.out (by omega)))
        exact h2.same (hKA g _ (by decide) h2.tag)⟩
      have HO := Lib.hid hown'
      clear hgrow hown' hKA hrec4 hX hX3 hT c2 hr2 hB2 hs2 f2 hb3 hv3 hB3 hr3 hs3 hv hR hSr hP hCr hb
      go_wp2
      go_roundw
      case rel =>
        have ht : L.take (k + 1) = L.take k ++ [ak] := by rw [List.take_add_one, HKL.out]; rfl
        exact ⟨k + 1, V ++ [.slice (some ⟨b, 0, none⟩) 4 4], by omega, rfl, by go_num, HO.out, by rw [ht]; exact hRN.out, hSN.out, hPN.out, hCN.out, hBN.out⟩
      case measure => simp [intOf]; omega
    · obtain rfl : k = n := by omega
      have hR' : Recs wr V L := by
        have := hR
        rwa [List.take_of_length_le (by have := HN.out; omega)] at this
      clear hR hlt
      have HR := Lib.hid hR'
      have HV := Lib.hid hv
      have HS := Lib.hid hSr
      have HBW := Lib.hid hb
      clear hR' hv hSr hb hCr hP hVl
      have HST : Hid (Still true L F) := .inl ⟨rfl, HF.out⟩
      go_wp2
      go_loopw [4, 5] (fun v m wr => ∃ (ms : Bool) (n : Nat) (L : List Ar) (V : List Value), m = .bool ms ∧ n ≤ 100 ∧ Hid (n = L.length) ∧ Hid (wr.ownsRow w0.heap.size 24 1 v n V) ∧ Hid (Recs wr V L) ∧ Hid (Sheet wr W M) ∧ Hid (Below w0.heap.size w0 wr) ∧ Hid (Still ms L F)) (fun v m _ => match m, v with | .bool true, .slice _ n _ => n + 1 | _, _ => 0)
      case atStart => exact ⟨true, k, L, V, rfl, hn2, HN, HV, HR, HS, HBW, HST⟩
      clear HV HR HS HBW HST HN HF V hn2
      case round =>
        obtain ⟨ms, n, L, V, rfl, hn2, HN, HV, HR, HS, HBW, HST⟩ := hrel
        cases ms with
        | false =>
          have HEQ : Hid (L = F) := by
            rcases HST.out with ⟨h, _⟩ | ⟨_, h⟩
            · cases h
            · exact h
          clear HST
          obtain ⟨Av, cv, rfl⟩ := own_slice HV.out
          have hS := HS.out
          have hwc := hS.wc
          unfold ptr at hwc
          have hwcD : wr.drew.cell? ⟨W, 3, none⟩ = some (.pointer (some ⟨M, 0, none⟩)) := hwc
          obtain ⟨u1, hm1⟩ := hS.m1
          have hsB := HBW.out.size
          obtain ⟨wm, hmk, hmown, hmg⟩ := run_make_own (P := Tryd.prog) (w := wr.drew) w0.heap.size 78 93 p0 _ 1 Tryd.underlying78 hp hx0 hx1 .i64 .i64 n (by rw [hx2]; omega) (by unfold maxLen; omega) hsB
          have hbm : Below wr.heap.size wr wm := (Below.refl _ _).drew.grown hmg (Nat.le_refl _) (fun _ hj => by cases hj)
          have hSm := hS.keep ((KeepAll.below hbm).but 4) (by decide) (by decide)
          have hwm := hSm.wc
          unfold ptr at hwm
          have hm1m := (hbm.cell (p := ⟨M, 1, none⟩) hS.mt.lt).trans hm1
          have fm1 := hSm.mt.free 1
          have hM := hM
          go_wp2_with fail
          clear hwc hm1
          refine wp_region_last (List.replicate 10 false) [true, true, true, true, true, true, false, false, true, false] (S := fun w' => w'.cell? ⟨W, 3, none⟩ = some (.pointer (some ⟨M, 0, none⟩))) (by kernel_rfl) (by kernel_rfl) (by kernel_rfl) (fun d _ _ _ _ h => by cases d <;> exact h) hwcD ?_
          simp only [List.replicate, swaps]
          iterate 6
            refine seqT_take (v := ?_) (by rfl) ?_ ?_
            rotate_left
            · intro w' hSw
              (try dsimp only at hSw)
              go_simp
              try (with_reducible rfl)
            try simp only [Act.put, List.setIfInBounds_toArray, List.set_cons_zero, List.set_cons_succ]
          refine seqT_solo (by rfl) (fun K hK => ?_)
          go_simp
          refine hK.out _ _ (fun _ => hwm) ?_
          clear hK K hmk
          try simp only [Act.put, List.setIfInBounds_toArray, List.set_cons_zero, List.set_cons_succ]
          refine seqT_solo (by rfl) (fun K hK => ?_)
          go_simp
          refine hK.out _ _ (fun _ => hwm) ?_
          clear hK K
          try simp only [Act.put, List.setIfInBounds_toArray, List.set_cons_zero, List.set_cons_succ]
          refine seqT_take (v := ?_) (by rfl) ?_ ?_
          rotate_left
          · intro w' hSw
            go_simp
            try (with_reducible rfl)
          try simp only [Act.put, List.setIfInBounds_toArray, List.set_cons_zero, List.set_cons_succ]
          refine seqT_solo (by rfl) (fun K hK => ?_)
          go_simp
          refine hK.out _ _ (fun h => absurd rfl h) ?_
          clear hK K
          try simp only [Act.put, List.setIfInBounds_toArray, List.set_cons_zero, List.set_cons_succ]
          refine seqT_done ?_
          have hbT : Below w0.heap.size w0 wm := HBW.out.trans (hbm.mono hsB)
          have hKS := KeepBut.set hSm.mt 1 (.slice (some ⟨wr.heap.size, 0, none⟩) 0 n)
          have HS2 := Lib.hid (hSm.setM 1 (.slice (some ⟨wr.heap.size, 0, none⟩) 0 n))
          have HV2 := Lib.hid (hKS.own (own_below HV.out hbm) (by decide))
          have HR2 : Hid (Recs (wm.setCell ⟨M, 1, none⟩ (.slice (some ⟨wr.heap.size, 0, none⟩) 0 n)) V F) := by
            have h := hKS.recs (HR.out.map fun g hg => KeepAll.below hbm g _ hg) (by decide)
            rw [HEQ.out] at h
            exact h
          have HM2 := Lib.hid (set_same wm M 1 (.slice (some ⟨wr.heap.size, 0, none⟩) 0 n) _ hm1m)
          have HP2 : Hid ((wm.setCell ⟨M, 1, none⟩ (.slice (some ⟨wr.heap.size, 0, none⟩) 0 n)).ownsRow w0.heap.size 93 1 (.slice (some ⟨wr.heap.size, 0, none⟩) 0 n) 0 []) := hKS.own hmown (by decide)
          have HB2 := Lib.hid (hbT.setCell (p := ⟨M, 1, none⟩) hM (.slice (some ⟨wr.heap.size, 0, none⟩) 0 n))
          have HNF : Hid (n = F.length) := by
            show n = F.length
            rw [← HEQ.out]
            exact HN.out
          clear hKS hbT hbm hmown hmg hSm hwm hm1m fm1 hwcD hS HV HR HS HBW HN HEQ
          generalize wm.setCell ⟨M, 1, none⟩ (.slice (some ⟨wr.heap.size, 0, none⟩) 0 n) = wz at *
          generalize hzz : wr.heap.size = gz at *
          clear hzz hsB
          clear wm wr
          go_wp2
          go_loopw [136] (fun i wr => ∃ (k : Nat) (Ag : Option Addr) (cg : Nat) (G : List Nat), k ≤ n ∧ i = .int .i64 k ∧ Hid (Sheet wr W M) ∧ Hid (wr.cell? ⟨M, 1, none⟩ = some (.slice Ag k cg)) ∧ Hid (wr.ownsRow w0.heap.size 93 1 (.slice Ag k cg) k (G.map ptr)) ∧ Hid (CellsTx wr G ((texts F).take k)) ∧ Hid (wr.ownsRow w0.heap.size 24 1 (.slice Av n cv) n V) ∧ Hid (Recs wr V F) ∧ Hid (Below w0.heap.size w0 wr)) (fun i _ => n - (intOf i).toNat)
          case atStart => exact ⟨0, _, _, [], by omega, rfl, HS2, HM2, HP2, CellsTx.nil _, HV2, HR2, HB2⟩
          clear HS2 HM2 HP2 HV2 HR2 HB2
          case round =>
            obtain ⟨k, Ag, cg, G, hkn, rfl, HS, HM, HP, HX, HV, HR, HB⟩ := hrel
            by_cases hkl : k < n
            · have hkF : k < F.length := by rw [← HNF.out]; exact hkl
              obtain ⟨gk, ck, hVk, hRk⟩ := HR.out.get k hkF
              obtain ⟨gv, capv, hev, _, _⟩ := HV.out.form (by omega)
              obtain rfl : Av = some ⟨gv, 0, none⟩ := by injection hev
              clear hev
              have cV := HV.out.cells (g := gv) rfl k _ hVk
              rw [addAt] at cV
              have hgood := HFG.out F[k] (List.getElem_mem hkF)
              have htx : (texts F).take (k + 1) = (texts F).take k ++ [F[k].text] := by
                unfold texts
                rw [List.take_add_one, List.getElem?_map, List.getElem?_eq_getElem hkF]
                rfl
              have HTX := Lib.hid htx
              have HRK := Lib.hid hRk
              have hcall := ref_rec F[k] hgood gk ck wr hRk (HTAB.out.stays HB.out)
              have HCALL := Lib.hid hcall
              generalize F[k] = fk at HTX HRK HCALL
              generalize fk.text = tk at HTX HCALL
              clear hVk hRk htx hcall hgood hkF
              have i0' : (0 : Int) ≤ (k : Int) := by omega
              have i1' : (k : Int) < (n : Int) := by omega
              go_wp2_with fail
              refine HCALL.out.mono ?_
              rintro e w1 ⟨rfl, hb1⟩
              have hk1 := (KeepAll.below hb1).but 4
              have hS1 := HS.out.keep hk1 (by decide) (by decide)
              have hM1 := (Same.of_below hb1 HS.out.mt.lt).cell.trans HM.out
              have hP1 := own_below HP.out hb1
              have hX1 := HX.out.keep hk1 (by decide)
              have hV1 := own_below HV.out hb1
              have hR1 := HR.out.map fun g hg => KeepAll.below hb1 g _ hg
              have hB1 := HB.out.trans (hb1.mono HB.out.size)
              have hs1 := hB1.size
              clear hb1 hk1 HS HM HP HX HV HR HB HCALL HRK cV
              have HSS : Hid (∀ w', Below w1.heap.size w1 w' → (w'.cell? ⟨W, 3, none⟩ = some (.pointer (some ⟨M, 0, none⟩)) ∧ w'.cell? ⟨M, 1, none⟩ = some (.slice Ag k cg))) :=
                fun w' hb => ⟨(Same.of_below hb hS1.wt.lt).cell.trans hS1.wc, (Same.of_below hb hS1.mt.lt).cell.trans hM1⟩
              have hS0 := HSS.out _ (Below.refl _ _).drew
              have hba : Below w1.heap.size w1 (w1.alloc (.cells #[.slice (some ⟨gk, 0, none⟩) 4 ck, .string ⟨tk.toArray⟩] 95)).drew := ((Below.refl _ _).alloc (Nat.le_refl _) _).drew
              have hbb : Below w1.heap.size w1 ((w1.alloc (.cells #[.slice (some ⟨gk, 0, none⟩) 4 ck, .string ⟨tk.toArray⟩] 95)).alloc (.cells #[ptr w1.heap.size] 93)).drew := (((Below.refl _ _).alloc (Nat.le_refl _) _).alloc (by simp) _).drew
              have hSa := HSS.out _ hba
              have hSb := HSS.out _ hbb
              have hPb' := own_below hP1 hbb
              have hnw : ∀ j u, [ptr w1.heap.size][j]? = some u → ((w1.alloc (.cells #[.slice (some ⟨gk, 0, none⟩) 4 ck, .string ⟨tk.toArray⟩] 95)).alloc (.cells #[ptr w1.heap.size] 93)).drew.cell? ((⟨w1.heap.size + 1, 0, none⟩ : Addr).add j) = some u := newAt (w1.alloc (.cells #[.slice (some ⟨gk, 0, none⟩) 4 ck, .string ⟨tk.toArray⟩] 95)) [ptr w1.heap.size] _ _ (by simp)
              have HCT : Hid (CTx ((w1.alloc (.cells #[.slice (some ⟨gk, 0, none⟩) 4 ck, .string ⟨tk.toArray⟩] 95)).alloc (.cells #[ptr w1.heap.size] 93)).drew w1.heap.size tk) := by
                have h0 : CTx (w1.alloc (.cells #[.slice (some ⟨gk, 0, none⟩) 4 ck, .string ⟨tk.toArray⟩] 95)) w1.heap.size tk := ⟨Tag.made w1 _ _ _ rfl, by simp [go_sem]⟩
                exact h0.same (Same.of_below (((Below.refl _ _).alloc (Nat.le_refl _) _).drew) h0.tag.lt)
              clear HSS
              have hPb := hPb'
              have HKX : Hid (KeepBut w1 ((w1.alloc (.cells #[.slice (some ⟨gk, 0, none⟩) 4 ck, .string ⟨tk.toArray⟩] 95)).alloc (.cells #[ptr w1.heap.size] 93)).drew 93) := (KeepAll.below hbb).but _
              clear hPb'
              unfold ptr at hPb HKX
              unfold ptr at hnw hSb hbb HCT
              go_wp2_with fail
              refine wp_region_last (List.replicate 20 false) [true, true, true, true, true, true, true, true, true, true, true, true, true, true, false, false, false, false, true, false] (S := fun w' => w'.cell? ⟨W, 3, none⟩ = some (.pointer (some ⟨M, 0, none⟩)) ∧ w'.cell? ⟨M, 1, none⟩ = some (.slice Ag k cg)) (by kernel_rfl) (by kernel_rfl) (by kernel_rfl) (fun d _ _ _ _ h => by cases d <;> exact h) hS0 ?_
              simp only [List.replicate, swaps]
              iterate 14
                refine seqT_take (v := ?_) (by rfl) ?_ ?_
                rotate_left
                · intro w' hSw
                  obtain ⟨s3, s1⟩ := hSw
                  go_simp
                  try (with_reducible rfl)
                try simp only [Act.put, List.setIfInBounds_toArray, List.set_cons_zero, List.set_cons_succ]
              refine seqT_solo (by rfl) (fun K hK => ?_)
              go_simp
              refine hK.out _ _ (fun _ => hSa) ?_
              clear hK K
              try simp only [Act.put, List.setIfInBounds_toArray, List.set_cons_zero, List.set_cons_succ]
              refine seqT_solo (by rfl) (fun K hK => ?_)
              go_simp
              refine hK.out _ _ (fun _ => hSb) ?_
              clear hK K
              try simp only [Act.put, List.setIfInBounds_toArray, List.set_cons_zero, List.set_cons_succ]
              refine seqT_solo (by rfl) (fun K hK => ?_)
              refine wp_append_lies _ _ _ 78 (by rfl) w0.heap.size 93 p0 _ 1 8 Tryd.underlying78 hp hx0 hx1 hx2 (by rfl) (by decide) _ _ _ (by rfl) hPb ⟨w1.heap.size + 1, 0, none⟩ 1 1 [.pointer (some ⟨w1.heap.size, 0, none⟩)] (by rfl) (by rfl) hnw ?h1 (by decide) ?h2 ?h3 ?h4 _ rfl ?_
              case h1 => intro u hu; simp at hu; subst hu; rfl
              case h2 => unfold maxLen; omega
              case h3 => omega
              case h4 => exact Nat.le_trans hs1 hbb.size
              intro g cap w4 hown4 hgrow hat hlt4
              have hKG := HKX.out.trans (KeepBut.grown hgrow hPb)
              have hS4 := hS1.keep hKG (by decide) (by decide)
              have hM4 := (hKG M _ (by decide) hS1.mt).cell.trans hM1
              have hct4 := HCT.out.same ((KeepBut.grown hgrow hPb) _ _ (by decide) HCT.out.tag)
              have hX4 := (hX1.keep hKG (by decide)).snoc hct4
              have hV4 := hKG.own hV1 (by decide)
              have hR4 := hKG.recs hR1 (by decide)
              have hB4 := (hB1.trans (hbb.mono hs1)).grown hgrow (Nat.le_trans hs1 hbb.size) (fun j hj => (hPb.lt j hj).1)
              have fM4 := hS4.mt.free 1
              have hS4c := hS4.wc
              unfold ptr at hS4c
              clear hgrow hat hlt4 HCT HKX hPb hnw hSa hSb hba hbb hS0 hS1 hM1 hP1 hX1 hV1 hR1 hB1 hs1 hKG hct4
              refine hK.out _ _ (fun _ => ⟨hS4c, hM4⟩) ?_
              clear hK K
              try simp only [Act.put, List.setIfInBounds_toArray, List.set_cons_zero, List.set_cons_succ]
              refine seqT_solo (by rfl) (fun K hK => ?_)
              go_simp
              refine hK.out _ _ (fun _ => ⟨hS4c, hM4⟩) ?_
              clear hK K
              try simp only [Act.put, List.setIfInBounds_toArray, List.set_cons_zero, List.set_cons_succ]
              iterate 1
                refine seqT_take (v := ?_) (by rfl) ?_ ?_
                rotate_left
                · intro w' hSw
                  obtain ⟨s3, s1⟩ := hSw
                  go_simp
                  try (with_reducible rfl)
                try simp only [Act.put, List.setIfInBounds_toArray, List.set_cons_zero, List.set_cons_succ]
              refine seqT_solo (by rfl) (fun K hK => ?_)
              go_simp
              refine hK.out _ _ (fun h => absurd rfl h) ?_
              clear hK K
              try simp only [Act.put, List.setIfInBounds_toArray, List.set_cons_zero, List.set_cons_succ]
              refine seqT_done ?_
              have hKM := KeepBut.set hS4.mt 1 (.slice (some ⟨g, 0, none⟩) (k + 1) cap)
              have HS5 := Lib.hid (hS4.setM 1 (.slice (some ⟨g, 0, none⟩) (k + 1) cap))
              have HM5 := Lib.hid (set_same w4 M 1 (.slice (some ⟨g, 0, none⟩) (k + 1) cap) _ hM4)
              have HP5 := Lib.hid (hKM.own hown4 (by decide))
              have HX5 := Lib.hid (hX4.keep hKM (by decide))
              have HV5 := Lib.hid (hKM.own hV4 (by decide))
              have HR5 := Lib.hid (hKM.recs hR4 (by decide))
              have HB5 := Lib.hid (hB4.setCell (p := ⟨M, 1, none⟩) hM (.slice (some ⟨g, 0, none⟩) (k + 1) cap))
              clear hS4 hM4 hX4 hV4 hR4 hB4 fM4 hS4c hKM hown4
              generalize w4.setCell ⟨M, 1, none⟩ (.slice (some ⟨g, 0, none⟩) (k + 1) cap) = w5 at *
              go_wp2
              go_roundw
              case rel =>
                refine ⟨k + 1, _, cap, G ++ [w1.heap.size], by omega, by go_num, HS5, HM5, ?_, ?_, HV5, HR5, HB5⟩
                · show w5.ownsRow w0.heap.size 93 1 (.slice (some ⟨g, 0, none⟩) (k + 1) cap) (k + 1) ((G ++ [w1.heap.size]).map ptr)
                  rw [List.map_append]
                  exact HP5.out
                · rw [HTX.out]
                  exact HX5
              case measure => simp [intOf]; omega
            · obtain rfl : k = n := by omega
              have hS := HS.out
              have hwc := hS.wc
              unfold ptr at hwc
              have hM1 := HM.out
              obtain ⟨u0, hm0⟩ := hS.m0
              have fM0 := hS.mt.free 0
              have hwcD : wr.drew.cell? ⟨W, 3, none⟩ = some (.pointer (some ⟨M, 0, none⟩)) ∧ wr.drew.cell? ⟨M, 1, none⟩ = some (.slice Ag k cg) := ⟨hwc, hM1⟩
              have hbD : Below wr.heap.size wr wr.drew := (Below.refl _ _).drew
              have hSD := hS.keep ((KeepAll.below hbD).but 4) (by decide) (by decide)
              have HPD := Lib.hid (own_below HP.out hbD)
              have HXD := Lib.hid (HX.out.keep ((KeepAll.below hbD).but 4) (by decide))
              have hBD := HB.out.drew
              clear HS HM HP HX HV HR HB
              go_wp2_with fail
              refine wp_region_last (List.replicate 15 false) [true, true, true, true, true, true, true, true, true, true, true, true, false, true, false] (S := fun w' => w'.cell? ⟨W, 3, none⟩ = some (.pointer (some ⟨M, 0, none⟩)) ∧ w'.cell? ⟨M, 1, none⟩ = some (.slice Ag k cg)) (by kernel_rfl) (by kernel_rfl) (by kernel_rfl) (fun d _ _ _ _ h => by cases d <;> exact h) hwcD ?_
              simp only [List.replicate, swaps]
              iterate 12
                refine seqT_take (v := ?_) (by rfl) ?_ ?_
                rotate_left
                · intro w' hSw
                  obtain ⟨s3, s1⟩ := hSw
                  go_simp
                  try (with_reducible rfl)
                try simp only [Act.put, List.setIfInBounds_toArray, List.set_cons_zero, List.set_cons_succ]

              refine seqT_solo (by rfl) (fun K hK => ?_)
              go_simp
              refine hK.out _ _ (fun _ => hwcD) ?_
              clear hK K
              try simp only [Act.put, List.setIfInBounds_toArray, List.set_cons_zero, List.set_cons_succ]
              iterate 1
                refine seqT_take (v := ?_) (by rfl) ?_ ?_
                rotate_left
                · intro w' hSw
                  obtain ⟨s3, s1⟩ := hSw
                  go_simp
                  try (with_reducible rfl)
                try simp only [Act.put, List.setIfInBounds_toArray, List.set_cons_zero, List.set_cons_succ]

              refine seqT_solo (by rfl) (fun K hK => ?_)
              go_simp
              refine hK.out _ _ (fun h => absurd rfl h) ?_
              clear hK K
              try simp only [Act.put, List.setIfInBounds_toArray, List.set_cons_zero, List.set_cons_succ]
              refine seqT_done ?_
              have hKM := KeepBut.set hSD.mt 0 (.int .i64 k)
              have HS5 := Lib.hid (hSD.setM 0 (.int .i64 k))
              have HM5 := Lib.hid ((set_other wr.drew M 0 1 (.int .i64 k) (by decide)).trans hwcD.2)
              have HP5 := Lib.hid (hKM.own HPD.out (by decide))
              have HX5 := Lib.hid (HXD.out.keep hKM (by decide))
              have HB5 := Lib.hid (hBD.setCell (p := ⟨M, 0, none⟩) hM (.int .i64 k))
              clear hKM HPD HXD hBD hSD hbD hwcD fM0 hm0 hM1 hwc hS
              go_wp2
              go_ret
              have htk : (texts F).take k = texts F := List.take_of_length_le (by have := HNF.out; unfold texts; rw [List.length_map]; omega)
              exact ⟨Ag, k, cg, G, rfl, HNF.out, HS5.out, HM5.out, HP5.out, by rw [← htk]; exact HX5.out, HB5.out⟩
        | true =>
          obtain ⟨wo, rfl⟩ : ∃ wo : World, wo = wr := ⟨_, rfl⟩
          obtain ⟨Av, cv, rfl⟩ := own_slice HV.out
          obtain ⟨PP, mF, hpass, hst, hlt⟩ : ∃ P m, pass L = (P, m) ∧ Still m P F ∧ (m = true → P.length < L.length) := by
            rcases HST.out with ⟨_, h⟩ | ⟨h, _⟩
            · exact h.step
            · cases h
          have HP := Lib.hid hpass
          have HSN := Lib.hid hst
          have HLT := Lib.hid hlt
          clear hpass hst hlt HST
          obtain ⟨wm, hmk, hmown, hmg⟩ := run_make_full (P := Tryd.prog) (w := wo) wo.heap.size 100 4 j0 _ 1 Tryd.underlying100 hj hy0 hy1 .i64 .i64 n (by rw [hy2]; omega) (by unfold maxLen; omega) (Nat.le_refl _)
          have hbm : Below wo.heap.size wo wm := (Below.refl _ _).grown hmg (Nat.le_refl _) (fun _ hj => by cases hj)
          have hum : wm.ownsRow wo.heap.size 4 1 (.slice (some ⟨wo.heap.size, 0, none⟩) n n) n (boolsOf (List.replicate n false)) := by
            have e : (madeCells (Value.bool false).cells (n * 1)).toList = boolsOf (List.replicate n false) := by
              unfold boolsOf
              rw [List.map_replicate, Nat.mul_one]
              exact toList_madeCells_one _ _
            rw [← e]
            exact hmown
          have HUM := Lib.hid hum
          have HBM := Lib.hid hbm
          clear hmown hmg hum hbm
          go_wp2
          clear hmk
          go_loopw [5, 8, 10] (fun m v i wr => ∃ (k na : Nat) (mb : Bool) (acc : List Ar) (U : List Bool) (VA : List Value), k ≤ n ∧ na ≤ k ∧ m = .bool mb ∧ i = .int .i64 k ∧ Hid (na = acc.length) ∧ Hid (U.length = n) ∧ Hid (outerI L k acc mb U = (PP, mF)) ∧ Hid (wr.ownsRow wo.heap.size 4 1 (.slice (some ⟨wo.heap.size, 0, none⟩) n n) n (boolsOf U)) ∧ Hid (wr.ownsRow wo.heap.size 24 1 v na VA) ∧ Hid (Recs wr VA acc) ∧ Hid (Below wo.heap.size wo wr)) (fun _ _ i _ => n - (intOf i).toNat)
          case atStart => exact ⟨0, 0, false, [], List.replicate n false, [], by omega, by omega, rfl, rfl, rfl, by simp [Hid], by have h := HP.out; unfold pass at h; rw [← HN.out] at h; exact h, HUM, World.ownsRow_nil _ _ _ _, Recs.nil _, HBM⟩
          case round =>
            clear HUM HBM wm
            obtain ⟨i, na, mb, acc, U, VA, hin, hna, rfl, rfl, HNA, HUL, HOU, HU, HVA, HRA, HBK⟩ := hrel
            by_cases hlt : i < n
            · have hiL : i < L.length := by rw [← HN.out]; exact hlt
              have hiU : i < U.length := by rw [HUL.out]; exact hlt
              have hUi : U[i]? = some U[i] := List.getElem?_eq_getElem hiU
              have cU := HU.out.cells (g := wo.heap.size) rfl i (.bool U[i]) (by simp [boolsOf, hUi])
              rw [addAt] at cU
              have i0' : (0 : Int) ≤ (i : Int) := by omega
              have i1' : (i : Int) < (n : Int) := by omega
              have HUI := Lib.hid hUi
              generalize U[i] = ui at cU HUI
              cases ui with
              | true =>
                have HOU2 : Hid (outerI L (i + 1) acc mb U = (PP, mF)) := (outerI_used hiL HUI.out).symm.trans HOU.out
                clear hUi hiU hiL
                go_wp2
                go_roundw
                case rel => exact ⟨i + 1, na, mb, acc, U, VA, by omega, by omega, rfl, by go_num, HNA, HUL, HOU2, HU, HVA, HRA, HBK⟩
                case measure => simp [intOf]; omega
              | false =>
                have hov := (outerI_free (acc := acc) (m := mb) hiL HUI.out).symm.trans HOU.out
                obtain ⟨⟨rF, mI, UI⟩, hinn⟩ : ∃ s, innerI L (i + 1) L[i] mb U = s := ⟨_, rfl⟩
                rw [hinn] at hov
                have HOV := Lib.hid hov
                have hul := innerI_len L _ (i + 1) rfl L[i] mb U
                rw [hinn, HUL.out] at hul
                have HULI := Lib.hid hul
                have HIN := Lib.hid hinn
                obtain ⟨gi, ci, hVi, hRi⟩ := (HR.out.map (fun g hg => KeepAll.below HBK.out g _ hg)).get i hiL
                obtain ⟨gv, capv, hev, _, _⟩ := HV.out.form (by omega)
                obtain rfl : Av = some ⟨gv, 0, none⟩ := by injection hev
                clear hev
                have hVw := own_below HV.out HBK.out
                have cV := hVw.cells (g := gv) rfl i _ hVi
                rw [addAt] at cV
                have HRI := Lib.hid hRi
                generalize L[i] = ai at HRI HIN
                clear hov hul hinn hVi hRi hVw hUi hiU hiL
                go_wp2
                go_loopw [5, 11, 12] (fun m r1 z wr => ∃ (j : Nat) (mb' : Bool) (r : Ar) (U' : List Bool) (gr cr : Nat), i + 1 ≤ j ∧ j ≤ n ∧ m = .bool mb' ∧ z = .int .i64 j ∧ r1 = .slice (some ⟨gr, 0, none⟩) 4 cr ∧ Hid (Rec wr gr r) ∧ Hid (U'.length = n) ∧ Hid (innerI L j r mb' U' = (rF, mI, UI)) ∧ Hid (wr.ownsRow wo.heap.size 4 1 (.slice (some ⟨wo.heap.size, 0, none⟩) n n) n (boolsOf U')) ∧ Hid (wr.ownsRow wo.heap.size 24 1 u8 na VA) ∧ Hid (Recs wr VA acc) ∧ Hid (Below wo.heap.size wo wr)) (fun _ _ z _ => n - (intOf z).toNat)
                case atStart => exact ⟨i + 1, mb, ai, U, gi, ci, Nat.le_refl _, by omega, rfl, by go_num, rfl, HRI, HUL, HIN, HU, HVA, HRA, HBK⟩
                clear cU cV HU HVA HRA HBK HRI HIN HOU HUL HUI
                case round =>
                  obtain ⟨j, mb', r, U', gr, cr, hij, hjn, rfl, rfl, rfl, HRR, HUL, HIN, HU, HVA, HRA, HBK⟩ := hrel
                  by_cases hjlt : j < n
                  · have hjL : j < L.length := by rw [← HN.out]; exact hjlt
                    have hjU : j < U'.length := by rw [HUL.out]; exact hjlt
                    have hUj : U'[j]? = some U'[j] := List.getElem?_eq_getElem hjU
                    have cU := HU.out.cells (g := wo.heap.size) rfl j (.bool U'[j]) (by simp [boolsOf, hUj])
                    rw [addAt] at cU
                    have j0' : (0 : Int) ≤ (j : Int) := by omega
                    have j1' : (j : Int) < (n : Int) := by omega
                    have HUJ := Lib.hid hUj
                    generalize U'[j] = uj at cU HUJ
                    cases uj with
                    | true =>
                      have HIN2 : Hid (innerI L (j + 1) r mb' U' = (rF, mI, UI)) := (innerI_used hjL HUJ.out).symm.trans HIN.out
                      clear hUj hjU hjL
                      go_wp2
                      go_roundw
                      case rel => exact ⟨j + 1, mb', r, U', gr, cr, by omega, by omega, rfl, by go_num, rfl, HRR, HUL, HIN2, HU, HVA, HRA, HBK⟩
                      case measure => simp [intOf]; omega
                    | false =>
                      obtain ⟨gj, cj, hVj, hRj⟩ := (HR.out.map (fun g hg => KeepAll.below HBK.out g _ hg)).get j hjL
                      have hVw := own_below HV.out HBK.out
                      have cV := hVw.cells (g := gv) rfl j _ hVj
                      rw [addAt] at cV
                      have HRJ := Lib.hid hRj
                      have HMISS := Lib.hid (fun (hp : pover r L[j] = false) => (innerI_miss (r := r) (m := mb') hjL HUJ.out hp).symm.trans HIN.out)
                      have HHIT := Lib.hid (fun (hp : pover r L[j] = true) => (innerI_hit (r := r) (m := mb') hjL HUJ.out hp).symm.trans HIN.out)
                      generalize L[j] = aj at HRJ HMISS HHIT
                      have HCALL := Lib.hid (isover_any r aj gr gj cr cj wr HRR.out HRJ.out)
                      clear hVj hRj hVw hUj hjU hjL
                      go_wp2_with fail
                      refine HCALL.out.mono ?_
                      rintro e w1 ⟨rfl, hb1⟩
                      have hB1 := HBK.out.trans (hb1.mono HBK.out.size)
                      have hK1 := KeepAll.below hb1
                      cases hp : pover r aj with
                      | false =>
                        have HIN2 := Lib.hid (HMISS.out hp)
                        have HRR2 := Lib.hid (HRR.out.below hb1)
                        have HU2 := Lib.hid (own_below HU.out hb1)
                        have HVA2 := Lib.hid (own_below HVA.out hb1)
                        have HRA2 := Lib.hid (HRA.out.map fun g hg => hK1 g _ hg)
                        have HB2 := Lib.hid hB1
                        clear hp hb1 hB1 hK1 cU cV HCALL
                        go_wp2
                        go_roundw
                        case rel => exact ⟨j + 1, mb', r, U', gr, cr, by omega, by omega, rfl, by go_num, rfl, HRR2, HUL, HIN2, HU2, HVA2, HRA2, HB2⟩
                        case measure => simp [intOf]; omega
                      | true =>
                        have HIN2 := Lib.hid (HHIT.out hp)
                        have hR1 := HRR.out.below hb1
                        have hR2 := HRJ.out.below hb1
                        have hS0 := hR1.ss hR2
                        have hSD := hS0.later (Below.refl _ _).drew
                        have hU2 := own_below HU.out hb1
                        have HVA2 := Lib.hid (own_below HVA.out hb1)
                        have HRA2 := Lib.hid (HRA.out.map fun g hg => hK1 g _ hg)
                        clear hp hb1 hK1 cU cV HCALL
                        go_wp2_with fail
                        refine wp_region_plan (List.replicate 30 false) [true, true, true, true, true, true, true, true, true, true, true, true, true, true, true, true, true, true, true, true, true, true, true, true, true, true, true, true, false, true] (S := SS w1 gr gj r.p r.q r.x r.y aj.p aj.q aj.x aj.y) (by kernel_rfl) (by kernel_rfl) (by kernel_rfl) (fun d _ _ _ _ h => by cases d <;> exact h) hSD ?_
                        simp only [List.replicate, swaps]
                        iterate 28
                          refine seq_take (v := ?_) (by rfl) ?_ ?_
                          rotate_left
                          · intro w' hSw
                            obtain ⟨_, c0, c1, c2, c3, d0, d1, d2, d3⟩ := hSw
                            go_simp
                            try (with_reducible rfl)
                          try simp only [Act.put, List.setIfInBounds_toArray, List.set_cons_zero, List.set_cons_succ]
                        refine seq_solo (by rfl) (fun K hK => ?_)
                        go_simp
                        refine hK.out _ _ (hSD.later ((Below.refl _ _).alloc (Nat.le_refl _) _)) (fun _ => ?_)
                        clear hK K
                        try simp only [Act.put, List.setIfInBounds_toArray, List.set_cons_zero, List.set_cons_succ]
                        refine seq_take (v := ?_) (by rfl) ?_ ?_
                        rotate_left
                        · intro w' hSw
                          go_simp
                          try (with_reducible rfl)
                        try simp only [Act.put, List.setIfInBounds_toArray, List.set_cons_zero, List.set_cons_succ]
                        refine seq_done ?_
                        have hbN : Below w1.heap.size w1 (w1.alloc (.cells #[.int .i64 (min r.p aj.p), .int .i64 (min r.q aj.q), .int .i64 (max r.x aj.x), .int .i64 (max r.y aj.y)] 3)).drew := ((Below.refl _ _).alloc (Nat.le_refl _) _).drew
                        have HRN := Lib.hid ((Rec.made w1 (join r aj)).below (Below.refl _ _).drew)
                        have hBN := hB1.trans (hbN.mono hB1.size)
                        have hUN := own_below hU2 hbN
                        have HVAN := Lib.hid (own_below HVA2.out hbN)
                        have HRAN := Lib.hid (HRA2.out.map fun g hg => KeepAll.below hbN g _ hg)
                        clear hbN hSD hS0 hR1 hR2 HRR HRJ
                        simp only [join] at HRN
                        generalize (w1.alloc (.cells #[.int .i64 (min r.p aj.p), .int .i64 (min r.q aj.q), .int .i64 (max r.x aj.x), .int .i64 (max r.y aj.y)] 3)).drew = w2 at *
                        generalize w1.heap.size = gN at *
                        have hTU : Tag w2 wo.heap.size 4 := own_tag hUN _ rfl
                        have fU := hUN.frozenAt j
                        have cU := hUN.cells (g := wo.heap.size) rfl j (.bool false) (by simp [boolsOf, HUJ.out])
                        rw [addAt] at cU
                        have hKS := KeepBut.set hTU j (.bool true)
                        have HU3 : Hid ((w2.setCell ⟨wo.heap.size, j, none⟩ (.bool true)).ownsRow wo.heap.size 4 1 (.slice (some ⟨wo.heap.size, 0, none⟩) n n) n (boolsOf (U'.set j true))) := by
                          have e : boolsOf (U'.set j true) = (boolsOf U').set j (.bool true) := by unfold boolsOf; rw [List.map_set]
                          show (w2.setCell ⟨wo.heap.size, j, none⟩ (.bool true)).ownsRow wo.heap.size 4 1 (.slice (some ⟨wo.heap.size, 0, none⟩) n n) n (boolsOf (U'.set j true))
                          rw [e]
                          exact (hUN.stored j _).1
                        have HR3 := Lib.hid (HRN.out.same (hKS gN _ (by decide) HRN.out.tag))
                        have HVA3 := Lib.hid (hKS.own HVAN.out (by decide))
                        have HRA3 := Lib.hid (hKS.recs HRAN.out (by decide))
                        have HB3 := Lib.hid (hBN.setCell (Nat.le_refl wo.heap.size) (p := ⟨wo.heap.size, j, none⟩) (.bool true))
                        clear hKS hUN HVAN HRAN hBN HRN hB1 hU2 HVA2 HRA2 hTU
                        go_wp2
                        go_roundw
                        case rel => exact ⟨j + 1, true, join r aj, U'.set j true, gN, 4, by omega, by omega, rfl, by go_num, rfl, HR3, by show (U'.set j true).length = n; rw [List.length_set]; exact HUL.out, HIN2, HU3, HVA3, HRA3, HB3⟩
                        case measure => simp [intOf]; omega
                  · obtain rfl : j = n := by omega
                    have hst := HIN.out
                    rw [innerI_stop (by have := HN.out; omega)] at hst
                    simp only [Prod.mk.injEq] at hst
                    have HEQ := Lib.hid hst
                    clear hst hij
                    have hv := HVA.out
                    have hkb := KeepAll.below ((Below.refl wr.heap.size wr).alloc (Nat.le_refl _) (.cells #[.slice (some ⟨gr, 0, none⟩) 4 cr] 24))
                    have hsz := HBK.out.size
                    have HNAI := Lib.hid HNA.out
                    go_wp2_with (at_builtin; refine wpList_append_own _ rfl _ _ 106 rfl wo.heap.size 24 i0 _ 1 24 Tryd.underlying106 hi hz0 hz1 hz2 rfl (by decide) _ _ _ rfl (hv.alloc _) ⟨wr.heap.size, 0, none⟩ 1 1 [.slice (some ⟨gr, 0, none⟩) 4 cr] rfl rfl ?c1 ?c2 ?c3 ?c4 ?c5 ?_)
                    case c1 => exact newAt _ [.slice (some ⟨gr, 0, none⟩) 4 cr] _ _ rfl
                    case c2 => intro u hu; simp at hu; subst hu; rfl
                    case c3 => unfold maxLen; omega
                    case c4 => omega
                    case c5 => simp; omega
                    intro v' w4 hown' hgrow _
                    have hKG := (hkb.but 24).trans (KeepBut.grown hgrow (hv.alloc _))
                    have HO4 := Lib.hid hown'
                    have HU4 := Lib.hid (hKG.own HU.out (by decide))
                    have HRA4 := Lib.hid ((hKG.recs HRA.out (by decide)).snoc ⟨gr, cr, rfl, HRR.out.same (hKG gr _ (by decide) HRR.out.tag)⟩)
                    have HB4 := Lib.hid ((HBK.out.alloc hsz _).grown hgrow (by simp; omega) (fun j hj => (hv.lt j hj).1))
                    clear hgrow hown' hKG hkb hv hsz HU HVA HRA HBK HRR
                    go_wp2
                    go_roundw
                    case rel =>
                      obtain ⟨rfl, rfl, rfl⟩ := HEQ.out
                      exact ⟨i + 1, na + 1, mb', acc ++ [r], U', VA ++ [.slice (some ⟨gr, 0, none⟩) 4 cr], by omega, by omega, rfl, by go_num, by have := HNA.out; show na + 1 = (acc ++ [r]).length; simp; omega, HUL, HOV, HU4, HO4, HRA4, HB4⟩
                    case measure => simp [intOf]; omega
            · obtain rfl : i = n := by omega
              have hst := HOU.out
              rw [outerI_stop (by have := HN.out; omega)] at hst
              simp only [Prod.mk.injEq] at hst
              have HEQ := Lib.hid hst
              obtain ⟨Aw, cw, rfl⟩ := own_slice HVA.out
              clear hst
              go_wp2
              go_roundw
              case rel =>
                obtain ⟨rfl, rfl⟩ := HEQ.out
                exact ⟨mb, na, acc, VA, rfl, by omega, HNA, own_lower HVA.out HBW.out.size, HRA, (HS.out.keep ((KeepAll.below HBK.out).but 4) (by decide) (by decide)), HBW.out.trans (HBK.out.mono HBW.out.size), HSN⟩
              case measure =>
                obtain ⟨rfl, rfl⟩ := HEQ.out
                have h1 := HLT.out
                have h2 := HNA.out
                have h3 := HN.out
                cases mb with
                | false => simp
                | true => have := h1 rfl; simp; omega
end Go.Proofs.YtokooampmhcfeaaDoor.Rg
