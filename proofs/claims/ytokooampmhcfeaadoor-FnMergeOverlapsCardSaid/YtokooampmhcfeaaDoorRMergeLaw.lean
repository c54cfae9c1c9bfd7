/- The law of merged areas: its call returns true. -/
import Derived.Test.YtokooampmhcfeaaDoorRMergeDoor
import Derived.Test.YtokooampmhcfeaaDoorRApart
import Derived.Test.YtokooampmhcfeaaDoorRFit
import Derived.Test.YtokooampmhcfeaaDoorRPair
import Derived.Deep.DeepCutAuto
namespace Go.Proofs.YtokooampmhcfeaaDoor.Rg
open Go.RowKit

set_option maxHeartbeats 6400000 in
set_option maxRecDepth 100000 in
theorem merge_law (A : Option Addr) (n c : Nat) (one two : Ar) (w : World) (hn : n ≤ 2147483647) (hA : ArgR w A n) (hTab : Tab w) :
    Calls Tryd.prog 6 #[.slice A n c, one.val, two.val] w fun e w' => e = .returned (.bool true) ∧ Below w.heap.size w w' := by
  obtain ⟨i0, hi, hz0, hz1, hz2⟩ := info_parts infoString
  have HTAB := Lib.hid hTab
  have HA := Lib.hid hA
  have HF1 := Lib.hid (fun w => fit_any one w)
  have HF2 := Lib.hid (fun w => fit_any two w)
  have HGX := Lib.hid (fit_good one)
  have HGY := Lib.hid (fit_good two)
  generalize fit one = X at *
  generalize fit two = Y at *
  obtain ⟨a0, a1, a2, a3⟩ := one
  obtain ⟨b0, b1, b2, b3⟩ := two
  simp only [Ar.val] at *
  clear hTab hA
  have hBA : Below w.heap.size w ((w.alloc (.cells #[.int .i64 a0, .int .i64 a1, .int .i64 a2, .int .i64 a3] 22)).alloc (.cells #[.int .i64 b0, .int .i64 b1, .int .i64 b2, .int .i64 b3] 22)) := ((Below.refl _ _).alloc (Nat.le_refl _) _).alloc (by simp) _
  have hB1 : A4 ((w.alloc (.cells #[.int .i64 a0, .int .i64 a1, .int .i64 a2, .int .i64 a3] 22)).alloc (.cells #[.int .i64 b0, .int .i64 b1, .int .i64 b2, .int .i64 b3] 22)) w.heap.size ⟨a0, a1, a2, a3⟩ := (A4.made w ⟨a0, a1, a2, a3⟩).below ((Below.refl _ _).alloc (Nat.le_refl _) _)
  have hB2 : A4 ((w.alloc (.cells #[.int .i64 a0, .int .i64 a1, .int .i64 a2, .int .i64 a3] 22)).alloc (.cells #[.int .i64 b0, .int .i64 b1, .int .i64 b2, .int .i64 b3] 22)) (w.heap.size + 1) ⟨b0, b1, b2, b3⟩ := by
    have h := A4.made (w.alloc (.cells #[.int .i64 a0, .int .i64 a1, .int .i64 a2, .int .i64 a3] 22)) ⟨b0, b1, b2, b3⟩
    simpa using h
  go_enter Tryd.func6, Tryd.ntmps6
  go_upto_region 3 with fail
  generalize (w.alloc (.cells #[.int .i64 a0, .int .i64 a1, .int .i64 a2, .int .i64 a3] 22)).alloc (.cells #[.int .i64 b0, .int .i64 b1, .int .i64 b2, .int .i64 b3] 22) = wA at *
  generalize hg1 : w.heap.size + 1 = g2 at *
  generalize hg0 : w.heap.size = g1 at hB1 ⊢
  have hx1 : A4 wA g1 ⟨a0, a1, a2, a3⟩ := hB1
  have hx2 : A4 wA g2 ⟨b0, b1, b2, b3⟩ := hB2
  have hg12 : g1 < wA.heap.size ∧ g2 < wA.heap.size := ⟨hx1.tag.lt, hx2.tag.lt⟩
  go_cut [7, 8] (fun x y wx => ∃ ga gb : Nat, x = .pointer (some ⟨ga, 0, none⟩) ∧ y = .pointer (some ⟨gb, 0, none⟩) ∧ A4 wx ga X ∧ A4 wx gb Y ∧ Below w.heap.size w wx)
  case first =>
    refine wp_region_inv (fun listed a w' => ∃ (p0 p1 p2 p3 p4 p5 p6 p7 : Bool) (s7 s8 s19 s20 s21 s22 : Value), listed = #[p0, p1, p2, p3, p4, p5, p6, p7] ∧ a = ⟨#[.slice A n c, .agg #[.int .i64 a0, .int .i64 a1, .int .i64 a2, .int .i64 a3], .agg #[.int .i64 b0, .int .i64 b1, .int .i64 b2, .int .i64 b3], undef, .pointer (some ⟨g1, 0, none⟩), .pointer (some ⟨g2, 0, none⟩), .bool false, s7, s8, undef, undef, undef, undef, undef, undef, undef, .slice A n c, .int .i64 n, .bool (decide (2147483647 < (n : Int))), s19, s20, s21, s22, undef, undef, undef, undef, undef, undef, undef, undef, undef, undef, undef, undef, undef, undef, undef, undef, undef, undef, undef, undef, undef, undef, undef, undef, undef, undef, undef, undef, undef, undef, undef, undef, undef, undef, undef, undef, undef, undef, undef, undef, undef, undef, undef, undef, undef, undef, undef, undef, undef, undef, undef, undef, undef, undef, undef, undef, undef, undef, undef, undef, undef], []⟩ ∧ PairI w wA g1 g2 ⟨a0, a1, a2, a3⟩ ⟨b0, b1, b2, b3⟩ X Y p0 p1 p2 p3 p4 p5 p6 p7 s7 s8 s19 s20 s21 s22 w') (by kernel_rfl) ?_ ?_ ?_
    · exact ⟨false, false, false, false, false, false, false, false, undef, undef, undef, undef, undef, undef, rfl, rfl, ⟨hBA.drew, (Below.refl _ _).drew, hx1.below (Below.refl _ _).drew, hx2.below (Below.refl _ _).drew, by simp, by simp, by simp, by simp, by simp, by simp, by simp, by simp, by simp⟩⟩
    · rintro listed a W i ⟨p0, p1, p2, p3, p4, p5, p6, p7, s7, s8, s19, s20, s21, s22, rfl, rfl, hP⟩ hi
      have hc := pair_mem hi (by kernel_rfl)
      have h1 := hP.box1
      have h2 := hP.box2
      have hlt : i < 8 := by
        rcases Nat.lt_or_ge i 8 with h | h
        · exact h
        · exfalso
          obtain ⟨j, rfl⟩ : ∃ j, i = j + 8 := ⟨i - 8, by omega⟩
          simp [pairChk] at hc
      clear hi
      obtain ⟨x0, x1, x2, x3⟩ := And.intro h1.c0 (And.intro h1.c1 (And.intro h1.c2 h1.c3))
      obtain ⟨y0, y1, y2, y3⟩ := And.intro h2.c0 (And.intro h2.c1 (And.intro h2.c2 h2.c3))
      have : i = 0 ∨ i = 1 ∨ i = 2 ∨ i = 3 ∨ i = 4 ∨ i = 5 ∨ i = 6 ∨ i = 7 := by omega
      clear hlt
      rcases this with rfl | rfl | rfl | rfl | rfl | rfl | rfl | rfl
      · refine inv_step (o := _) rfl (by rfl) (fun K hK => ?_)
        go_simp
        refine hK.out _ _ ⟨true, p1, p2, p3, p4, p5, p6, p7, s7, s8, _, s20, s21, s22, rfl, rfl, ?_⟩
        exact { hP with l0 := fun _ => rfl }
      · simp only [pairChk, Bool.and_eq_true, Bool.not_eq_true'] at hc
        obtain rfl := hP.l0 hc.2
        refine inv_step (o := _) rfl (by rfl) (fun K hK => ?_)
        simp only [Ar.val]
        go_simp
        refine (HF1.out _).mono ?_
        rintro e W1 ⟨rfl, hb⟩
        refine hK.out _ _ ⟨p0, true, p2, p3, p4, p5, p6, p7, s7, s8, _, _, s21, s22, rfl, rfl, ?_⟩
        exact { hP.later hb with l1 := fun _ => rfl }
      · refine inv_step (o := _) rfl (by rfl) (fun K hK => ?_)
        go_simp
        refine hK.out _ _ ⟨p0, p1, true, p3, p4, p5, p6, p7, s7, s8, s19, s20, _, s22, rfl, rfl, ?_⟩
        exact { hP with l2 := fun _ => rfl }
      · simp only [pairChk, Bool.and_eq_true, Bool.not_eq_true'] at hc
        obtain rfl := hP.l2 hc.1.2
        refine inv_step (o := _) rfl (by rfl) (fun K hK => ?_)
        simp only [Ar.val]
        go_simp
        refine (HF2.out _).mono ?_
        rintro e W1 ⟨rfl, hb⟩
        refine hK.out _ _ ⟨p0, p1, p2, true, p4, p5, p6, p7, s7, s8, s19, s20, _, _, rfl, rfl, ?_⟩
        exact { hP.later hb with l3 := fun _ => rfl }
      · simp only [pairChk, Bool.not_eq_true'] at hc
        obtain rfl : p6 = false := by
          cases p6 with
          | false => rfl
          | true => rw [hP.l6 rfl] at hc; cases hc
        refine inv_step (o := _) rfl (by rfl) (fun K hK => ?_)
        go_simp
        refine hK.out _ _ ⟨p0, p1, p2, p3, true, p5, false, p7, _, s8, s19, s20, s21, s22, rfl, rfl, ?_⟩
        exact hP.new4
      · simp only [pairChk, Bool.not_eq_true'] at hc
        obtain rfl : p7 = false := by
          cases p7 with
          | false => rfl
          | true => rw [hP.l7 rfl] at hc; cases hc
        refine inv_step (o := _) rfl (by rfl) (fun K hK => ?_)
        go_simp
        refine hK.out _ _ ⟨p0, p1, p2, p3, p4, true, p6, false, s7, _, s19, s20, s21, s22, rfl, rfl, ?_⟩
        exact hP.new5
      · simp only [pairChk, Bool.and_eq_true, Bool.not_eq_true'] at hc
        have hc4 : p4 = true := hc.1.1.1.2
        have hc1 : p1 = true := hc.1.2
        clear hc
        subst hc4
        obtain ⟨g, rfl, hg, ha⟩ := hP.l4 rfl
        obtain rfl := hP.l1 hc1
        obtain ⟨z0, z1, z2, z3⟩ := And.intro ha.c0 (And.intro ha.c1 (And.intro ha.c2 ha.c3))
        have f0 := ha.tag.free 0
        have f1 := ha.tag.free 1
        have f2 := ha.tag.free 2
        have f3 := ha.tag.free 3
        refine inv_step (o := _) rfl (by rfl) (fun K hK => ?_)
        simp only [Ar.val, ptr]
        go_simp
        refine hK.out _ _ ⟨p0, p1, p2, p3, true, p5, true, p7, ptr g, s8, s19, _, s21, s22, rfl, rfl, ?_⟩
        exact hP.put6 hBA hg12.1 hg12.2 hg ha
      · simp only [pairChk, Bool.and_eq_true, Bool.not_eq_true'] at hc
        have hc5 : p5 = true := hc.1.1.1.2
        have hc3 : p3 = true := hc.1.2
        clear hc
        subst hc5
        obtain ⟨g, rfl, hg, ha⟩ := hP.l5 rfl
        obtain rfl := hP.l3 hc3
        obtain ⟨z0, z1, z2, z3⟩ := And.intro ha.c0 (And.intro ha.c1 (And.intro ha.c2 ha.c3))
        have f0 := ha.tag.free 0
        have f1 := ha.tag.free 1
        have f2 := ha.tag.free 2
        have f3 := ha.tag.free 3
        refine inv_step (o := _) rfl (by rfl) (fun K hK => ?_)
        simp only [Ar.val, ptr]
        go_simp
        refine hK.out _ _ ⟨p0, p1, p2, p3, p4, true, p6, true, s7, ptr g, s19, s20, s21, _, rfl, rfl, ?_⟩
        exact hP.put7 hBA hg12.1 hg12.2 hg ha
    · rintro listed a W ⟨p0, p1, p2, p3, p4, p5, p6, p7, s7, s8, s19, s20, s21, s22, rfl, rfl, hP⟩ hi
      have hrd := pair_end hi (by kernel_rfl)
      simp only [Bool.and_eq_true] at hrd
      obtain ⟨⟨⟨⟨⟨⟨⟨rfl, rfl⟩, rfl⟩, rfl⟩, rfl⟩, rfl⟩, rfl⟩, rfl⟩ := hrd
      obtain ⟨ga, rfl, _, ha⟩ := hP.l4 rfl
      obtain ⟨gb, rfl, _, hb⟩ := hP.l5 rfl
      obtain rfl := hP.l0 rfl
      obtain rfl := hP.l1 rfl
      obtain rfl := hP.l2 rfl
      obtain rfl := hP.l3 rfl
      rw [if_pos rfl] at ha hb
      go_wp2_with fail
      go_meet
      exact ⟨ga, gb, rfl, rfl, ha, hb, hP.below⟩
  case rest =>
    obtain ⟨ga, gb, rfl, rfl, hX, hY, hB⟩ := hcut
    clear hB1 hB2 hx1 hx2 hg12 hBA HF1 HF2
    clear hg0 hg1
    have hT := HTAB.out
    have HX := Lib.hid hX
    have HY := Lib.hid hY
    have HB := Lib.hid hB
    clear hX hY hB
    go_wp2_with fail
    refine (refapart_any A n c _ hn (HA.out.later HB.out)).mono ?_
    rintro e w1 ⟨A1, m, c1, L, rfl, hO, hap, hgd, hm5, hb1⟩
    have hO1 := hO.reads
    have HM := Lib.hid hO.len
    have HO1 := Lib.hid hO1
    have HAP := Lib.hid hap
    have HGD := Lib.hid hgd
    have HB1 := Lib.hid (HB.out.trans (hb1.mono HB.out.size))
    have HX1 := Lib.hid (HX.out.below hb1)
    have HY1 := Lib.hid (HY.out.below hb1)
    clear hO hO1 hap hgd hb1 HB HX HY hT
    go_wp2
    go_loopw [10, 11] (fun x i wr => ∃ k : Nat, k ≤ m ∧ i = .int .i64 k ∧ Hid (wr.ownsRow w1.heap.size 9 1 x k (strs ((texts L).take k))) ∧ Hid (Below w1.heap.size w1 wr)) (fun _ i _ => m - (intOf i).toNat)
    case atStart => exact ⟨0, by omega, rfl, World.ownsRow_nil _ _ _ _, Below.refl _ _⟩
    case round =>
      obtain ⟨k, hkm, rfl, HV, HBK⟩ := hrel
      by_cases hkl : k < m
      · have hkL : k < L.length := by rw [← HM.out]; exact hkl
        obtain ⟨gl, rfl, hgl, hcl⟩ := (HO1.out.later HBK.out).at k hkL
        obtain ⟨x0, x1, x2, x3⟩ := hcl k hkL
        have htx : (texts L).take (k + 1) = (texts L).take k ++ [L[k].text] := by
          unfold texts
          rw [List.take_add_one, List.getElem?_map, List.getElem?_eq_getElem hkL]
          rfl
        have HTX := Lib.hid htx
        have HCALL := Lib.hid (fun w => text_any L[k] w (HGD.out _ (List.getElem_mem hkL)))
        simp only [Ar.val] at HCALL
        generalize L[k] = ak at x0 x1 x2 x3 HTX HCALL
        generalize ak.text = tk at HTX HCALL
        clear hcl htx hkL
        have i0' : (0 : Int) ≤ (k : Int) := by omega
        have i1' : (k : Int) < (m : Int) := by omega
        go_wp2_with fail
        refine (HCALL.out _).mono ?_
        rintro e w2 ⟨rfl, hb2⟩
        have hv2 := own_below HV.out hb2
        have hB2 := HBK.out.trans (hb2.mono HBK.out.size)
        have hs2 := hB2.size
        clear x0 x1 x2 x3 HV HCALL hb2
        go_wp2_with (at_builtin; refine wpList_append_own _ rfl _ _ 43 rfl w1.heap.size 9 i0 _ 1 16 Tryd.underlying43 hi hz0 hz1 hz2 rfl (by decide) _ _ _ rfl (hv2.alloc _) ⟨w2.heap.size, 0, none⟩ 1 1 [.string ⟨tk.toArray⟩] rfl rfl ?c1 ?c2 ?c3 ?c4 ?c5 ?_)
        case c1 => exact newAt _ [.string ⟨tk.toArray⟩] _ _ rfl
        case c2 => exact fun u hu => one_string u _ hu
        case c3 => unfold maxLen; omega
        case c4 => omega
        case c5 => simp; omega
        intro v' w3 hown' hgrow _
        have HB3 := Lib.hid ((hB2.alloc hs2 _).grown hgrow (by simp; omega) (fun j hj => (hv2.lt j hj).1))
        have HO := Lib.hid hown'
        clear hown' hgrow hv2 hB2 hs2
        go_wp2
        go_roundw
        case rel => exact ⟨k + 1, by omega, by go_num, by rw [HTX.out, strs_snoc]; exact HO.out, HB3⟩
        case measure => simp [intOf]; omega
      · obtain rfl : k = m := by omega
        have hfull : (texts L).take k = texts L := List.take_of_length_le (by have := HM.out; unfold texts; rw [List.length_map]; omega)
        have hv := HV.out
        rw [hfull] at hv
        obtain ⟨A2, c2, rfl⟩ := own_slice hv
        have hlen : k = (texts L).length := by unfold texts; rw [List.length_map]; exact HM.out
        have hrd := (OwnsS.mk (m := k) (c := c2) hv hlen).reads
        have HRD := Lib.hid hrd
        have HX2 := Lib.hid (HX1.out.below HBK.out)
        have HY2 := Lib.hid (HY1.out.below HBK.out)
        have HB2 := Lib.hid (HB1.out.trans (HBK.out.mono HB1.out.size))
        clear hfull hv hlen hrd HV HX1 HY1 HB1 HO1 HBK
        have HC1 := Lib.hid (impl_merge A2 k c2 L L wr HM.out (by omega) HRD.out HGD.out (runs_apart HGD.out HAP.out) (by have := HM.out; omega) HGD.out (HTAB.out.stays HB2.out))
        go_wp2_with fail
        refine HC1.out.mono ?_
        rintro e w3 ⟨A3, m3, c3, rfl, hO3, hb3⟩
        have hm3 := hO3.len
        have hk3 : m3 = k := by
          have := HM.out
          rw [hm3]
          unfold texts
          rw [List.length_map]
          omega
        clear hm3
        subst hk3
        have HX3 := Lib.hid (HX2.out.below hb3)
        have HY3 := Lib.hid (HY2.out.below hb3)
        have HB3 := Lib.hid (HB2.out.trans (hb3.mono HB2.out.size))
        have HRD3 := Lib.hid (HRD.out.later hb3)
        have HC3 := Lib.hid (sameareas_any A3 A2 m3 c3 c2 L w3 HM.out (by omega) HGD.out hO3.reads HRD3.out)
        clear hO3 hb3 HX2 HY2 HB2 HRD HC1
        go_wp2_with fail
        refine HC3.out.mono ?_
        rintro e w4 ⟨rfl, hb4⟩
        have hX4 := HX3.out.below hb4
        have hY4 := HY3.out.below hb4
        have HB4 := Lib.hid (HB3.out.trans (hb4.mono HB3.out.size))
        clear HX3 HY3 HB3 HRD3 HC3 hb4
        have HX4 := Lib.hid hX4
        have HY4 := Lib.hid hY4
        obtain ⟨_, x0, x1, x2, x3⟩ := hX4
        obtain ⟨_, y0, y1, y2, y3⟩ := hY4
        have HOV := Lib.hid (fun w => overlap_any X Y w)
        have HCR := Lib.hid (fun w => crosses_any X Y w)
        simp only [Ar.val] at HOV HCR
        cases ho : overlap X Y with
        | false =>
          rw [ho] at HOV
          clear ho
          go_wp2_with fail
          refine (HOV.out _).mono ?_
          rintro e w5 ⟨rfl, hb5⟩
          have HB5 := Lib.hid (HB4.out.trans (hb5.mono HB4.out.size))
          clear x0 x1 x2 x3 y0 y1 y2 y3 hb5
          go_wp2_with fail
          refine (lives_any _).mono ?_
          rintro e w6 ⟨rfl, hb6⟩
          go_wp2
          go_ret
          exact ⟨rfl, HB5.out.trans (hb6.mono HB5.out.size)⟩
        | true =>
          have HPO := Lib.hid (fun hc => pover_yes (a := X) (b := Y) ho hc)
          rw [ho] at HOV
          clear ho
          go_wp2_with fail
          refine (HOV.out _).mono ?_
          rintro e w5 ⟨rfl, hb5⟩
          have HB5 := Lib.hid (HB4.out.trans (hb5.mono HB4.out.size))
          have HX5 := Lib.hid (HX4.out.below hb5)
          have HY5 := Lib.hid (HY4.out.below hb5)
          clear x0 x1 x2 x3 y0 y1 y2 y3 hb5 HX4 HY4 HB4 HOV
          have hX5 := HX5.out
          have hY5 := HY5.out
          obtain ⟨_, x0, x1, x2, x3⟩ := hX5
          obtain ⟨_, y0, y1, y2, y3⟩ := hY5
          cases hc : crosses X Y with
          | true =>
            rw [hc] at HCR
            clear hc
            go_wp2_with fail
            refine (HCR.out _).mono ?_
            rintro e w6 ⟨rfl, hb6⟩
            have HB6 := Lib.hid (HB5.out.trans (hb6.mono HB5.out.size))
            clear x0 x1 x2 x3 y0 y1 y2 y3 hb6
            go_wp2_with fail
            refine (lives_any _).mono ?_
            rintro e w7 ⟨rfl, hb7⟩
            go_wp2
            go_ret
            exact ⟨rfl, HB6.out.trans (hb7.mono HB6.out.size)⟩
          | false =>
            have HPV := Lib.hid (HPO.out hc)
            rw [hc] at HCR
            clear hc
            go_wp2_with fail
            refine (HCR.out _).mono ?_
            rintro e w6 ⟨rfl, hb6⟩
            have HB6 := Lib.hid (HB5.out.trans (hb6.mono HB5.out.size))
            have HX6 := Lib.hid (HX5.out.below hb6)
            have HY6 := Lib.hid (HY5.out.below hb6)
            clear x0 x1 x2 x3 y0 y1 y2 y3 hb6 HX5 HY5 HB5 HCR HPO
            have hS6 : SS w6 ga gb X.p X.q X.x X.y Y.p Y.q Y.x Y.y w6 := ⟨Below.refl _ _, HX6.out.c0, HX6.out.c1, HX6.out.c2, HX6.out.c3, HY6.out.c0, HY6.out.c1, HY6.out.c2, HY6.out.c3⟩
            have hSD := hS6.later (Below.refl _ _).drew
            have HTX := Lib.hid (fun w => text_any X w HGX.out)
            have HTY := Lib.hid (fun w => text_any Y w HGY.out)
            simp only [Ar.val] at HTX HTY
            have HTAB6 := Lib.hid (HTAB.out.stays HB6.out)
            clear hS6
            go_wp2_with fail
            refine wp_region_plan [false, true, false, false, false, false, false, false, false, false, false] [true, true, false, false, false, false, true, true, true, true, true] (S := SS w6 ga gb X.p X.q X.x X.y Y.p Y.q Y.x Y.y) (by kernel_rfl) (by kernel_rfl) (by kernel_rfl) (fun d _ _ _ _ h => by cases d <;> exact h) hSD ?_
            simp only [swaps]
            iterate 2
              refine seq_take (v := ?_) (by rfl) ?_ ?_
              rotate_left
              · intro w' hSw
                obtain ⟨_, c0, c1, c2, c3, d0, d1, d2, d3⟩ := hSw
                go_simp
                try (with_reducible rfl)
              try simp only [Act.put, List.setIfInBounds_toArray, List.set_cons_zero, List.set_cons_succ]

            refine seq_solo (by rfl) (fun K hK => ?_)
            go_simp
            refine (HTX.out _).mono ?_
            rintro e w7 ⟨rfl, hb7⟩
            have hS7 := hSD.later hb7
            refine hK.out _ _ hS7 (fun _ => ?_)
            clear hK K
            try simp only [Act.put, List.setIfInBounds_toArray, List.set_cons_zero, List.set_cons_succ]
            refine seq_solo (by rfl) (fun K hK => ?_)
            go_simp
            refine (HTY.out _).mono ?_
            rintro e w8 ⟨rfl, hb8⟩
            have hS8 := hS7.later hb8
            refine hK.out _ _ hS8 (fun _ => ?_)
            clear hK K hb7 hb8 hS7 hSD
            try simp only [Act.put, List.setIfInBounds_toArray, List.set_cons_zero, List.set_cons_succ]
            refine seq_solo (by rfl) (fun K hK => ?_)
            go_simp
            have hb9 : Below w8.heap.size w8 (w8.alloc (.cells #[.string ⟨X.text.toArray⟩, .string ⟨Y.text.toArray⟩] 9)) := (Below.refl _ _).alloc (Nat.le_refl _) _
            have hRD : RdS (w8.alloc (.cells #[.string ⟨X.text.toArray⟩, .string ⟨Y.text.toArray⟩] 9)) (some ⟨w8.heap.size, 0, none⟩) (texts [X, Y]) := by
              intro _
              refine ⟨w8.heap.size, rfl, by simp, fun k t hk => ?_⟩
              rcases k with _ | _ | k
              · simp [texts] at hk
                subst hk
                simp [go_sem]
              · simp [texts] at hk
                subst hk
                simp [go_sem]
              · simp [texts] at hk
            have hS9 := hS8.later hb9
            refine hK.out _ _ hS9 (fun _ => ?_)
            clear hK K hb9 hS8
            try simp only [Act.put, List.setIfInBounds_toArray, List.set_cons_zero, List.set_cons_succ]
            have hB9 := HB6.out.trans (hS9.1.mono HB6.out.size)
            generalize w8.alloc (.cells #[.string ⟨X.text.toArray⟩, .string ⟨Y.text.toArray⟩] 9) = w9 at *
            generalize w8.heap.size = g9 at *
            have HCM := Lib.hid (impl_merge (some ⟨g9, 0, none⟩) 2 2 [X, Y] [join X Y] w9 rfl (by decide) hRD (by intro a ha; simp at ha; rcases ha with rfl | rfl <;> first | exact HGX.out | exact HGY.out) (runs_two HPV.out) (by simp) (by intro a ha; simp at ha; subst ha; exact HGX.out.join HGY.out) (HTAB.out.stays hB9))
            clear hRD hB9
            refine seq_solo (by rfl) (fun K hK => ?_)
            go_simp
            refine HCM.out.mono ?_
            rintro e w10 ⟨A10, m10, c10, rfl, hO10, hb10⟩
            have hS10 := hS9.later hb10
            refine hK.out _ _ hS10 (fun _ => ?_)
            clear hK K hS9 hb10 HCM
            try simp only [Act.put, List.setIfInBounds_toArray, List.set_cons_zero, List.set_cons_succ]
            iterate 5
              refine seq_take (v := ?_) (by rfl) ?_ ?_
              rotate_left
              · intro w' hSw
                obtain ⟨_, c0, c1, c2, c3, d0, d1, d2, d3⟩ := hSw
                go_simp
                try (with_reducible rfl)
              try simp only [Act.put, List.setIfInBounds_toArray, List.set_cons_zero, List.set_cons_succ]

            refine seq_done ?_
            have hB10 := HB6.out.trans (hS10.1.mono HB6.out.size)
            have HB10 := Lib.hid hB10
            have hm10 : m10 = 1 := hO10.len
            subst hm10
            have HR10 := Lib.hid hO10.reads
            have HJ := Lib.hid (fun w => join_any X Y w)
            have HGJ := Lib.hid (HGX.out.join HGY.out)
            have HTJ := Lib.hid (fun w => text_any (join X Y) w HGJ.out)
            simp only [Ar.val] at HJ HTJ
            generalize join X Y = J at *
            clear hB10 hO10 HTX HTY HPV HX6 HY6 HB6 HTAB6
            obtain ⟨_, x0, x1, x2, x3, y0, y1, y2, y3⟩ := hS10
            go_wp2_with fail
            refine (HJ.out _).mono ?_
            rintro e w11 ⟨rfl, hb11⟩
            have HB11 := Lib.hid (HB10.out.trans (hb11.mono HB10.out.size))
            have HR11 := Lib.hid (HR10.out.later hb11)
            clear x0 x1 x2 x3 y0 y1 y2 y3 hb11 HB10 HR10 HJ
            go_wp2_with fail
            refine (HTJ.out _).mono ?_
            rintro e w12 ⟨rfl, hb12⟩
            have hba : Below w12.heap.size w12 (w12.alloc (.cells #[.string ⟨J.text.toArray⟩] 9)) := (Below.refl _ _).alloc (Nat.le_refl _) _
            have hRJ : RdS (w12.alloc (.cells #[.string ⟨J.text.toArray⟩] 9)) (some ⟨w12.heap.size, 0, none⟩) (texts [J]) := by
              intro _
              refine ⟨w12.heap.size, rfl, by simp, fun k t hk => ?_⟩
              rcases k with _ | k
              · simp [texts] at hk
                subst hk
                simp [go_sem]
              · simp [texts] at hk
            have HB12 := Lib.hid ((HB11.out.trans (hb12.mono HB11.out.size)).trans (hba.mono (HB11.out.trans (hb12.mono HB11.out.size)).size))
            have HR12 := Lib.hid ((HR11.out.later hb12).later hba)
            have HCS := Lib.hid (sameareas_any A10 (some ⟨w12.heap.size, 0, none⟩) 1 c10 1 [J] _ rfl (by decide) (by intro a ha; simp at ha; subst ha; exact HGJ.out) HR12.out hRJ)
            clear hba hRJ hb12 HB11 HR11 HTJ
            go_wp2_with fail
            refine HCS.out.mono ?_
            rintro e w13 ⟨rfl, hb13⟩
            have HB13 := Lib.hid (HB12.out.trans (hb13.mono HB12.out.size))
            clear hb13 HB12 HR12 HCS
            go_wp2_with fail
            refine (lives_any _).mono ?_
            rintro e w14 ⟨rfl, hb14⟩
            go_wp2
            go_ret
            exact ⟨rfl, HB13.out.trans (hb14.mono HB13.out.size)⟩

set_option maxHeartbeats 1600000 in
set_option maxRecDepth 100000 in
theorem merge_big (A : Option Addr) (n c : Nat) (one two : Ar) (w : World) (hn : 2147483647 < n) :
    Calls Tryd.prog 6 #[.slice A n c, one.val, two.val] w fun e w' => e = .returned (.bool true) ∧ Below w.heap.size w w' := by
  have hi : (2147483647 : Int) < (n : Int) := by omega
  simp only [Ar.val]
  go_enter Tryd.func6, Tryd.ntmps6
  go_wp2
  go_ret
  exact ⟨rfl, ((Below.refl _ _).alloc (Nat.le_refl _) _).alloc (by simp) _⟩

theorem merge_all (A : Option Addr) (n c : Nat) (one two : Ar) (w : World) (hA : ArgR w A n) (hTab : Tab w) :
    Calls Tryd.prog 6 #[.slice A n c, one.val, two.val] w fun e w' => e = .returned (.bool true) ∧ Below w.heap.size w w' := by
  by_cases hn : n ≤ 2147483647
  · exact merge_law A n c one two w hn hA hTab
  · exact merge_big A n c one two w (by omega)
end Go.Proofs.YtokooampmhcfeaaDoor.Rg
