/- The statement's function returns true at every text. -/
import Derived.Test.YtfeffdjnjckjaaaGreatDoorQRefOdd
import Derived.Test.YtfeffdjnjckjaaaGreatDoorJLives
namespace Go.Proofs.YtfeffdjnjckjaaaGreatDoor.Rg
open Go.RowKit

theorem pars_bin (s : ByteArray) (x : Ex) (hs : s.size ≤ 500) (h : parsP s = some x) : binX x := by
  have hl : s.data.toList.length = s.size := by simp
  unfold parsP at h
  rw [if_neg (by omega)] at h
  split at h
  · rename_i y r he
    split at h
    · injection h with h
      subst h
      exact lv_b _ _ _ _ _ _ (by omega) he
    · cases h
  · cases h

set_option maxHeartbeats 16000000 in
set_option maxRecDepth 100000 in
theorem formula_law (s : ByteArray) (w : World) : Calls Tryz.prog 3 #[.string s] w fun e w' => e = .returned (.bool true) ∧ Below w.heap.size w w' := by
  by_cases hbig : 2147483647 < s.size
  · have hd : decide (2147483647 < (s.size : Int)) = true := by simp; omega
    go_enter Tryz.func3, Tryz.ntmps3
    go_wp2
    go_ret
    exact ⟨rfl, Below.refl _ _⟩
  · have hd : decide (2147483647 < (s.size : Int)) = false := by simp; omega
    have HPA := Lib.hid (parse_any s w)
    unfold ParsePost at HPA
    have HL := Lib.hid (fun w => Rx.lives_any w)
    cases hp : parsP s with
    | none =>
      rw [hp] at HPA
      simp only at HPA
      clear hp hbig
      go_enter Tryz.func3, Tryz.ntmps3
      go_wp2_with fail
      refine HPA.out.mono ?_
      rintro e w1 ⟨hb1, v, rfl⟩
      have HB1 := Lib.hid (show Below w.heap.size w (w1.alloc (.cells (exCells v) 25)) from hb1.alloc hb1.size _)
      obtain ⟨W, hW⟩ : ∃ W, w1.alloc (.cells (exCells v) 25) = W := ⟨_, rfl⟩
      rw [hW] at HB1
      have HW := Lib.hid hW
      clear hb1 hW
      unfold Ev.val
      unfold exCells at HW
      go_wp2_with fail
      rw [HW.out]
      refine (HL.out _).mono ?_
      rintro e w2 ⟨rfl, hb⟩
      have HR := Lib.hid (HB1.out.trans (hb.mono HB1.out.size))
      clear hb
      go_wp2
      go_ret
      exact ⟨rfl, HR.out⟩
    | some x =>
      rw [hp] at HPA
      simp only at HPA
      have HP := Lib.hid hp
      clear hp
      by_cases h500 : 500 < s.size
      · have hd5 : decide (500 < (s.size : Int)) = true := by simp; omega
        clear hbig
        go_enter Tryz.func3, Tryz.ntmps3
        go_wp2_with fail
        refine HPA.out.mono ?_
        rintro e w1 ⟨hb1, v, rfl, _⟩
        have HB1 := Lib.hid (show Below w.heap.size w (w1.alloc (.cells (exCells v) 25)) from hb1.alloc hb1.size _)
        obtain ⟨W, hW⟩ : ∃ W, w1.alloc (.cells (exCells v) 25) = W := ⟨_, rfl⟩
        rw [hW] at HB1
        have HW := Lib.hid hW
        clear hb1 hW
        unfold Ev.val
        unfold exCells at HW
        go_wp2_with fail
        rw [HW.out]
        refine (HL.out _).mono ?_
        rintro e w2 ⟨rfl, hb⟩
        have HR := Lib.hid (HB1.out.trans (hb.mono HB1.out.size))
        clear hb
        go_wp2
        go_ret
        exact ⟨rfl, HR.out⟩
      · have hd5 : decide (500 < (s.size : Int)) = false := by simp; omega
        have HBIN := Lib.hid (pars_bin s x (by omega) HP.out)
        have hs5 : s.size ≤ 500 := by omega
        obtain ⟨q, hq⟩ : ∃ q, oddX x = q := ⟨_, rfl⟩
        have HQ := Lib.hid hq
        clear hbig hq h500
        go_enter Tryz.func3, Tryz.ntmps3
        go_wp2_with fail
        refine HPA.out.mono ?_
        rintro e w1 ⟨hb1, v, rfl, hvx⟩
        obtain ⟨j, hj⟩ : ∃ j, w1.heap.size = j := ⟨_, rfl⟩
        obtain ⟨W, hW⟩ : ∃ W, w1.alloc (.cells (exCells v) 25) = W := ⟨_, rfl⟩
        have HF : Hid (Below w.heap.size w W) := by subst hW; exact Lib.hid (hb1.alloc hb1.size _)
        have HB : Hid (Box W j (exCells v) 25) := by subst hW; subst hj; exact Box.made _ _ _
        have HC := Lib.hid (refOf_all x v _ W (hvx.below (by subst hW; exact (Below.refl _ _).alloc (Nat.le_refl _) _)) HBIN.out)
        rw [HQ.out] at HC
        have HJ := Lib.hid hj
        have HW := Lib.hid hW
        clear hj hW hvx hb1 HPA
        unfold Ev.val at HC ⊢
        unfold exCells at HW
        go_upto_region 4 with fail
        rw [HJ.out, HW.out]
        clear HJ HW
        obtain ⟨x0, x1, x2, x3, x4, x5, x6, x7, x8, x9, x10, x11, x12, x13⟩ := HB.out.ex
        go_wp2_with fail
        clear x0 x1 x2 x3 x4 x5 x6 x7 x8 x9 x10 x11 x12 x13
        refine HC.out.mono ?_
        rintro e w2 ⟨rfl, hb⟩
        have HF2 := Lib.hid (HF.out.trans (hb.mono HF.out.size))
        clear hb HC HB HF
        cases q with
        | true =>
          go_wp2_with fail
          refine (HL.out _).mono ?_
          rintro e w3 ⟨rfl, hb⟩
          have HR := Lib.hid (HF2.out.trans (hb.mono HF2.out.size))
          clear hb
          go_wp2
          go_ret
          exact ⟨rfl, HR.out⟩
        | false =>
          obtain ⟨hok, hlen, hback⟩ := pars_good s x hs5 HP.out HQ.out
          have hll := Nat.le_trans (tok_len x 1 hok).1 hlen
          have htx := tok_text x 1
          have G1 := Lib.hid (fun w => gridTokens_any s x HP.out hok hlen w)
          have G2 := Lib.hid (fun w => gridTokens_any (bs (prt 1 x)) x hback hok hlen w)
          have hno := tok_no x 1
          have hts : ((tok 1 x).flatMap tkT).length ≤ 7500 := by rw [htx]; exact hlen
          have TX := Lib.hid (fun A c B w h => implText_any (tok 1 x) hll hts hno A c B w h)
          rw [htx] at TX
          have SM := Lib.hid (fun A1 A2 c1 c2 B1 B2 w h1 h2 => same_any (tok 1 x) hll A1 A2 c1 c2 B1 B2 w h1 h2)
          have hlen0 : (prt 1 x1A2).length ≤ 7500 := by rw [prt1A2]; decide
          have hll0 := Nat.le_trans (tok_len x1A2 1 ok1A2).1 hlen0
          have htx0 := tok_text x1A2 1
          rw [prt1A2] at htx0
          have G3 : Hid (∀ w, Calls Tryz.prog 7 #[.string ⟨#[49, 43, 65, 50]⟩] w (TokPost w 46 (tok 1 x1A2))) := Lib.hid (fun w => gridTokens_any (bs [49, 43, 65, 50]) x1A2 pars1A2 ok1A2 hlen0 w)
          have TX0 := Lib.hid (fun A c B w h => implText_any (tok 1 x1A2) hll0 (by rw [htx0]; decide) (tok_no x1A2 1) A c B w h)
          rw [htx0] at TX0
          have TX1 : Hid (∀ (A : Option Addr) (c B : Nat) (w : World), Tks w B 46 (.slice A (tok 1 x1A2).length c) (tok 1 x1A2) → Calls Tryz.prog 9 #[.slice A (tok 1 x1A2).length c] w fun e w' => e = .returned (.string ⟨#[49, 43, 65, 50]⟩) ∧ Below w.heap.size w w') := TX0
          clear hok hlen hback hll htx hno hts hlen0 hll0 htx0 TX0
          generalize tok 1 x = l at *
          generalize tok 1 x1A2 = l0 at *
          generalize bs (prt 1 x) = PT at *
          go_wp2_with fail
          refine (G1.out _).mono ?_
          rintro e w3 ⟨A3, c3, rfl, hb3, hk3⟩
          have HF3 := Lib.hid (HF2.out.trans (hb3.mono HF2.out.size))
          have HK3 := Lib.hid hk3
          clear hb3 hk3
          have T3 := Lib.hid (TX.out A3 c3 _ w3 HK3.out)
          go_wp2_with fail
          refine T3.out.mono ?_
          rintro e w4 ⟨rfl, hb4⟩
          have HF4 := Lib.hid (HF3.out.trans (hb4.mono HF3.out.size))
          have HK4 := Lib.hid (HK3.out.below hb4)
          clear hb4 T3 HK3
          go_wp2_with fail
          refine (G2.out _).mono ?_
          rintro e w5 ⟨A5, c5, rfl, hb5, hk5⟩
          have HF5 := Lib.hid (HF4.out.trans (hb5.mono HF4.out.size))
          have HK5 := Lib.hid (HK4.out.below hb5)
          have HS := Lib.hid (SM.out A5 A3 c5 c3 _ _ w5 hk5 HK5.out)
          clear hb5 hk5 HK4
          go_wp2_with fail
          refine HS.out.mono ?_
          rintro e w6 ⟨rfl, hb6⟩
          have HF6 := Lib.hid (HF5.out.trans (hb6.mono HF5.out.size))
          clear hb6 HS HK5
          go_wp2_with fail
          refine (G3.out _).mono ?_
          rintro e w7 ⟨A7, c7, rfl, hb7, hk7⟩
          have HF7 := Lib.hid (HF6.out.trans (hb7.mono HF6.out.size))
          have T7 := Lib.hid (TX1.out A7 c7 _ w7 hk7)
          clear hb7 hk7
          go_wp2_with fail
          refine T7.out.mono ?_
          rintro e w8 ⟨rfl, hb8⟩
          have HF8 := Lib.hid (HF7.out.trans (hb8.mono HF7.out.size))
          clear hb8
          go_wp2
          go_ret
          exact ⟨rfl, HF8.out⟩

end Go.Proofs.YtfeffdjnjckjaaaGreatDoor.Rg
