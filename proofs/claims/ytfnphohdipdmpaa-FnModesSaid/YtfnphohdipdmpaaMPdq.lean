/- The library's sort of floats puts the elements in another order, and ends. -/
import Derived.Test.YtfnphohdipdmpaaMPartial
import Derived.Test.YtfnphohdipdmpaaMBreak
import Derived.Test.YtfnphohdipdmpaaMChoose
import Derived.Test.YtfnphohdipdmpaaMHeap
namespace Go.Proofs.Ytfnphohdipdmpaa.Rg
open Go.RowKit

set_option maxHeartbeats 12800000 in
set_option maxRecDepth 100000 in
theorem pdq_any : ∀ (d blk n cap a b lim : Nat) (X : List Nat) (w : World), b - a ≤ d → RowF w blk X → X.length = n → n ≤ 100 → b ≤ n → a ≤ b → lim ≤ 100 →
    Calls Try.prog 48 #[.slice (some ⟨blk, 0, none⟩) n cap, .int .i64 a, .int .i64 b, .int .i64 lim] w (StPost w blk X) := by
  intro d
  induction d using Nat.strongRecOn with
  | _ d ih =>
  intro blk n cap a b lim X w hd hX hn hs hb hab hlim
  have HIH := Lib.hid ih
  have HS := Lib.hid (St.refl hX)
  have HN := Lib.hid hn
  have hs2 : n ≤ 1000000 := by omega
  clear hX hn ih
  go_enter Try.func48, Try.ntmps48
  go_wp2
  go_loopw [1, 2, 3, 8, 9] (fun ua ub ul u8 u9 wr => ∃ (a1 b1 lm : Nat) (bal par : Bool), ua = .int .i64 a1 ∧ ub = .int .i64 b1 ∧ ul = .int .i64 lm ∧ u8 = .bool bal ∧ u9 = .bool par ∧ a1 ≤ b1 ∧ b1 ≤ n ∧ lm ≤ 100 ∧ b1 - a1 ≤ d ∧ Hid (St w blk X wr)) (fun ua ub _ _ _ _ => (intOf ub).toNat - (intOf ua).toNat)
  case atStart => exact ⟨a, b, lim, true, true, rfl, rfl, rfl, rfl, rfl, hab, hb, hlim, hd, HS⟩
  clear HS hd hb hab hlim
  case round =>
    obtain ⟨a1, b1, lm, bal, par, rfl, rfl, rfl, rfl, rfl, hab, hb, hlm, hd, HS⟩ := hrel
    by_cases hlen : (b1 : Int) - (a1 : Int) ≤ 12
    · obtain ⟨X1, hr1, hl1, HC⟩ := HS.out.call HN.out
      have CL := Lib.hid (insertion_any blk n cap a1 b1 X1 _ hr1 hl1 hs2 hb hab)
      clear hr1 hl1 HS
      go_wp2_with fail
      refine CL.out.mono ?_
      rintro e w1 ⟨rfl, hst1⟩
      have HS := Lib.hid (HC.out w1 hst1)
      clear CL hst1 HC
      go_wp2
      go_end0
      exact ⟨rfl, HS.out⟩
    · have hab12 : a1 + 12 < b1 := by omega
      by_cases hl0 : lm = 0
      · have hlb : ((lm : Int) == 0) = true := by simp [hl0]
        clear hl0
        obtain ⟨X1, hr1, hl1, HC⟩ := HS.out.call HN.out
        have CL := Lib.hid (heap_any blk n cap a1 b1 X1 _ hr1 hl1 hs2 hb (by omega))
        clear hr1 hl1 HS
        go_wp2_with fail
        refine CL.out.mono ?_
        rintro e w1 ⟨rfl, hst1⟩
        have HS := Lib.hid (HC.out w1 hst1)
        clear CL hst1 HC
        go_wp2
        go_end0
        exact ⟨rfl, HS.out⟩
      · have hlb : ((lm : Int) == 0) = false := beq_false_of_ne (by omega)
        go_upto_if 35 with fail
        go_cut [3] from 19 to 133 (fun u wx => ∃ lm2 : Nat, u = .int .i64 lm2 ∧ lm2 ≤ 100 ∧ Hid (St w blk X wx))
        case first =>
          cases bal
          · obtain ⟨X1, hr1, hl1, HC⟩ := HS.out.call HN.out
            have CL := Lib.hid (break_any blk n cap a1 b1 X1 _ hr1 hl1 hs hb hab12)
            clear hr1 hl1 HS
            go_wp2_with fail
            refine CL.out.mono ?_
            rintro e w1 ⟨rfl, hst1⟩
            have HS := Lib.hid (HC.out w1 hst1)
            clear CL hst1 HC
            go_wp2
            go_meet
            case rel => exact ⟨lm - 1, by go_num, by omega, HS⟩
          · go_wp2
            go_meet
            case rel => exact ⟨lm, rfl, hlm, HS⟩
        clear HS hlb hl0
        obtain ⟨lm2, rfl, hlm2, HS⟩ := hcut
        obtain ⟨X1, hr1, hl1, HC⟩ := HS.out.call HN.out
        have CL := Lib.hid (choose_any blk n cap a1 b1 X1 _ hr1 hl1 hs2 hb hab12)
        clear hr1 hl1 HS
        go_wp2_with fail
        refine CL.out.mono ?_
        rintro e w1 ⟨p, h, rfl, hp1, hp2, hh, hst1⟩
        have HS := Lib.hid (HC.out w1 hst1)
        clear CL hst1 HC
        go_upto_if 50 with fail
        go_cut [11, 12] from 19 to 133 (fun u v wx => ∃ (p2 : Nat) (h2 : Int), u = .int .i64 p2 ∧ v = .int .i64 h2 ∧ a1 ≤ p2 ∧ p2 < b1 ∧ Hid (St w blk X wx))
        case first =>
          by_cases h2 : h = 2
          · have hb2 : (h == 2) = true := by simp [h2]
            clear h2 hh
            obtain ⟨X1, hr1, hl1, HC⟩ := HS.out.call HN.out
            have CL := Lib.hid (reverse_any blk n cap a1 b1 X1 _ hr1 hl1 hs2 hb (by omega))
            clear hr1 hl1 HS
            go_wp2_with fail
            refine CL.out.mono ?_
            rintro e w2 ⟨rfl, hst1⟩
            have HS := Lib.hid (HC.out w2 hst1)
            clear CL hst1 HC
            go_wp2
            go_meet
            case rel => exact ⟨(b1 - 1) - (p - a1), 1, by go_num, rfl, by omega, by omega, HS⟩
          · have hb2 : (h == 2) = false := beq_false_of_ne h2
            clear h2 hh
            go_wp2
            go_meet
            case rel => exact ⟨p, h, rfl, rfl, hp1, hp2, HS⟩
        clear HS hp1 hp2 hh
        obtain ⟨p2, h2, rfl, rfl, hp1, hp2, HS⟩ := hcut
        go_upto_region 15 with fail
        go_cut [68] from 19 to 133 (fun u wx => ∃ t : Bool, u = .bool t ∧ Hid (St w blk X wx))
        case first =>
          cases bal
          · go_wp2
            go_meet
            case rel => exact ⟨false, rfl, HS⟩
          · cases par
            · go_wp2
              go_meet
              case rel => exact ⟨false, rfl, HS⟩
            · go_wp2
              go_meet
              case rel => exact ⟨_, rfl, HS⟩
        clear HS
        obtain ⟨t, rfl, HS⟩ := hcut
        go_upto_if 68 with fail
        go_cut [11] from 19 to 133 (fun u wx => u = .int .i64 p2 ∧ Hid (St w blk X wx))
        case first =>
          cases t
          · go_wp2
            go_meet
            case rel => exact ⟨rfl, HS⟩
          · obtain ⟨X1, hr1, hl1, HC⟩ := HS.out.call HN.out
            have CL := Lib.hid (partial_any blk n cap a1 b1 X1 _ hr1 hl1 hs2 hb (by omega))
            clear hr1 hl1 HS
            go_wp2_with fail
            refine CL.out.mono ?_
            rintro e w2 ⟨t2, rfl, hst1⟩
            have HS := Lib.hid (HC.out w2 hst1)
            clear CL hst1 HC
            cases t2
            · go_wp2
              go_meet
              case rel => exact ⟨rfl, HS⟩
            · go_wp2
              go_end0
              exact ⟨rfl, HS.out⟩
        clear HS
        obtain ⟨rfl, HS⟩ := hcut
        go_upto_region 17 with fail
        go_cut [87] from 19 to 133 (fun u wx => ∃ t : Bool, u = .bool t ∧ Hid (St w blk X wx))
        case first =>
          by_cases ha0 : 0 < a1
          · obtain ⟨x, y, ⟨cx, fx⟩, ⟨cy, fy⟩, HQ, HW⟩ := HS.out.pair HN.out (i := a1 - 1) (j := p2) (by omega) (by omega)
            have LS := fun w => less_any x y w
            generalize lessF x y = t at LS
            have d0 : decide (0 < a1) = true := decide_eq_true ha0
            have e0 : (0 : Int) ≤ (p2 : Int) := by omega
            have e1 : (p2 : Int) < (n : Int) := by omega
            have e2 : (0 : Int) ≤ (a1 : Int) - 1 := by omega
            have e3 : (a1 : Int) - 1 < (n : Int) := by omega
            have e4 : ((a1 : Int) - 1).toNat = a1 - 1 := by omega
            clear HS HW
            go_quiet (first | (go_at_call 56; refine Calls.quiet_of_same (LS _)))
            go_wp2
            go_meet
            case rel => exact ⟨_, rfl, HQ.out nq⟩
          · have d0 : decide (0 < a1) = false := decide_eq_false ha0
            go_quiet (fail)
            go_wp2
            go_meet
            case rel => exact ⟨_, rfl, HS.out.drewN nq⟩
        clear HS
        obtain ⟨t, rfl, HS⟩ := hcut
        cases t
        · obtain ⟨X1, hr1, hl1, HC⟩ := HS.out.call HN.out
          have CL := Lib.hid (partition_any blk n cap a1 b1 p2 X1 _ hr1 hl1 hs2 hb (by omega) hp2)
          clear hr1 hl1 HS
          go_wp2_with fail
          refine CL.out.mono ?_
          rintro e w2 ⟨m, al, rfl, hm1, hm2, hst1⟩
          have HS := Lib.hid (HC.out w2 hst1)
          clear CL hst1 HC
          by_cases hlr : (m : Int) - (a1 : Int) < (b1 : Int) - (m : Int)
          · obtain ⟨X1, hr1, hl1, HC⟩ := HS.out.call HN.out
            have CL := Lib.hid (HIH.out (m - a1) (by omega) blk n cap a1 m lm2 X1 w2 (Nat.le_refl _) hr1 hl1 hs (by omega) hm1 hlm2)
            clear hr1 hl1 HS
            go_wp2_with fail
            refine CL.out.mono ?_
            rintro e w3 ⟨rfl, hst1⟩
            have HS := Lib.hid (HC.out w3 hst1)
            clear CL hst1 HC
            go_wp2
            go_roundw
            case rel => exact ⟨m + 1, b1, lm2, _, al, by go_num, rfl, rfl, rfl, rfl, by omega, hb, hlm2, by omega, HS⟩
            case measure => simp [intOf]; omega
          · obtain ⟨X1, hr1, hl1, HC⟩ := HS.out.call HN.out
            have hmi : (m : Int) + 1 = ((m + 1 : Nat) : Int) := by omega
            have CL := Lib.hid (HIH.out (b1 - (m + 1)) (by omega) blk n cap (m + 1) b1 lm2 X1 w2 (Nat.le_refl _) hr1 hl1 hs hb (by omega) hlm2)
            generalize m + 1 = m1 at hmi CL
            clear hr1 hl1 HS
            go_wp2_with fail
            refine CL.out.mono ?_
            rintro e w3 ⟨rfl, hst1⟩
            have HS := Lib.hid (HC.out w3 hst1)
            clear CL hst1 HC
            go_wp2
            go_roundw
            case rel => exact ⟨a1, m, lm2, _, al, rfl, rfl, rfl, rfl, rfl, hm1, by omega, hlm2, by omega, HS⟩
            case measure => simp [intOf]; omega
        · obtain ⟨X1, hr1, hl1, HC⟩ := HS.out.call HN.out
          have CL := Lib.hid (parteq_any blk n cap a1 b1 p2 X1 _ hr1 hl1 hs2 hb (by omega) hp1 hp2)
          clear hr1 hl1 HS
          go_wp2_with fail
          refine CL.out.mono ?_
          rintro e w2 ⟨m, rfl, hm1, hm2, hst1⟩
          have HS := Lib.hid (HC.out w2 hst1)
          clear CL hst1 HC
          go_wp2
          go_roundw
          case rel => exact ⟨m, b1, lm2, bal, par, rfl, rfl, rfl, rfl, rfl, hm2, hb, hlm2, by omega, HS⟩
          case measure => simp [intOf]; omega

set_option maxHeartbeats 3200000 in
set_option maxRecDepth 100000 in
theorem slicesort_any (blk n cap : Nat) (X : List Nat) (w : World) (hX : RowF w blk X) (hn : X.length = n) (hs : n ≤ 100) :
    Calls Try.prog 45 #[.slice (some ⟨blk, 0, none⟩) n cap] w (StPost w blk X) := by
  have LN := Lib.hid (Try.bits_Len (n : Int) w (by omega) (by omega))
  have hb := (len_small ⟨n, by omega⟩).1
  simp only at hb
  have PD := Lib.hid (pdq_any n blk n cap 0 n (Lib.bitLen n) X w (by omega) hX hn hs (Nat.le_refl _) (Nat.zero_le _) (by omega))
  simp only [Int.toNat_natCast] at LN
  generalize Lib.bitLen n = L at LN PD hb
  have hn0 : (0 : Int) ≤ (n : Int) := by omega
  clear hX hn hb
  go_enter Try.func45, Try.ntmps45
  go_wp2_with fail
  refine LN.out.mono ?_
  rintro e w1 ⟨rfl, rfl⟩
  go_wp2_with fail
  refine PD.out.mono ?_
  rintro e w2 ⟨rfl, hst1⟩
  go_wp2
  go_end0
  exact ⟨rfl, hst1⟩

set_option maxHeartbeats 3200000 in
set_option maxRecDepth 100000 in
theorem floats_any (blk n cap : Nat) (X : List Nat) (w : World) (hX : RowF w blk X) (hn : X.length = n) (hs : n ≤ 100) :
    Calls Try.prog 36 #[.slice (some ⟨blk, 0, none⟩) n cap] w (StPost w blk X) := by
  have PD := Lib.hid (slicesort_any blk n cap X w hX hn hs)
  clear hX hn
  go_enter Try.func36, Try.ntmps36
  go_wp2_with fail
  refine PD.out.mono ?_
  rintro e w2 ⟨rfl, hst1⟩
  go_wp2
  go_end0
  exact ⟨rfl, hst1⟩
end Go.Proofs.Ytfnphohdipdmpaa.Rg
