/- The reference's mode, walked. -/
import Derived.Test.YtfnphohdipdmpaaMMode
namespace Go.Proofs.Ytfnphohdipdmpaa.Rg
open Go.RowKit

set_option maxHeartbeats 6400000 in
set_option maxRecDepth 100000 in
theorem mode_any (A : Option Addr) (n c : Nat) (X : List Int) (w : World) (hn : n = X.length) (hn2 : n ≤ 100) (hA : RdV w A X) :
    Calls Try.prog 12 #[.slice A n c] w (ModePost w X) := by
  have HN := Lib.hid hn
  have HA := Lib.hid hA
  have hw0 : Below w.heap.size w (w.alloc (.cells #[.int .i64 0, .int .i64 0, .int .i64 0, .string ⟨#[]⟩, .slice none 0 0] 26)) := (Below.refl _ _).alloc (Nat.le_refl _) _
  have hbx : (w.alloc (.cells #[.int .i64 0, .int .i64 0, .int .i64 0, .string ⟨#[]⟩, .slice none 0 0] 26)).heap[w.heap.size]? = some (.cells #[.int .i64 0, .int .i64 0, .int .i64 0, .string ⟨#[]⟩, .slice none 0 0] 26 (0, 0)) := heap_alloc_new w _
  have HBX := Lib.hid hbx
  have HW0 := Lib.hid hw0
  clear hn hA hbx hw0
  go_enter Try.func12, Try.ntmps12
  go_wp2_with fail
  refine (err_any ⟨#[35, 78, 47, 65]⟩ _).mono ?_
  rintro e w1 ⟨rfl, hb1⟩
  generalize w.alloc (.cells #[.int .i64 0, .int .i64 0, .int .i64 0, .string ⟨#[]⟩, .slice none 0 0] 26) = w0 at *
  have hM0 : MSt w (w1.alloc (.cells (bestCells none) 26)) w.heap.size w1.heap.size none := by
    have hb2 : Below w1.heap.size w1 (w1.alloc (.cells (bestCells none) 26)) := (Below.refl _ _).alloc (Nat.le_refl _) _
    have hB := HW0.out.trans ((hb1.trans (hb2.mono hb1.size)).mono HW0.out.size)
    have hlt : w.heap.size < w0.heap.size := (Array.getElem?_eq_some_iff.1 HBX.out).1
    exact ⟨((hb1.trans (hb2.mono hb1.size)).block _ hlt).trans HBX.out, heap_alloc_new w1 _, hB⟩
  have HM0 := Lib.hid hM0
  have hg23 : w.heap.size < w1.heap.size := by
    have hlt : w.heap.size < w0.heap.size := (Array.getElem?_eq_some_iff.1 HBX.out).1
    have := hb1.size
    omega
  clear hb1 hM0 HBX HW0
  unfold bestCells at HM0
  generalize hG2 : w.heap.size = g2 at *
  generalize hG3 : w1.heap.size = g3 at *
  go_wp2
  go_loopw [4, 5, 6] (fun um ut ui wr => ∃ (k mn : Nat) (tw : Bool) (bo : Option Int), k ≤ n ∧ ui = .int .i64 k ∧ um = .int .i64 mn ∧ ut = .bool tw ∧ Hid (MSt w wr g2 g3 bo) ∧ Hid (MInv X k bo mn tw)) (fun _ _ ui _ => n - (intOf ui).toNat)
  case atStart => exact ⟨0, 1, false, none, by omega, rfl, rfl, rfl, HM0.out, MInv.start X⟩
  clear HM0
  case round =>
    obtain ⟨k, mn, tw, bo, hk, rfl, rfl, rfl, HM, HI⟩ := hrel
    by_cases hkn : k < n
    · obtain ⟨x, hx⟩ : ∃ x, X[k]? = some x := ⟨_, List.getElem?_eq_getElem (by have := HN.out; omega)⟩
      have HXK := Lib.hid hx
      have i0' : (0 : Int) ≤ (k : Int) := by omega
      have i1' : (k : Int) < (n : Int) := by omega
      obtain ⟨g, rfl, hg, hat⟩ := HA.out (by have := HN.out; omega)
      have HAT := Lib.hid hat
      clear hat hx
      go_wp2
      go_loopw [7, 8] (fun uc uj wr => ∃ j : Nat, j ≤ n ∧ uj = .int .i64 j ∧ uc = .int .i64 (((X.take j).count x : Nat) : Int) ∧ Hid (MSt w wr g2 g3 bo)) (fun _ uj _ => n - (intOf uj).toNat)
      case atStart => exact ⟨0, by omega, rfl, by simp, HM⟩
      clear HM
      case round =>
        obtain ⟨j, hj, rfl, rfl, HM⟩ := hrel
        by_cases hjn : j < n
        · obtain ⟨y, hy⟩ : ∃ y, X[j]? = some y := ⟨_, List.getElem?_eq_getElem (by have := HN.out; omega)⟩
          have hct := count_take X j x y hy
          have ss := fun w => same_sv x y w
          generalize decide (x = y) = t at hct ss
          have HCT := Lib.hid hct
          have SS := Lib.hid ss
          clear hct ss
          have j0' : (0 : Int) ≤ (j : Int) := by omega
          have j1' : (j : Int) < (n : Int) := by omega
          have hble := HM.out.below
          have hax := (HAT.out k x HXK.out).same (hble.block g (by omega))
          have hay := (HAT.out j y hy).same (hble.block g (by omega))
          have hgw : g < wr.heap.size := by have := hble.size; omega
          have hcl : (X.take j).count x ≤ 100 := by
            have := List.count_le_length (a := x) (l := X.take j)
            rw [List.length_take] at this
            omega
          generalize hcn : (X.take j).count x = cn at *
          have hS0 : At5 wr.drew g k x ∧ At5 wr.drew g j y := ⟨hax.same rfl, hay.same rfl⟩
          clear hble hy
          go_wp2_with fail
          refine wp_region_plan (List.replicate 9 false) [true, true, true, true, true, true, true, true, false] (S := fun w' => At5 w' g k x ∧ At5 w' g j y) (by kernel_rfl) (by kernel_rfl) (by kernel_rfl) (fun d _ _ _ _ h => by cases d <;> exact h) hS0 ?_
          simp only [List.replicate, swaps]
          iterate 8
            refine seq_take (v := ?_) (by rfl) ?_ ?_
            rotate_left
            · intro w' hSw
              obtain ⟨⟨a0, a1, a2, a3, a4⟩, ⟨b0, b1, b2, b3, b4⟩⟩ := hSw
              go_simp
              try (with_reducible rfl)
            try simp only [Act.put, List.setIfInBounds_toArray, List.set_cons_zero, List.set_cons_succ]

          refine seq_solo (by rfl) (fun K hK => ?_)
          go_simp
          refine (SS.out _).mono ?_
          rintro e w2 ⟨rfl, hb2⟩
          have hbr : Below wr.heap.size wr w2 := (Below.refl _ _).drew.trans hb2
          refine hK.out _ _ ⟨hax.same (hbr.block g hgw), hay.same (hbr.block g hgw)⟩ (fun _ => ?_)
          clear hK K
          refine seq_done ?_
          have HM2 := Lib.hid (HM.out.later hbr)
          clear hS0 hax hay hbr hb2 HM SS
          cases t
          · have HC2 : Hid ((X.take (j + 1)).count x = cn) := by
              show (X.take (j + 1)).count x = cn
              rw [HCT.out]
              simp
            clear HCT
            go_wp2
            go_roundw
            case rel => exact ⟨j + 1, by omega, by go_num, by rw [HC2.out], HM2⟩
            case measure => simp [intOf]; omega
          · have HC2 : Hid ((X.take (j + 1)).count x = cn + 1) := by
              show (X.take (j + 1)).count x = cn + 1
              rw [HCT.out]
              simp
            clear HCT
            go_wp2
            go_roundw
            case rel => exact ⟨j + 1, by omega, by go_num, by rw [HC2.out]; go_num, HM2⟩
            case measure => simp [intOf]; omega
        · obtain rfl : j = n := by omega
          have hfull : X.take j = X := List.take_of_length_le (by have := HN.out; omega)
          rw [hfull]
          have hcl : X.count x ≤ 100 := by
            have := List.count_le_length (a := x) (l := X)
            have := HN.out
            omega
          clear hfull
          by_cases hgt : mn < X.count x
          · have HI2 := Lib.hid (HI.out.better HXK.out hgt)
            have hble := HM.out.below
            obtain ⟨a0, a1, a2, a3, a4⟩ := (HAT.out k x HXK.out).same (hble.block g (by omega))
            have hbest : ∃ a b c d e, wr.heap[g3]? = some (.cells #[a, b, c, d, e] 26 (0, 0)) := by
              cases bo with
              | none => exact ⟨_, _, _, _, _, HM.out.best⟩
              | some m => exact ⟨_, _, _, _, _, HM.out.best⟩
            obtain ⟨p0, p1, p2, p3, p4, hbest⟩ := hbest
            obtain ⟨q0, q1, q2, q3, q4, qf⟩ := five hbest
            have HM2 := Lib.hid (HM.out.put (by omega) (by omega) x)
            have hgti : (mn : Int) < ((X.count x : Nat) : Int) := by omega
            generalize X.count x = cn at *
            clear hble hbest
            go_wp2
            go_roundw
            case rel => exact ⟨k + 1, cn, false, some x, by omega, by go_num, rfl, rfl, HM2, HI2⟩
            case measure => simp [intOf]; omega
          · have hgti : ¬ (mn : Int) < ((X.count x : Nat) : Int) := by omega
            by_cases heq : X.count x = mn
            · have hb1 : (((X.count x : Nat) : Int) == (mn : Int)) = true := by simp [heq]
              by_cases h1 : 1 < mn
              · have h1d : decide (1 < mn) = true := decide_eq_true h1
                have h1I : decide ((1 : Int) < (mn : Int)) = true := decide_eq_true (by omega)
                obtain ⟨m, hbo⟩ : ∃ m, bo = some m := by
                  cases hb : bo with
                  | none =>
                    have := (HI.out.none_ hb).1
                    omega
                  | some m => exact ⟨m, rfl⟩
                subst hbo
                have HT := Lib.hid (HI.out.twice HXK.out heq h1)
                have HKP : Hid (m = x → MInv X (k + 1) (some m) mn tw) := fun e => HI.out.keep HXK.out (.inr ⟨heq, .inr (by rw [e])⟩)
                have ss := fun w => same_sv m x w
                have hdd : m = x ↔ decide (m = x) = true := by simp
                generalize decide (m = x) = t at ss hdd
                have HDD := Lib.hid hdd
                have SS := Lib.hid ss
                have hble := HM.out.below
                have hax := (HAT.out k x HXK.out).same (hble.block g (by omega))
                have hgw : g < wr.heap.size := by have := hble.size; omega
                have hbe := HM.out.best
                have hg3w : g3 < wr.heap.size := (Array.getElem?_eq_some_iff.1 hbe).1
                have hS0 : At5 wr.drew g k x ∧ At5 wr.drew g3 0 m := by
                  obtain ⟨r0, r1, r2, r3, r4, _⟩ := five (w := wr.drew) hbe
                  exact ⟨hax.same rfl, ⟨by simpa using r0, by simpa using r1, by simpa using r2, by simpa using r3, by simpa using r4⟩⟩
                generalize X.count x = cn at *
                subst heq
                clear hble hbe hdd ss HI
                go_wp2_with fail
                refine wp_region_plan (List.replicate 17 false) [true, true, true, true, true, true, true, true, true, true, true, true, true, false, true, true, true] (S := fun w' => At5 w' g k x ∧ At5 w' g3 0 m) (by kernel_rfl) (by kernel_rfl) (by kernel_rfl) (fun d _ _ _ _ h => by cases d <;> exact h) hS0 ?_
                simp only [List.replicate, swaps]
                iterate 13
                  refine seq_take (v := ?_) (by rfl) ?_ ?_
                  rotate_left
                  · intro w' hSw
                    obtain ⟨⟨a0, a1, a2, a3, a4⟩, ⟨b0, b1, b2, b3, b4⟩⟩ := hSw
                    simp only [Nat.zero_mul, Nat.zero_add] at b0 b1 b2 b3 b4
                    go_simp
                    try (with_reducible rfl)
                  try simp only [Act.put, List.setIfInBounds_toArray, List.set_cons_zero, List.set_cons_succ]

                refine seq_solo (by rfl) (fun K hK => ?_)
                go_simp
                refine (SS.out _).mono ?_
                rintro e w2 ⟨rfl, hb2⟩
                have hbr : Below wr.heap.size wr w2 := (Below.refl _ _).drew.trans hb2
                have hS2 : At5 w2 g k x ∧ At5 w2 g3 0 m := ⟨hax.same (hbr.block g hgw), hS0.2.same (hbr.block g3 hg3w)⟩
                refine hK.out _ _ hS2 (fun _ => ?_)
                clear hK K
                try simp only [Act.put, List.setIfInBounds_toArray, List.set_cons_zero, List.set_cons_succ]
                iterate 3
                  refine seq_take (v := ?_) (by rfl) ?_ ?_
                  rotate_left
                  · intro w' hSw
                    go_simp
                    try (with_reducible rfl)
                  try simp only [Act.put, List.setIfInBounds_toArray, List.set_cons_zero, List.set_cons_succ]

                refine seq_done ?_
                have HM2 := Lib.hid (HM.out.later hbr)
                clear hS0 hS2 hax hbr hb2 HM SS
                cases t
                · clear HKP HDD
                  go_wp2
                  go_roundw
                  case rel => exact ⟨k + 1, cn, true, some m, by omega, by go_num, rfl, rfl, HM2, HT⟩
                  case measure => simp [intOf]; omega
                · have HK2 := Lib.hid (HKP.out (HDD.out.2 rfl))
                  clear HKP HDD HT
                  go_wp2
                  go_roundw
                  case rel => exact ⟨k + 1, cn, tw, some m, by omega, by go_num, rfl, rfl, HM2, HK2⟩
                  case measure => simp [intOf]; omega
              · have h1d : decide (1 < mn) = false := decide_eq_false h1
                have h1I : decide ((1 : Int) < (mn : Int)) = false := decide_eq_false (by omega)
                have HKP := Lib.hid (HI.out.keep HXK.out (.inr ⟨heq, .inl (by omega)⟩))
                have HMD := Lib.hid (fun q => HM.out.later (below_drewN wr q))
                generalize X.count x = cn at *
                subst heq
                clear HM HI
                go_wp2_with fail
                go_quiet (fail)
                go_wp2
                go_roundw
                case rel => exact ⟨k + 1, cn, tw, bo, by omega, by go_num, rfl, rfl, HMD.out nq, HKP⟩
                case measure => simp [intOf]; omega
            · have hb1 : (((X.count x : Nat) : Int) == (mn : Int)) = false := beq_false_of_ne (by omega)
              have HKP := Lib.hid (HI.out.keep HXK.out (.inl (by omega)))
              have HMD := Lib.hid (fun q => HM.out.later (below_drewN wr q))
              generalize X.count x = cn at *
              clear HM HI heq
              go_wp2_with fail
              go_quiet (fail)
              go_wp2
              go_roundw
              case rel => exact ⟨k + 1, mn, tw, bo, by omega, by go_num, rfl, rfl, HMD.out nq, HKP⟩
              case measure => simp [intOf]; omega
    · obtain rfl : k = n := by omega
      have hI := HI.out
      rw [HN.out] at hI
      obtain ⟨q0, q1, q2, q3, q4, qf⟩ := five HM.out.box
      have hge : w.heap.size ≤ g2 := by omega
      by_cases htw : tw = true ∨ k = 0
      · have fin : ∀ w2, Below wr.heap.size wr w2 → ModePost w X (.returned doubtV) (((((w2.setCell ⟨g2, 0, none⟩ (.int .i64 6)).setCell ⟨g2, 1, none⟩ (.int .i64 0)).setCell ⟨g2, 2, none⟩ (.int .i64 0)).setCell ⟨g2, 3, none⟩ (.string ⟨#[]⟩)).setCell ⟨g2, 4, none⟩ (.slice none 0 0)) := fun w2 hb2 => ⟨⟨doubtV, rfl, .inl rfl⟩, ((((((HM.out.later hb2).below).setCell hge _).setCell hge _).setCell hge _).setCell hge _).setCell hge _⟩
        have FIN := Lib.hid fin
        have HBX := Lib.hid HM.out.box
        clear fin HM HI hI
        rcases htw with rfl | h0
        · go_wp2_with fail
          refine (doubt_any _).mono ?_
          rintro e w2 ⟨rfl, hb2⟩
          obtain ⟨s0, s1, s2, s3, s4, sf⟩ := five ((hb2.block g2 (Array.getElem?_eq_some_iff.1 HBX.out).1).trans HBX.out)
          have F := Lib.hid (FIN.out w2 hb2)
          unfold doubtV
          go_wp2
          (try simp only [Exit.inBlock, Exit.then])
          exact bodyPost_ret (v := doubtV) (by simp [results, Try.results12, go_sem, doubtV, s0, s1, s2, s3, s4]) rfl F.out
        · have hk0 : ((k : Int) == 0) = true := by simp [h0]
          cases tw
          · go_wp2_with fail
            refine (doubt_any _).mono ?_
            rintro e w2 ⟨rfl, hb2⟩
            obtain ⟨s0, s1, s2, s3, s4, sf⟩ := five ((hb2.block g2 (Array.getElem?_eq_some_iff.1 HBX.out).1).trans HBX.out)
            have F := Lib.hid (FIN.out w2 hb2)
            unfold doubtV
            go_wp2
            (try simp only [Exit.inBlock, Exit.then])
            exact bodyPost_ret (v := doubtV) (by simp [results, Try.results12, go_sem, doubtV, s0, s1, s2, s3, s4]) rfl F.out
          · go_wp2_with fail
            refine (doubt_any _).mono ?_
            rintro e w2 ⟨rfl, hb2⟩
            obtain ⟨s0, s1, s2, s3, s4, sf⟩ := five ((hb2.block g2 (Array.getElem?_eq_some_iff.1 HBX.out).1).trans HBX.out)
            have F := Lib.hid (FIN.out w2 hb2)
            unfold doubtV
            go_wp2
            (try simp only [Exit.inBlock, Exit.then])
            exact bodyPost_ret (v := doubtV) (by simp [results, Try.results12, go_sem, doubtV, s0, s1, s2, s3, s4]) rfl F.out
      · have htf : tw = false := by
          cases tw with
          | false => rfl
          | true => exact absurd (.inl rfl) htw
        subst htf
        have hk0 : ((k : Int) == 0) = false := beq_false_of_ne (by omega)
        have hble := HM.out.below
        cases bo with
        | none =>
          obtain ⟨r0, r1, r2, r3, r4, _⟩ := five HM.out.best
          clear HM HI hI htw
          go_wp2
          (try simp only [Exit.inBlock, Exit.then])
          exact bodyPost_ret (v := bestV none) (by simp [results, Try.results12, go_sem, bestV, bestCells, q0, q1, q2, q3, q4]) rfl ⟨⟨_, rfl, .inr (.inl rfl)⟩, ((((hble.setCell hge _).setCell hge _).setCell hge _).setCell hge _).setCell hge _⟩
        | some m =>
          have HU := Lib.hid hI.uniq
          obtain ⟨r0, r1, r2, r3, r4, _⟩ := five HM.out.best
          clear HM HI hI htw
          go_wp2
          (try simp only [Exit.inBlock, Exit.then])
          exact bodyPost_ret (v := sv m) (by simp [results, Try.results12, go_sem, sv, q0, q1, q2, q3, q4]) rfl ⟨⟨_, rfl, .inr (.inr ⟨m, rfl, HU.out⟩)⟩, ((((hble.setCell hge _).setCell hge _).setCell hge _).setCell hge _).setCell hge _⟩
end Go.Proofs.Ytfnphohdipdmpaa.Rg
