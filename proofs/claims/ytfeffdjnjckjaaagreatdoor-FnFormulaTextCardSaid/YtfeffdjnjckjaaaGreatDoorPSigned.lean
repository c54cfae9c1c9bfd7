/- The reader reads a thing with signs ahead of it. -/
import Derived.Test.YtfeffdjnjckjaaaGreatDoorPThing
namespace Go.Proofs.YtfeffdjnjckjaaaGreatDoor.Rg
open Go.RowKit

set_option maxHeartbeats 16000000 in
set_option maxRecDepth 100000 in
theorem signed_step (f : Nat → List UInt8 → R) (hf : LvlOk f) (k : Nat) (ih : ∀ (g : Nat) (s : ByteArray) (r : List UInt8) (d : Nat) (w : World), At w g s r d false → d ≤ 360 → signedA f k d r ≠ .out →
      Calls Tryz.prog 22 #[.pointer (some ⟨g, 0, none⟩)] w (TreePost w g s d (signedA f k d r)))
    (g : Nat) (s : ByteArray) (r : List UInt8) (d : Nat) (w : World) (h : At w g s r d false) (hd : d ≤ 360) (hout : signedA f (k + 1) d r ≠ .out) :
    Calls Tryz.prog 22 #[.pointer (some ⟨g, 0, none⟩)] w (TreePost w g s d (signedA f (k + 1) d r)) := by
  obtain ⟨j, hj⟩ : ∃ j, w.heap.size = j := ⟨_, rfl⟩
  have hgj : g < j := hj ▸ h.lt
  obtain ⟨W, hW⟩ : ∃ W, w.alloc (.cells (exCells Ev.zero) 25) = W := ⟨_, rfl⟩
  have HA : Hid (At W g s r d false) := by subst hW; exact h.alloc _
  have HF : Hid (Fr w W g) := by subst hW; exact (Fr.refl w g).alloc _
  have HB : Hid (Box W j (exCells Ev.zero) 25) := by subst hW; subst hj; exact Box.made _ _ _
  have HJ := Lib.hid hj
  have HW := Lib.hid hW
  have HOUT := Lib.hid hout
  have HLF := Lib.hid hf
  have HIH := Lib.hid ih
  clear hout hf ih
  clear h hj hW
  unfold exCells at HW
  simp only [Ev.zero] at HW
  go_enter Tryz.func22, Tryz.ntmps22
  go_wp2_with fail
  rw [HJ.out, HW.out]
  clear HW
  refine (blanks_any g s r d false W HA.out).mono ?_
  rintro e w1 ⟨rfl, hA, hF⟩
  have HA := Lib.hid hA
  have HF := Lib.hid (HF.out.trans hF)
  have HB := Lib.hid (HB.out.fr hF (by omega))
  clear hA hF
  go_wp2_with fail
  refine (peek_any g s (blk r) d false w1 HA.out).mono ?_
  rintro e w' ⟨rfl, m0, rfl⟩
  have HA := Lib.hid (HA.out.drewN m0)
  have HF := Lib.hid (HF.out.trans (Fr.drewN _ _ m0))
  have HB := Lib.hid (HB.out.drewN m0)
  generalize w1.drewN m0 = w2 at HA HF HB ⊢
  by_cases hs : pk (blk r) = 45 ∨ pk (blk r) = 43
  · have HP : Hid (signedA f (k + 1) d r = if 360 < d + 1 then .bad
        else match signedA f k (d + 1) (blk r).tail with
          | .ok _ rest => .ok .odd rest
          | x => x) := Lib.hid (if_pos hs)
    have HC : Hid (blk r = pk (blk r) :: (blk r).tail) := Lib.hid (pk_cons (by
      rcases hs with h | h
      · rw [h]; decide
      · rw [h]; decide))
    obtain ⟨q, q0, q1, HQ, c1, f1⟩ := HA.out.see
    have HA2 : Hid (At (w2.setCell ⟨g, 1, none⟩ (.int .i64 (q + 1))) g s (blk r).tail d false) := by
      have h1 := HA.out
      rw [HC.out] at h1
      exact h1.step (q + 1) (by rw [HQ.out, ← HC.out])
    have HF := Lib.hid (HF.out.trans (Fr.set g 1 (.int .i64 (q + 1))))
    have HB := Lib.hid (HB.out.other (k := g) 1 (.int .i64 (q + 1)) (by omega))
    by_cases h45 : pk (blk r) = 45
    · have q45 : (((pk (blk r)).toNat : Int) == 45) = true := u8_eq h45
      clear h45 hs
      go_upto_region 10 with fail
      clear c1 f1 q45 
      generalize w2.setCell ⟨g, 1, none⟩ (.int .i64 (q + 1)) = w3 at HA2 HF HB ⊢
      have c2 := HA2.out.c2
      have f2 := HA2.out.free 2
      go_upto_region 11 with fail
      clear c2 f2
      have HA3 := Lib.hid (HA2.out.setDeep ((d : Int) + 1))
      have HF := Lib.hid (HF.out.trans (Fr.set g 2 (.int .i64 ((d : Int) + 1))))
      have HB := Lib.hid (HB.out.other (k := g) 2 (.int .i64 ((d : Int) + 1)) (by omega))
      generalize w3.setCell ⟨g, 2, none⟩ (.int .i64 ((d : Int) + 1)) = w4 at HA3 HF HB ⊢
      have c2 := HA3.out.c2
      by_cases hdeep : 360 < d + 1
      · have hdd : decide (360 < (d : Int) + 1) = true := by simp; omega
        have HZ : Hid (signedA f (k + 1) d r = .bad) := Lib.hid (HP.out.trans (if_pos hdeep))
        clear hdeep
        have b3 := HA3.out.c3
        have bf := HA3.out.free 3
        go_upto_region 13 with fail
        clear b3 bf c2
        have HA := Lib.hid (HA3.out.setBad true)
        have HF := Lib.hid (HF.out.trans (Fr.set g 3 (.bool true)))
        have HB := Lib.hid (HB.out.other (k := g) 3 (.bool true) (by omega))
        generalize w4.setCell ⟨g, 3, none⟩ (.bool true) = wd at HA HF HB ⊢
        obtain ⟨x0, x1, x2, x3, x4, x5, x6, x7, x8, x9, x10, x11, x12, x13⟩ := HB.out.ex
        have ff := HB.out.free
        go_wp2
        refine tree_put Ev.zero rfl rfl HB.out ?_
        rw [HZ.out]
        exact ⟨_, _, _, rfl, HA.out.put _ (by omega), HF.out.put _ (by have := HJ.out; omega)⟩
      · have hdd : decide (360 < (d : Int) + 1) = false := by simp; omega
        have HZ : Hid (signedA f (k + 1) d r = match signedA f k (d + 1) (blk r).tail with
              | .ok _ rest => .ok .odd rest
              | x => x) := Lib.hid (HP.out.trans (if_neg hdeep))
        have hso : signedA f k (d + 1) (blk r).tail ≠ .out := by
          intro h
          apply HOUT.out
          rw [HZ.out, h]
        have e1 : ((d + 1 : Nat) : Int) = (d : Int) + 1 := by omega
        have hA5 : At w4 g s (blk r).tail ((d + 1 : Nat) : Int) false := by rw [e1]; exact HA3.out
        have SG : Hid (Calls Tryz.prog 22 #[.pointer (some ⟨g, 0, none⟩)] w4 (ArgPost (fun d r => signedA f k d r) g s (d + 1) w4 (blk r).tail)) := Lib.hid (HIH.out g s (blk r).tail (d + 1) w4 hA5 (by omega) hso)
        have HSO := Lib.hid hso
        have HDD : Hid (d + 1 ≤ 360) := Lib.hid (by omega)
        clear hso hA5 hdeep e1
        go_wp2_with fail
        clear c2 hdd
        refine SG.out.mono ?_
        intro e w9 hpost
        obtain ⟨v, r3, d3, b4, rfl, hA, hF, hv⟩ := argPost_open (f := fun d r => signedA f k d r) HSO.out hpost
        have hv2 : (b4 = true ∧ signedA f (k + 1) d r = .bad) ∨ (b4 = false ∧ d3 = (d : Int) + 1 ∧ signedA f (k + 1) d r = .ok .odd r3) := by
          have hp := HZ.out
          rcases hv with ⟨h1, h2⟩ | ⟨h1, h2, x, h3, h4⟩
          · have h2 : signedA f k (d + 1) (blk r).tail = .bad := h2
            rw [h2] at hp
            exact .inl ⟨h1, hp⟩
          · have h3 : signedA f k (d + 1) (blk r).tail = .ok x r3 := h3
            rw [h3] at hp
            exact .inr ⟨h1, by rw [h2]; omega, hp⟩
        have HX := Lib.hid hv2
        clear hpost hv hv2 SG HSO
        have HA := Lib.hid hA
        have HF := Lib.hid (HF.out.trans hF)
        have HB := Lib.hid (HB.out.fr hF (by omega))
        clear hA hF
        have hgl : g ≠ w9.heap.size := Nat.ne_of_lt HA.out.lt
        have hjl : j ≠ w9.heap.size := Nat.ne_of_lt HB.out.lt
        have hgl2 : g ≠ w9.heap.size + 1 := by have := HA.out.lt; omega
        have hjl2 : j ≠ w9.heap.size + 1 := by have := HB.out.lt; omega
        have HA := Lib.hid ((HA.out.alloc (.cells (exCells v) 25)).alloc (.cells (exCells { Ev.zero with op := sNeg, A := some ⟨w9.heap.size, 0, none⟩, n := 1, k := 1 }) 25))
        have HF := Lib.hid ((HF.out.alloc (.cells (exCells v) 25)).alloc (.cells (exCells { Ev.zero with op := sNeg, A := some ⟨w9.heap.size, 0, none⟩, n := 1, k := 1 }) 25))
        have HB := Lib.hid ((HB.out.alloc (.cells (exCells v) 25)).alloc (.cells (exCells { Ev.zero with op := sNeg, A := some ⟨w9.heap.size, 0, none⟩, n := 1, k := 1 }) 25))
        have hV := Box.made (w9.alloc (.cells (exCells v) 25)) (exCells { Ev.zero with op := sNeg, A := some ⟨w9.heap.size, 0, none⟩, n := 1, k := 1 }) 25
        have hz9 : (w9.alloc (.cells (exCells v) 25)).heap.size = w9.heap.size + 1 := by simp
        rw [hz9] at hV
        have HV := Lib.hid hV
        clear hV hz9
        obtain ⟨wz, hwz⟩ : ∃ wz, (w9.alloc (.cells (exCells v) 25)).alloc (.cells (exCells { Ev.zero with op := sNeg, A := some ⟨w9.heap.size, 0, none⟩, n := 1, k := 1 }) 25) = wz := ⟨_, rfl⟩
        rw [hwz] at HA HF HB HV
        unfold exCells at hwz
        simp only [Ev.zero, sNeg] at hwz
        have HWZ := Lib.hid hwz
        clear hwz
        unfold Ev.val
        go_upto_region 15 with fail
        rw [HWZ.out]
        clear HWZ
        generalize w9.heap.size = g4 at HV hgl hjl hgl2 hjl2 ⊢
        have c2 := HA.out.c2
        have f2 := HA.out.free 2
        obtain ⟨d4, hd4⟩ : ∃ d4, IntKind.i64.wrap (d3 - 1) = d4 := ⟨_, rfl⟩
        have HD4 := Lib.hid hd4
        go_upto_region 16 with fail
        clear c2 f2 hd4
        have HA := Lib.hid (HA.out.setDeep d4)
        have HF := Lib.hid (HF.out.trans (Fr.set g 2 (.int .i64 d4)))
        have HB := Lib.hid (HB.out.other (k := g) 2 (.int .i64 d4) (by omega))
        have HV := Lib.hid (HV.out.other (k := g) 2 (.int .i64 d4) hgl2.symm)
        generalize wz.setCell ⟨g, 2, none⟩ (.int .i64 d4) = wy at HA HF HB HV ⊢
        obtain ⟨x0, x1, x2, x3, x4, x5, x6, x7, x8, x9, x10, x11, x12, x13⟩ := HB.out.ex
        obtain ⟨y0, y1, y2, y3, y4, y5, y6, y7, y8, y9, y10, y11, y12, y13⟩ := HV.out.ex
        have ff := HB.out.free
        go_wp2
        refine tree_put { Ev.zero with op := sNeg, A := some ⟨g4, 0, none⟩, n := 1, k := 1 } rfl rfl HB.out ?_
        rcases HX.out with ⟨rfl, h2⟩ | ⟨rfl, h2, h3⟩
        · rw [h2]
          exact ⟨_, _, _, rfl, HA.out.put _ (by omega), HF.out.put _ (by have := HJ.out; omega)⟩
        · have hdd : d4 = (d : Int) := by
            have h5 := HD4.out
            rw [h2, IntKind.wrap_i64] at h5
            have := HDD.out
            omega
          rw [h3, ← hdd]
          exact ⟨_, rfl, by show sNeg ∈ oddOps; simp [oddOps], HA.out.put _ (by omega), HF.out.put _ (by have := HJ.out; omega)⟩
    · have q45 : (((pk (blk r)).toNat : Int) == 45) = false := u8_ne h45
      have q43 : (((pk (blk r)).toNat : Int) == 43) = true := u8_eq (hs.resolve_left h45)
      clear h45 hs
      go_upto_region 10 with fail
      clear c1 f1 q45 q43
      generalize w2.setCell ⟨g, 1, none⟩ (.int .i64 (q + 1)) = w3 at HA2 HF HB ⊢
      have c2 := HA2.out.c2
      have f2 := HA2.out.free 2
      go_upto_region 11 with fail
      clear c2 f2
      have HA3 := Lib.hid (HA2.out.setDeep ((d : Int) + 1))
      have HF := Lib.hid (HF.out.trans (Fr.set g 2 (.int .i64 ((d : Int) + 1))))
      have HB := Lib.hid (HB.out.other (k := g) 2 (.int .i64 ((d : Int) + 1)) (by omega))
      generalize w3.setCell ⟨g, 2, none⟩ (.int .i64 ((d : Int) + 1)) = w4 at HA3 HF HB ⊢
      have c2 := HA3.out.c2
      by_cases hdeep : 360 < d + 1
      · have hdd : decide (360 < (d : Int) + 1) = true := by simp; omega
        have HZ : Hid (signedA f (k + 1) d r = .bad) := Lib.hid (HP.out.trans (if_pos hdeep))
        clear hdeep
        have b3 := HA3.out.c3
        have bf := HA3.out.free 3
        go_upto_region 13 with fail
        clear b3 bf c2
        have HA := Lib.hid (HA3.out.setBad true)
        have HF := Lib.hid (HF.out.trans (Fr.set g 3 (.bool true)))
        have HB := Lib.hid (HB.out.other (k := g) 3 (.bool true) (by omega))
        generalize w4.setCell ⟨g, 3, none⟩ (.bool true) = wd at HA HF HB ⊢
        obtain ⟨x0, x1, x2, x3, x4, x5, x6, x7, x8, x9, x10, x11, x12, x13⟩ := HB.out.ex
        have ff := HB.out.free
        go_wp2
        refine tree_put Ev.zero rfl rfl HB.out ?_
        rw [HZ.out]
        exact ⟨_, _, _, rfl, HA.out.put _ (by omega), HF.out.put _ (by have := HJ.out; omega)⟩
      · have hdd : decide (360 < (d : Int) + 1) = false := by simp; omega
        have HZ : Hid (signedA f (k + 1) d r = match signedA f k (d + 1) (blk r).tail with
              | .ok _ rest => .ok .odd rest
              | x => x) := Lib.hid (HP.out.trans (if_neg hdeep))
        have hso : signedA f k (d + 1) (blk r).tail ≠ .out := by
          intro h
          apply HOUT.out
          rw [HZ.out, h]
        have e1 : ((d + 1 : Nat) : Int) = (d : Int) + 1 := by omega
        have hA5 : At w4 g s (blk r).tail ((d + 1 : Nat) : Int) false := by rw [e1]; exact HA3.out
        have SG : Hid (Calls Tryz.prog 22 #[.pointer (some ⟨g, 0, none⟩)] w4 (ArgPost (fun d r => signedA f k d r) g s (d + 1) w4 (blk r).tail)) := Lib.hid (HIH.out g s (blk r).tail (d + 1) w4 hA5 (by omega) hso)
        have HSO := Lib.hid hso
        have HDD : Hid (d + 1 ≤ 360) := Lib.hid (by omega)
        clear hso hA5 hdeep e1
        go_wp2_with fail
        clear c2 hdd
        refine SG.out.mono ?_
        intro e w9 hpost
        obtain ⟨v, r3, d3, b4, rfl, hA, hF, hv⟩ := argPost_open (f := fun d r => signedA f k d r) HSO.out hpost
        have hv2 : (b4 = true ∧ signedA f (k + 1) d r = .bad) ∨ (b4 = false ∧ d3 = (d : Int) + 1 ∧ signedA f (k + 1) d r = .ok .odd r3) := by
          have hp := HZ.out
          rcases hv with ⟨h1, h2⟩ | ⟨h1, h2, x, h3, h4⟩
          · have h2 : signedA f k (d + 1) (blk r).tail = .bad := h2
            rw [h2] at hp
            exact .inl ⟨h1, hp⟩
          · have h3 : signedA f k (d + 1) (blk r).tail = .ok x r3 := h3
            rw [h3] at hp
            exact .inr ⟨h1, by rw [h2]; omega, hp⟩
        have HX := Lib.hid hv2
        clear hpost hv hv2 SG HSO
        have HA := Lib.hid hA
        have HF := Lib.hid (HF.out.trans hF)
        have HB := Lib.hid (HB.out.fr hF (by omega))
        clear hA hF
        have hgl : g ≠ w9.heap.size := Nat.ne_of_lt HA.out.lt
        have hjl : j ≠ w9.heap.size := Nat.ne_of_lt HB.out.lt
        have hgl2 : g ≠ w9.heap.size + 1 := by have := HA.out.lt; omega
        have hjl2 : j ≠ w9.heap.size + 1 := by have := HB.out.lt; omega
        have HA := Lib.hid ((HA.out.alloc (.cells (exCells v) 25)).alloc (.cells (exCells { Ev.zero with op := sPlus, A := some ⟨w9.heap.size, 0, none⟩, n := 1, k := 1 }) 25))
        have HF := Lib.hid ((HF.out.alloc (.cells (exCells v) 25)).alloc (.cells (exCells { Ev.zero with op := sPlus, A := some ⟨w9.heap.size, 0, none⟩, n := 1, k := 1 }) 25))
        have HB := Lib.hid ((HB.out.alloc (.cells (exCells v) 25)).alloc (.cells (exCells { Ev.zero with op := sPlus, A := some ⟨w9.heap.size, 0, none⟩, n := 1, k := 1 }) 25))
        have hV := Box.made (w9.alloc (.cells (exCells v) 25)) (exCells { Ev.zero with op := sPlus, A := some ⟨w9.heap.size, 0, none⟩, n := 1, k := 1 }) 25
        have hz9 : (w9.alloc (.cells (exCells v) 25)).heap.size = w9.heap.size + 1 := by simp
        rw [hz9] at hV
        have HV := Lib.hid hV
        clear hV hz9
        obtain ⟨wz, hwz⟩ : ∃ wz, (w9.alloc (.cells (exCells v) 25)).alloc (.cells (exCells { Ev.zero with op := sPlus, A := some ⟨w9.heap.size, 0, none⟩, n := 1, k := 1 }) 25) = wz := ⟨_, rfl⟩
        rw [hwz] at HA HF HB HV
        unfold exCells at hwz
        simp only [Ev.zero, sPlus] at hwz
        have HWZ := Lib.hid hwz
        clear hwz
        unfold Ev.val
        go_upto_region 15 with fail
        rw [HWZ.out]
        clear HWZ
        generalize w9.heap.size = g4 at HV hgl hjl hgl2 hjl2 ⊢
        have c2 := HA.out.c2
        have f2 := HA.out.free 2
        obtain ⟨d4, hd4⟩ : ∃ d4, IntKind.i64.wrap (d3 - 1) = d4 := ⟨_, rfl⟩
        have HD4 := Lib.hid hd4
        go_upto_region 16 with fail
        clear c2 f2 hd4
        have HA := Lib.hid (HA.out.setDeep d4)
        have HF := Lib.hid (HF.out.trans (Fr.set g 2 (.int .i64 d4)))
        have HB := Lib.hid (HB.out.other (k := g) 2 (.int .i64 d4) (by omega))
        have HV := Lib.hid (HV.out.other (k := g) 2 (.int .i64 d4) hgl2.symm)
        generalize wz.setCell ⟨g, 2, none⟩ (.int .i64 d4) = wy at HA HF HB HV ⊢
        obtain ⟨x0, x1, x2, x3, x4, x5, x6, x7, x8, x9, x10, x11, x12, x13⟩ := HB.out.ex
        obtain ⟨y0, y1, y2, y3, y4, y5, y6, y7, y8, y9, y10, y11, y12, y13⟩ := HV.out.ex
        have ff := HB.out.free
        go_wp2
        refine tree_put { Ev.zero with op := sPlus, A := some ⟨g4, 0, none⟩, n := 1, k := 1 } rfl rfl HB.out ?_
        rcases HX.out with ⟨rfl, h2⟩ | ⟨rfl, h2, h3⟩
        · rw [h2]
          exact ⟨_, _, _, rfl, HA.out.put _ (by omega), HF.out.put _ (by have := HJ.out; omega)⟩
        · have hdd : d4 = (d : Int) := by
            have h5 := HD4.out
            rw [h2, IntKind.wrap_i64] at h5
            have := HDD.out
            omega
          rw [h3, ← hdd]
          exact ⟨_, rfl, by show sPlus ∈ oddOps; simp [oddOps], HA.out.put _ (by omega), HF.out.put _ (by have := HJ.out; omega)⟩
  · have HZ : Hid (signedA f (k + 1) d r = thingP f d (blk r)) := Lib.hid (if_neg hs)
    have q45 : (((pk (blk r)).toNat : Int) == 45) = false := u8_ne (fun h => hs (.inl h))
    have q43 : (((pk (blk r)).toNat : Int) == 43) = false := u8_ne (fun h => hs (.inr h))
    have TH := Lib.hid (thing_any f HLF.out g s (blk r) d w2 HA.out hd (fun h => HOUT.out (HZ.out.trans h)))
    clear hs
    go_wp2_with fail
    refine TH.out.mono ?_
    intro e w9 hpost
    obtain ⟨v, rfl, hB, hT⟩ := relay hpost HF.out HB.out hgj (by have := HJ.out; omega)
    have HT9 := Lib.hid hT
    have HB9 := Lib.hid hB
    clear hpost hT hB
    obtain ⟨x0, x1, x2, x3, x4, x5, x6, x7, x8, x9, x10, x11, x12, x13⟩ := HB9.out.ex
    have ff := HB9.out.free
    unfold Ev.val
    go_wp2
    refine tree_put v rfl rfl HB9.out ?_
    rw [HZ.out]
    exact HT9.out

theorem signed_any (f : Nat → List UInt8 → R) (hf : LvlOk f) : ∀ (k : Nat) (g : Nat) (s : ByteArray) (r : List UInt8) (d : Nat) (w : World), At w g s r d false → d ≤ 360 → signedA f k d r ≠ .out →
      Calls Tryz.prog 22 #[.pointer (some ⟨g, 0, none⟩)] w (TreePost w g s d (signedA f k d r))
  | 0, _, _, _, _, _, _, _, h => absurd rfl h
  | k + 1, g, s, r, d, w, h, hd, ho => signed_step f hf k (signed_any f hf k) g s r d w h hd ho

end Go.Proofs.YtfeffdjnjckjaaaGreatDoor.Rg
