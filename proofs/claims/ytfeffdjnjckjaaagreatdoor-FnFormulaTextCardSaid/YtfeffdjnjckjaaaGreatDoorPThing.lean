/- The reader reads what has no operator outside brackets. -/
import Derived.Test.YtfeffdjnjckjaaaGreatDoorPArray
namespace Go.Proofs.YtfeffdjnjckjaaaGreatDoor.Rg
open Go.RowKit

set_option maxHeartbeats 16000000 in
set_option maxRecDepth 100000 in
theorem thing_any (f : Nat → List UInt8 → R) (hf : LvlOk f) (g : Nat) (s : ByteArray) (r : List UInt8) (d : Nat) (w : World) (h : At w g s r d false) (hd : d ≤ 360) (hout : thingP f d r ≠ .out) :
    Calls Tryz.prog 34 #[.pointer (some ⟨g, 0, none⟩)] w (TreePost w g s d (thingP f d r)) := by
  by_cases hlit : isLit (pk r) = true
  · have hz : thingP f d r = litP r := if_pos hlit
    rw [hz]
    exact lit_any g s r d w h hlit
  have hl2 : isLit (pk r) = false := by simpa using hlit
  have hl3 : isNum (pk r) = false ∧ pk r ≠ 34 ∧ pk r ≠ 35 := by
    unfold isLit at hl2
    simpa [and_assoc] using hl2
  have HP0 : Hid (thingP f d r = if pk r = 123 then arrA f d (r.length + 1) 0 0 r.tail
  else if pk r = 40 then match f d r.tail with
    | .ok x r2 => if pk (blk r2) = 41 then .ok x (blk r2).tail else .bad
    | x => x
  else if pk r = 39 then match quoA 39 [] r.tail with
    | some (t, rest) => if pk rest = 33 ∧ t ≠ [] then placeP t rest.tail else .bad
    | none => .bad
  else wordP f d r) := Lib.hid (if_neg hlit)
  obtain ⟨j, hj⟩ : ∃ j, w.heap.size = j := ⟨_, rfl⟩
  have hgj : g < j := hj ▸ h.lt
  obtain ⟨W, hW⟩ : ∃ W, w.alloc (.cells (exCells Ev.zero) 25) = W := ⟨_, rfl⟩
  have HA : Hid (At W g s r d false) := by subst hW; exact h.alloc _
  have HF : Hid (Fr w W g) := by subst hW; exact (Fr.refl w g).alloc _
  have HB : Hid (Box W j (exCells Ev.zero) 25) := by subst hW; subst hj; exact Box.made _ _ _
  have HJ := Lib.hid hj
  have HW := Lib.hid hW
  have HOUT := Lib.hid hout
  have HLF := Lib.hid hf
  clear hout hf hlit hl2
  clear h hj hW
  unfold exCells at HW
  simp only [Ev.zero] at HW
  go_enter Tryz.func34, Tryz.ntmps34
  go_wp2_with fail
  rw [HJ.out, HW.out]
  clear HW
  refine (peek_any g s r d false W HA.out).mono ?_
  rintro e w' ⟨rfl, m0, rfl⟩
  have HA := Lib.hid (HA.out.drewN m0)
  have HF := Lib.hid (HF.out.trans (Fr.drewN _ _ m0))
  have HB := Lib.hid (HB.out.drewN m0)
  generalize W.drewN m0 = w1 at HA HF HB ⊢
  have NM := Lib.hid (fun w => num_any (pk r) w)
  rw [hl3.1] at NM
  have q34 : (((pk r).toNat : Int) == 34) = false := u8_ne hl3.2.1
  have q35 : (((pk r).toNat : Int) == 35) = false := u8_ne hl3.2.2
  clear hl3
  by_cases h123 : pk r = 123
  · have q123 : (((pk r).toNat : Int) == 123) = true := u8_eq h123
    have HZ : Hid (thingP f d r = arrA f d (r.length + 1) 0 0 r.tail) := Lib.hid (HP0.out.trans (if_pos h123))
    have AR := Lib.hid (array_any f HLF.out g s r d w1 HA.out hd h123 (fun h => HOUT.out (HZ.out.trans h)))
    clear h123
    go_wp2_with (first | (go_at_call 43; refine (NM.out _).mono ?_; rintro e w' ⟨rfl, rfl⟩))
    refine AR.out.mono ?_
    intro e w9 hpost
    obtain ⟨v, rfl, hB, hT⟩ := relay hpost HF.out HB.out hgj (by have := HJ.out; omega)
    have HT9 := Lib.hid hT
    have HB9 := Lib.hid hB
    clear hpost hT hB
    obtain ⟨x0, x1, x2, x3, x4, x5, x6, x7, x8, x9, x10, x11, x12, x13⟩ := HB9.out.ex
    have ff := HB9.out.free
    unfold Ev.val
    go_wp2
    refine tree_put v rfl rfl HB9.out ?_
    rw [HZ.out]
    exact HT9.out
  · have q123 : (((pk r).toNat : Int) == 123) = false := u8_ne h123
    by_cases h40 : pk r = 40
    · have q40 : (((pk r).toNat : Int) == 40) = true := u8_eq h40
      have HP : Hid (thingP f d r = match f d r.tail with
        | .ok x r2 => if pk (blk r2) = 41 then .ok x (blk r2).tail else .bad
        | x => x) := Lib.hid (HP0.out.trans ((if_neg h123).trans (if_pos h40)))
      have HC := Lib.hid (quo_step h40 (by decide))
      clear h123 h40
      obtain ⟨q, q0, q1, HQ, c1, f1⟩ := HA.out.see
      have HA2 : Hid (At (w1.setCell ⟨g, 1, none⟩ (.int .i64 (q + 1))) g s r.tail d false) := by
        have h1 := HA.out
        rw [HC.out] at h1
        exact h1.step (q + 1) (by rw [HQ.out, ← HC.out])
      have HF := Lib.hid (HF.out.trans (Fr.set g 1 (.int .i64 (q + 1))))
      have HB := Lib.hid (HB.out.other (k := g) 1 (.int .i64 (q + 1)) (by omega))
      go_upto_region 12 with (first | (go_at_call 43; refine (NM.out _).mono ?_; rintro e w' ⟨rfl, rfl⟩))
      clear c1 f1 NM
      generalize w1.setCell ⟨g, 1, none⟩ (.int .i64 (q + 1)) = w2 at HA2 HF HB ⊢
      have hfo : f d r.tail ≠ .out := by
        intro h
        apply HOUT.out
        rw [HP.out, h]
      have CL : Hid (Calls Tryz.prog 10 #[.pointer (some ⟨g, 0, none⟩), .int .i64 1] w2 (ArgPost f g s d w2 r.tail)) := Lib.hid (HLF.out.run g s r.tail d w2 HA2.out hd hfo)
      have HFO := Lib.hid hfo
      clear hfo
      go_wp2_with fail
      refine CL.out.mono ?_
      intro e w9 hpost
      obtain ⟨v, r3, d3, b4, rfl, hA, hF, hv⟩ := argPost_open HFO.out hpost
      have hj2 : j + 1 ≤ w2.heap.size := HB.out.lt
      have hv2 : (b4 = true ∧ thingP f d r = .bad) ∨ (b4 = false ∧ d3 = (d : Int) ∧ ∃ x, (thingP f d r = if pk (blk r3) = 41 then .ok x (blk r3).tail else .bad) ∧ IsEx w9 (From (j + 1)) x v) := by
        have hp := HP.out
        rcases hv with ⟨h1, h2⟩ | ⟨h1, h2, x, h3, h4⟩
        · rw [h2] at hp
          exact .inl ⟨h1, hp⟩
        · rw [h3] at hp
          exact .inr ⟨h1, h2, x, hp, h4.lower hj2⟩
      have HX := Lib.hid hv2
      clear hpost hv hv2 CL HFO
      have HA := Lib.hid hA
      have HF := Lib.hid (HF.out.trans hF)
      have HB := Lib.hid (HB.out.fr hF (by omega))
      clear hA hF
      have hgl : g ≠ w9.heap.size := Nat.ne_of_lt HA.out.lt
      have hjl : j ≠ w9.heap.size := Nat.ne_of_lt HB.out.lt
      have HA := Lib.hid (HA.out.alloc (.cells (exCells v) 25))
      have HF := Lib.hid (HF.out.alloc (.cells (exCells v) 25))
      have HB := Lib.hid (HB.out.alloc (.cells (exCells v) 25))
      have HV := Lib.hid (Box.made w9 (exCells v) 25)
      have HX : Hid ((b4 = true ∧ thingP f d r = .bad) ∨ (b4 = false ∧ d3 = (d : Int) ∧ ∃ x, (thingP f d r = if pk (blk r3) = 41 then .ok x (blk r3).tail else .bad) ∧ IsEx (w9.alloc (.cells (exCells v) 25)) (From (j + 1)) x v)) := by
        rcases HX.out with h | ⟨h1, h2, x, h3, h4⟩
        · exact Lib.hid (.inl h)
        · exact Lib.hid (.inr ⟨h1, h2, x, h3, h4.below ((Below.refl _ _).alloc (Nat.le_refl _) _)⟩)
      obtain ⟨wz, hwz⟩ : ∃ wz, w9.alloc (.cells (exCells v) 25) = wz := ⟨_, rfl⟩
      rw [hwz] at HA HF HB HV HX
      unfold exCells at hwz
      have HWZ := Lib.hid hwz
      clear hwz
      unfold Ev.val
      go_wp2_with fail
      rw [HWZ.out]
      clear HWZ
      generalize w9.heap.size = g4 at HV hgl hjl ⊢
      refine (blanks_any g s r3 d3 b4 wz HA.out).mono ?_
      rintro e wa ⟨rfl, hA, hF⟩
      have HX : Hid ((b4 = true ∧ thingP f d r = .bad) ∨ (b4 = false ∧ d3 = (d : Int) ∧ ∃ x, (thingP f d r = if pk (blk r3) = 41 then .ok x (blk r3).tail else .bad) ∧ IsEx wa (From (j + 1)) x v)) := by
        rcases HX.out with h | ⟨h1, h2, x, h3, h4⟩
        · exact Lib.hid (.inl h)
        · exact Lib.hid (.inr ⟨h1, h2, x, h3, h4.fr hF (fun h => by unfold From at h; omega)⟩)
      have HV := Lib.hid (HV.out.fr hF hgl.symm)
      have HA := Lib.hid hA
      have HF := Lib.hid (HF.out.trans hF)
      have HB := Lib.hid (HB.out.fr hF (by omega))
      clear hA hF
      go_wp2_with fail
      by_cases h41 : pk (blk r3) = 41
      · refine (one_yes 41 g s _ d3 b4 wa HA.out h41 (by decide)).mono ?_
        rintro e wb ⟨rfl, hA, hF⟩
        have HX : Hid ((b4 = true ∧ thingP f d r = .bad) ∨ (b4 = false ∧ d3 = (d : Int) ∧ ∃ x, (thingP f d r = if pk (blk r3) = 41 then .ok x (blk r3).tail else .bad) ∧ IsEx wb (From (j + 1)) x v)) := by
          rcases HX.out with h | ⟨h1, h2, x, h3, h4⟩
          · exact Lib.hid (.inl h)
          · exact Lib.hid (.inr ⟨h1, h2, x, h3, h4.fr hF (fun h => by unfold From at h; omega)⟩)
        have HV := Lib.hid (HV.out.fr hF hgl.symm)
        have HA := Lib.hid hA
        have HF := Lib.hid (HF.out.trans hF)
        have HB := Lib.hid (HB.out.fr hF (by omega))
        clear hA hF
        have HH := Lib.hid h41
        clear h41
        obtain ⟨x0, x1, x2, x3, x4, x5, x6, x7, x8, x9, x10, x11, x12, x13⟩ := HB.out.ex
        obtain ⟨y0, y1, y2, y3, y4, y5, y6, y7, y8, y9, y10, y11, y12, y13⟩ := HV.out.ex
        have ff := HB.out.free
        go_wp2
        refine tree_put v rfl rfl HB.out ?_
        rcases HX.out with ⟨rfl, h2⟩ | ⟨rfl, rfl, x, h3, h4⟩
        · rw [h2]
          exact ⟨_, _, _, rfl, HA.out.put _ (by omega), HF.out.put _ (by have := HJ.out; omega)⟩
        · rw [h3, if_pos HH.out]
          exact ⟨_, rfl, (h4.put (fun h => by unfold From at h; omega)).mono (fun k h _ => by have := HJ.out; unfold From at h ⊢; omega), HA.out.put _ (by omega), HF.out.put _ (by have := HJ.out; omega)⟩
      · refine (one_no 41 g s _ d3 b4 wa HA.out h41).mono ?_
        rintro e wb ⟨rfl, m3, rfl⟩
        have HZ : Hid (thingP f d r = .bad) := by
          rcases HX.out with ⟨_, h⟩ | ⟨_, _, x, h3, _⟩
          · exact Lib.hid h
          · rw [if_neg h41] at h3
            exact Lib.hid h3
        clear h41 HX
        have HA := Lib.hid (HA.out.drewN m3)
        have HF := Lib.hid (HF.out.trans (Fr.drewN _ _ m3))
        have HB := Lib.hid (HB.out.drewN m3)
        have HV := Lib.hid (HV.out.drewN m3)
        have b3 := HA.out.c3
        have bf := HA.out.free 3
        go_upto_region 16 with fail
        clear b3 bf
        generalize wa.drewN m3 = wb at HA HF HB HV ⊢
        have HA := Lib.hid (HA.out.setBad true)
        have HF := Lib.hid (HF.out.trans (Fr.set g 3 (.bool true)))
        have HB := Lib.hid (HB.out.other (k := g) 3 (.bool true) (by omega))
        have HV := Lib.hid (HV.out.other (k := g) 3 (.bool true) hgl.symm)
        generalize wb.setCell ⟨g, 3, none⟩ (.bool true) = wd at HA HF HB HV ⊢
        obtain ⟨x0, x1, x2, x3, x4, x5, x6, x7, x8, x9, x10, x11, x12, x13⟩ := HB.out.ex
        obtain ⟨y0, y1, y2, y3, y4, y5, y6, y7, y8, y9, y10, y11, y12, y13⟩ := HV.out.ex
        have ff := HB.out.free
        go_wp2
        refine tree_put v rfl rfl HB.out ?_
        rw [HZ.out]
        exact ⟨_, _, _, rfl, HA.out.put _ (by omega), HF.out.put _ (by have := HJ.out; omega)⟩
    · have q40 : (((pk r).toNat : Int) == 40) = false := u8_ne h40
      by_cases h39 : pk r = 39
      · have q39 : (((pk r).toNat : Int) == 39) = true := u8_eq h39
        have HP : Hid (thingP f d r = match quoA 39 [] r.tail with
          | some (t, rest) => if pk rest = 33 ∧ t ≠ [] then placeP t rest.tail else .bad
          | none => .bad) := Lib.hid (HP0.out.trans ((if_neg h123).trans ((if_neg h40).trans (if_pos h39))))
        have HC := Lib.hid (quo_step h39 (by decide))
        have hA2 := HA.out
        rw [HC.out] at hA2
        have QU := Lib.hid (quoted_any g s 39 39 r.tail d w1 hA2)
        clear h123 h40 h39 hA2
        go_wp2_with (first | (go_at_call 43; refine (NM.out _).mono ?_; rintro e w' ⟨rfl, rfl⟩))
        refine QU.out.mono ?_
        intro e w2 hpost
        unfold QuoPost at hpost
        have hz := HP.out
        cases hqu : quoA 39 [] r.tail with
        | none =>
          rw [hqu] at hpost hz
          obtain ⟨r2, rfl, hA, hF⟩ := hpost
          have HZ := Lib.hid hz
          have HA := Lib.hid hA
          have HF := Lib.hid (HF.out.trans hF)
          have HB := Lib.hid (HB.out.fr hF (by omega))
          clear hA hF
          clear hqu hz QU NM
          have hem : ((bs ([] : List UInt8)).toList == []) = true := bs_is rfl
          go_wp2_with fail
          by_cases h33 : pk r2 = 33
          · refine (one_yes 33 g s _ d true w2 HA.out h33 (by decide)).mono ?_
            rintro e w3 ⟨rfl, hA, hF⟩
            clear h33
            have HA := Lib.hid hA
            have HF := Lib.hid (HF.out.trans hF)
            have HB := Lib.hid (HB.out.fr hF (by omega))
            clear hA hF
            have b3 := HA.out.c3
            have bf := HA.out.free 3
            go_upto_region 21 with fail
            clear b3 bf
            have HA := Lib.hid (HA.out.setBad true)
            have HF := Lib.hid (HF.out.trans (Fr.set g 3 (.bool true)))
            have HB := Lib.hid (HB.out.other (k := g) 3 (.bool true) (by omega))
            generalize w3.setCell ⟨g, 3, none⟩ (.bool true) = wd at HA HF HB ⊢
            obtain ⟨x0, x1, x2, x3, x4, x5, x6, x7, x8, x9, x10, x11, x12, x13⟩ := HB.out.ex
            have ff := HB.out.free
            go_wp2
            refine tree_put Ev.zero rfl rfl HB.out ?_
            rw [HZ.out]
            exact ⟨_, _, _, rfl, HA.out.put _ (by omega), HF.out.put _ (by have := HJ.out; omega)⟩
          · refine (one_no 33 g s _ d true w2 HA.out h33).mono ?_
            rintro e w3 ⟨rfl, m3, rfl⟩
            clear h33
            have HA := Lib.hid (HA.out.drewN m3)
            have HF := Lib.hid (HF.out.trans (Fr.drewN _ _ m3))
            have HB := Lib.hid (HB.out.drewN m3)
            have b3 := HA.out.c3
            have bf := HA.out.free 3
            go_upto_region 21 with fail
            clear b3 bf
            have HA := Lib.hid (HA.out.setBad true)
            have HF := Lib.hid (HF.out.trans (Fr.set g 3 (.bool true)))
            have HB := Lib.hid (HB.out.other (k := g) 3 (.bool true) (by omega))
            generalize (w2.drewN m3).setCell ⟨g, 3, none⟩ (.bool true) = wd at HA HF HB ⊢
            obtain ⟨x0, x1, x2, x3, x4, x5, x6, x7, x8, x9, x10, x11, x12, x13⟩ := HB.out.ex
            have ff := HB.out.free
            go_wp2
            refine tree_put Ev.zero rfl rfl HB.out ?_
            rw [HZ.out]
            exact ⟨_, _, _, rfl, HA.out.put _ (by omega), HF.out.put _ (by have := HJ.out; omega)⟩
        | some x =>
          obtain ⟨t, rest⟩ := x
          rw [hqu] at hpost hz
          obtain ⟨rfl, hA, hF⟩ := hpost
          have HP := Lib.hid hz
          have HA := Lib.hid hA
          have HF := Lib.hid (HF.out.trans hF)
          have HB := Lib.hid (HB.out.fr hF (by omega))
          clear hA hF
          clear hqu hz QU NM
          go_wp2_with fail
          by_cases h33 : pk rest = 33
          · refine (one_yes 33 g s _ d false w2 HA.out h33 (by decide)).mono ?_
            rintro e w3 ⟨rfl, hA, hF⟩
            have HA := Lib.hid hA
            have HF := Lib.hid (HF.out.trans hF)
            have HB := Lib.hid (HB.out.fr hF (by omega))
            clear hA hF
            by_cases hte : t = []
            · have hem : ((bs t).toList == []) = true := bs_is hte
              have HZ : Hid (thingP f d r = .bad) := Lib.hid (HP.out.trans (if_neg (fun h => h.2 hte)))
              clear hte h33
              have b3 := HA.out.c3
              have bf := HA.out.free 3
              go_upto_region 21 with fail
              clear b3 bf
              have HA := Lib.hid (HA.out.setBad true)
              have HF := Lib.hid (HF.out.trans (Fr.set g 3 (.bool true)))
              have HB := Lib.hid (HB.out.other (k := g) 3 (.bool true) (by omega))
              generalize w3.setCell ⟨g, 3, none⟩ (.bool true) = wd at HA HF HB ⊢
              obtain ⟨x0, x1, x2, x3, x4, x5, x6, x7, x8, x9, x10, x11, x12, x13⟩ := HB.out.ex
              have ff := HB.out.free
              go_wp2
              refine tree_put Ev.zero rfl rfl HB.out ?_
              rw [HZ.out]
              exact ⟨_, _, _, rfl, HA.out.put _ (by omega), HF.out.put _ (by have := HJ.out; omega)⟩
            · have hem : ((bs t).toList == []) = false := bs_not hte
              have HZ : Hid (thingP f d r = placeP t rest.tail) := Lib.hid (HP.out.trans (if_pos ⟨h33, hte⟩))
              clear hte h33
              go_wp2_with fail
              refine (place_any g s t _ d w3 HA.out).mono ?_
              intro e w9 hpost
              obtain ⟨v, rfl, hB, hT⟩ := relay hpost HF.out HB.out hgj (by have := HJ.out; omega)
              have HT9 := Lib.hid hT
              have HB9 := Lib.hid hB
              clear hpost hT hB
              obtain ⟨x0, x1, x2, x3, x4, x5, x6, x7, x8, x9, x10, x11, x12, x13⟩ := HB9.out.ex
              have ff := HB9.out.free
              unfold Ev.val
              go_wp2
              refine tree_put v rfl rfl HB9.out ?_
              rw [HZ.out]
              exact HT9.out
          · have HZ : Hid (thingP f d r = .bad) := Lib.hid (HP.out.trans (if_neg (fun h => h33 h.1)))
            refine (one_no 33 g s _ d false w2 HA.out h33).mono ?_
            rintro e w3 ⟨rfl, m3, rfl⟩
            clear h33
            have HA := Lib.hid (HA.out.drewN m3)
            have HF := Lib.hid (HF.out.trans (Fr.drewN _ _ m3))
            have HB := Lib.hid (HB.out.drewN m3)
            have b3 := HA.out.c3
            have bf := HA.out.free 3
            go_upto_region 21 with fail
            clear b3 bf
            have HA := Lib.hid (HA.out.setBad true)
            have HF := Lib.hid (HF.out.trans (Fr.set g 3 (.bool true)))
            have HB := Lib.hid (HB.out.other (k := g) 3 (.bool true) (by omega))
            generalize (w2.drewN m3).setCell ⟨g, 3, none⟩ (.bool true) = wd at HA HF HB ⊢
            obtain ⟨x0, x1, x2, x3, x4, x5, x6, x7, x8, x9, x10, x11, x12, x13⟩ := HB.out.ex
            have ff := HB.out.free
            go_wp2
            refine tree_put Ev.zero rfl rfl HB.out ?_
            rw [HZ.out]
            exact ⟨_, _, _, rfl, HA.out.put _ (by omega), HF.out.put _ (by have := HJ.out; omega)⟩
      · have q39 : (((pk r).toNat : Int) == 39) = false := u8_ne h39
        have HZ : Hid (thingP f d r = wordP f d r) := Lib.hid (HP0.out.trans ((if_neg h123).trans ((if_neg h40).trans (if_neg h39))))
        have WD := Lib.hid (word_any f HLF.out g s r d w1 HA.out hd (fun h => HOUT.out (HZ.out.trans h)))
        clear h123 h40 h39
        go_wp2_with (first | (go_at_call 43; refine (NM.out _).mono ?_; rintro e w' ⟨rfl, rfl⟩))
        refine WD.out.mono ?_
        intro e w9 hpost
        obtain ⟨v, rfl, hB, hT⟩ := relay hpost HF.out HB.out hgj (by have := HJ.out; omega)
        have HT9 := Lib.hid hT
        have HB9 := Lib.hid hB
        clear hpost hT hB
        obtain ⟨x0, x1, x2, x3, x4, x5, x6, x7, x8, x9, x10, x11, x12, x13⟩ := HB9.out.ex
        have ff := HB9.out.free
        unfold Ev.val
        go_wp2
        refine tree_put v rfl rfl HB9.out ?_
        rw [HZ.out]
        exact HT9.out

end Go.Proofs.YtfeffdjnjckjaaaGreatDoor.Rg
