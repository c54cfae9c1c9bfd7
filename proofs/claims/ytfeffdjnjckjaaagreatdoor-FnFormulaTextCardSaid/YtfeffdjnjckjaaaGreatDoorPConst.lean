/- The reader reads an element of an array. -/
import Derived.Test.YtfeffdjnjckjaaaGreatDoorPLit
namespace Go.Proofs.YtfeffdjnjckjaaaGreatDoor.Rg
open Go.RowKit

/-- What a word may be. -/
def Wordy (x : Ex) : Prop := (∃ b, x = .truth b) ∨ (∃ t, x = .name t) ∨ (∃ s c r a b, x = .cell s c r a b) ∨ (∃ s c r c2 r2 a b e f, x = .area s c r c2 r2 a b e f) ∨ ∃ t l, x = .call t l
theorem place_wordy {sheet r rest : List UInt8} {x : Ex} (h : placeP sheet r = .ok x rest) : Wordy x := by
  unfold placeP at h
  simp only at h
  split at h
  · cases h
  · split at h
    · split at h
      · cases h
      · injection h with h1 _
        exact .inr (.inr (.inr (.inl ⟨_, _, _, _, _, _, _, _, _, h1.symm⟩)))
    · injection h with h1 _
      exact .inr (.inr (.inl ⟨_, _, _, _, _, h1.symm⟩))
theorem call_wordy {f : Nat → List UInt8 → R} {name r rest : List UInt8} {d : Nat} {x : Ex} (h : callP f name d r = .ok x rest) : Wordy x := by
  unfold callP at h
  split at h
  · injection h with h1 _
    exact .inr (.inr (.inr (.inr ⟨_, _, h1.symm⟩)))
  · split at h
    · cases h
    · cases h
    · injection h with h1 _
      exact .inr (.inr (.inr (.inr ⟨_, _, h1.symm⟩)))
theorem word_wordy {f : Nat → List UInt8 → R} {r rest : List UInt8} {d : Nat} {x : Ex} (h : wordP f d r = .ok x rest) : Wordy x := by
  unfold wordP at h
  split at h
  · exact place_wordy h
  · split at h
    · cases h
    · split at h
      · exact call_wordy h
      · split at h
        · exact place_wordy h
        · split at h
          · injection h with h1 _
            exact .inl ⟨_, h1.symm⟩
          · split at h
            · injection h with h1 _
              exact .inr (.inl ⟨_, h1.symm⟩)
            · exact place_wordy h
/-- A word that is no truth says so. -/
theorem wordy_op {w : World} {S : Nat → Prop} {x : Ex} {v : Ev} (h : Wordy x) (hx : IsEx w S x v) : (!v.op.toList == [116, 114, 117, 116, 104]) = !(match x with | .truth _ => true | _ => false) := by
  rw [Lib.toList_data]
  rcases h with ⟨b, rfl⟩ | ⟨t, rfl⟩ | ⟨s, c, r, a, b, rfl⟩ | ⟨s, c, r, c2, r2, a, b, e, f, rfl⟩ | ⟨t, l, rfl⟩
  · obtain rfl := hx
    rfl
  · obtain rfl := hx
    rfl
  · obtain rfl := hx
    rfl
  · obtain rfl := hx
    rfl
  · obtain ⟨A, k, vs, rfl, _⟩ := hx
    rfl

set_option maxHeartbeats 16000000 in
set_option maxRecDepth 100000 in
theorem const_any (f : Nat → List UInt8 → R) (hf : LvlOk f) (g : Nat) (s : ByteArray) (r : List UInt8) (d : Nat) (w : World) (h : At w g s r d false) (hd : d ≤ 360) (hout : constP f d r ≠ .out) :
    Calls Tryz.prog 57 #[.pointer (some ⟨g, 0, none⟩)] w (TreePost w g s d (constP f d r)) := by
  obtain ⟨j, hj⟩ : ∃ j, w.heap.size = j := ⟨_, rfl⟩
  have hgj : g < j := hj ▸ h.lt
  obtain ⟨W, hW⟩ : ∃ W, w.alloc (.cells (exCells Ev.zero) 25) = W := ⟨_, rfl⟩
  have HA : Hid (At W g s r d false) := by subst hW; exact h.alloc _
  have HF : Hid (Fr w W g) := by subst hW; exact (Fr.refl w g).alloc _
  have HB : Hid (Box W j (exCells Ev.zero) 25) := by subst hW; subst hj; exact Box.made _ _ _
  have HJ := Lib.hid hj
  have HW := Lib.hid hW
  have HOUT := Lib.hid hout
  have HLF := Lib.hid hf
  clear hout hf
  clear h hj hW
  unfold exCells at HW
  simp only [Ev.zero] at HW
  go_enter Tryz.func57, Tryz.ntmps57
  go_wp2_with fail
  rw [HJ.out, HW.out]
  clear HW
  refine (blanks_any g s r d false W HA.out).mono ?_
  rintro e w1 ⟨rfl, hA, hF⟩
  have HA := Lib.hid hA
  have HF := Lib.hid (HF.out.trans hF)
  have HB := Lib.hid (HB.out.fr hF (by omega))
  clear hA hF
  go_wp2_with fail
  by_cases h45 : pk (blk r) = 45
  · have HP : Hid (constP f d r = if isNum (pk (blk r).tail) = false then .bad
      else match numP (blk r).tail with
        | .ok _ rest => .ok .odd rest
        | x => x) := Lib.hid (if_pos h45)
    refine (one_yes 45 g s _ d false w1 HA.out h45 (by decide)).mono ?_
    rintro e w2 ⟨rfl, hA, hF⟩
    have HA := Lib.hid hA
    have HF := Lib.hid (HF.out.trans hF)
    have HB := Lib.hid (HB.out.fr hF (by omega))
    clear hA hF
    clear h45
    generalize (blk r).tail = r2 at HA HP
    go_wp2_with fail
    refine (peek_any g s r2 d false w2 HA.out).mono ?_
    rintro e w' ⟨rfl, m1, rfl⟩
    have HA := Lib.hid (HA.out.drewN m1)
    have HF := Lib.hid (HF.out.trans (Fr.drewN _ _ m1))
    have HB := Lib.hid (HB.out.drewN m1)
    generalize w2.drewN m1 = w3 at HA HF HB ⊢
    have NM := Lib.hid (fun w => num_any (pk r2) w)
    obtain ⟨y, hy⟩ : ∃ y, isNum (pk r2) = y := ⟨_, rfl⟩
    have hp := HP.out
    rw [hy] at NM hp
    have HP := Lib.hid hp
    clear hy hp
    cases y
    case false =>
      have HZ : Hid (constP f d r = .bad) := Lib.hid (HP.out.trans (if_pos rfl))
      have b3 := HA.out.c3
      have bf := HA.out.free 3
      go_upto_region 5 with (first | (go_at_call 43; refine (NM.out _).mono ?_; rintro e w' ⟨rfl, rfl⟩))
      clear b3 bf NM
      have HAb := Lib.hid (HA.out.setBad true)
      have HFb := Lib.hid (HF.out.trans (Fr.set g 3 (.bool true)))
      have HBb := Lib.hid (HB.out.other (k := g) 3 (.bool true) (by omega))
      generalize w3.setCell ⟨g, 3, none⟩ (.bool true) = w9 at HAb HFb HBb ⊢
      obtain ⟨x0, x1, x2, x3, x4, x5, x6, x7, x8, x9, x10, x11, x12, x13⟩ := HBb.out.ex
      have ff := HBb.out.free
      go_wp2
      refine tree_put Ev.zero rfl rfl HBb.out ?_
      rw [HZ.out]
      exact ⟨_, _, _, rfl, HAb.out.put _ (by omega), HFb.out.put _ (by have := HJ.out; omega)⟩
    case true =>
      have HZ : Hid (constP f d r = match numP r2 with
        | .ok _ rest => .ok .odd rest
        | x => x) := Lib.hid (HP.out.trans (if_neg (by simp)))
      go_wp2_with (first | (go_at_call 43; refine (NM.out _).mono ?_; rintro e w' ⟨rfl, rfl⟩))
      clear NM
      refine (number_any g s r2 d w3 HA.out).mono ?_
      intro e w9 hpost
      have hz := HZ.out
      cases hn : numP r2 with
      | out =>
        rw [hn] at hpost
        exact hpost.elim
      | bad =>
        rw [hn] at hpost hz
        obtain ⟨v, r3, d3, rfl, hA, hF⟩ := hpost
        have HZ2 := Lib.hid hz
        have HA := Lib.hid hA
        have HF := Lib.hid (HF.out.trans hF)
        have HB := Lib.hid (HB.out.fr hF (by omega))
        clear hA hF
        clear hz hn
        have HA := Lib.hid (HA.out.alloc (.cells (exCells v) 25))
        have HF := Lib.hid (HF.out.alloc (.cells (exCells v) 25))
        have HB := Lib.hid (HB.out.alloc (.cells (exCells v) 25))
        obtain ⟨x0, x1, x2, x3, x4, x5, x6, x7, x8, x9, x10, x11, x12, x13⟩ := HB.out.ex
        have ff := HB.out.free
        unfold Ev.val
        unfold exCells at x0 x1 x2 x3 x4 x5 x6 x7 x8 x9 x10 x11 x12 x13 ff
        go_wp2
        refine tree_put { Ev.zero with op := sNeg, A := some ⟨w9.heap.size, 0, none⟩, n := 1, k := 1 } rfl rfl HB.out ?_
        rw [HZ2.out]
        exact ⟨_, _, _, rfl, HA.out.put _ (by omega), HF.out.put _ (by have := HJ.out; omega)⟩
      | ok x rest =>
        rw [hn] at hpost hz
        obtain ⟨v, rfl, hx, hA, hF⟩ := hpost
        have HZ2 := Lib.hid hz
        have HA := Lib.hid hA
        have HF := Lib.hid (HF.out.trans hF)
        have HB := Lib.hid (HB.out.fr hF (by omega))
        clear hA hF
        clear hz hn hx
        have HA := Lib.hid (HA.out.alloc (.cells (exCells v) 25))
        have HF := Lib.hid (HF.out.alloc (.cells (exCells v) 25))
        have HB := Lib.hid (HB.out.alloc (.cells (exCells v) 25))
        obtain ⟨x0, x1, x2, x3, x4, x5, x6, x7, x8, x9, x10, x11, x12, x13⟩ := HB.out.ex
        have ff := HB.out.free
        unfold Ev.val
        unfold exCells at x0 x1 x2 x3 x4 x5 x6 x7 x8 x9 x10 x11 x12 x13 ff
        go_wp2
        refine tree_put { Ev.zero with op := sNeg, A := some ⟨w9.heap.size, 0, none⟩, n := 1, k := 1 } rfl rfl HB.out ?_
        rw [HZ2.out]
        exact ⟨_, rfl, by show sNeg ∈ oddOps; simp [oddOps], HA.out.put _ (by omega), HF.out.put _ (by have := HJ.out; omega)⟩
  · have HP : Hid (constP f d r = if isLit (pk (blk r)) = true then litP (blk r)
      else match wordP f d (blk r) with
        | .ok (.truth b) rest => .ok (.truth b) rest
        | .out => .out
        | _ => .bad) := Lib.hid (if_neg h45)
    refine (one_no 45 g s _ d false w1 HA.out h45).mono ?_
    rintro e w2 ⟨rfl, m1, rfl⟩
    have HA := Lib.hid (HA.out.drewN m1)
    have HF := Lib.hid (HF.out.trans (Fr.drewN _ _ m1))
    have HB := Lib.hid (HB.out.drewN m1)
    generalize w1.drewN m1 = w3 at HA HF HB ⊢
    clear h45
    generalize blk r = r2 at HA HP
    go_wp2_with fail
    refine (peek_any g s r2 d false w3 HA.out).mono ?_
    rintro e w' ⟨rfl, m2, rfl⟩
    have HA := Lib.hid (HA.out.drewN m2)
    have HF := Lib.hid (HF.out.trans (Fr.drewN _ _ m2))
    have HB := Lib.hid (HB.out.drewN m2)
    generalize w3.drewN m2 = w4 at HA HF HB ⊢
    have NM := Lib.hid (fun w => num_any (pk r2) w)
    obtain ⟨y1, hy1⟩ : ∃ y1, isNum (pk r2) = y1 := ⟨_, rfl⟩
    obtain ⟨y2, hy2⟩ : ∃ y2, (((pk r2).toNat : Int) == 34) = y2 := ⟨_, rfl⟩
    obtain ⟨y3, hy3⟩ : ∃ y3, (((pk r2).toNat : Int) == 35) = y3 := ⟨_, rfl⟩
    have HL : Hid (isLit (pk r2) = (y1 || y2 || y3)) := by
      show isLit (pk r2) = (y1 || y2 || y3)
      unfold isLit
      rw [hy1, u8_dec (b := 34) hy2, u8_dec (b := 35) hy3]
    rw [hy1] at NM
    clear hy1
    by_cases hlit : isLit (pk r2) = true
    · have HZ : Hid (constP f d r = litP r2) := Lib.hid (HP.out.trans (if_pos hlit))
      have LT := Lib.hid (lit_any g s r2 d w4 HA.out hlit)
      rw [hlit] at HL
      have hor := HL.out
      clear hlit
      have HOR := Lib.hid hor
      clear hor
      cases y1
      · cases y2
        · cases y3
          · exact absurd HOR.out (by simp)
          · go_wp2_with (first | (go_at_call 43; refine (NM.out _).mono ?_; rintro e w' ⟨rfl, rfl⟩))
            refine LT.out.mono ?_
            intro e w9 hpost
            obtain ⟨v, rfl, hB, hT⟩ := relay hpost HF.out HB.out hgj (by have := HJ.out; omega)
            have HT9 := Lib.hid hT
            have HB9 := Lib.hid hB
            clear hpost hT hB
            obtain ⟨x0, x1, x2, x3, x4, x5, x6, x7, x8, x9, x10, x11, x12, x13⟩ := HB9.out.ex
            have ff := HB9.out.free
            unfold Ev.val
            go_wp2
            refine tree_put v rfl rfl HB9.out ?_
            rw [HZ.out]
            exact HT9.out
        · go_wp2_with (first | (go_at_call 43; refine (NM.out _).mono ?_; rintro e w' ⟨rfl, rfl⟩))
          refine LT.out.mono ?_
          intro e w9 hpost
          obtain ⟨v, rfl, hB, hT⟩ := relay hpost HF.out HB.out hgj (by have := HJ.out; omega)
          have HT9 := Lib.hid hT
          have HB9 := Lib.hid hB
          clear hpost hT hB
          obtain ⟨x0, x1, x2, x3, x4, x5, x6, x7, x8, x9, x10, x11, x12, x13⟩ := HB9.out.ex
          have ff := HB9.out.free
          unfold Ev.val
          go_wp2
          refine tree_put v rfl rfl HB9.out ?_
          rw [HZ.out]
          exact HT9.out
      · go_wp2_with (first | (go_at_call 43; refine (NM.out _).mono ?_; rintro e w' ⟨rfl, rfl⟩))
        refine LT.out.mono ?_
        intro e w9 hpost
        obtain ⟨v, rfl, hB, hT⟩ := relay hpost HF.out HB.out hgj (by have := HJ.out; omega)
        have HT9 := Lib.hid hT
        have HB9 := Lib.hid hB
        clear hpost hT hB
        obtain ⟨x0, x1, x2, x3, x4, x5, x6, x7, x8, x9, x10, x11, x12, x13⟩ := HB9.out.ex
        have ff := HB9.out.free
        unfold Ev.val
        go_wp2
        refine tree_put v rfl rfl HB9.out ?_
        rw [HZ.out]
        exact HT9.out
    · have HZ : Hid (constP f d r = match wordP f d r2 with
        | .ok (.truth b) rest => .ok (.truth b) rest
        | .out => .out
        | _ => .bad) := Lib.hid (HP.out.trans (if_neg hlit))
      have hl2 : isLit (pk r2) = false := by simpa using hlit
      rw [hl2] at HL
      have hor := HL.out
      have e1 : y1 = false := by cases y1 <;> simp at hor ⊢
      have e2 : y2 = false := by cases y2 <;> simp at hor ⊢
      have e3 : y3 = false := by cases y3 <;> simp at hor ⊢
      subst e1 e2 e3
      have hwo : wordP f d r2 ≠ .out := by
        intro h
        apply HOUT.out
        rw [HZ.out, h]
      have WD := Lib.hid (word_any f HLF.out g s r2 d w4 HA.out hd hwo)
      have HWO := Lib.hid hwo
      clear hlit hl2 hor hwo
      go_wp2_with (first | (go_at_call 43; refine (NM.out _).mono ?_; rintro e w' ⟨rfl, rfl⟩))
      refine WD.out.mono ?_
      intro e w9 hpost
      have hz := HZ.out
      cases hn : wordP f d r2 with
      | out => exact absurd hn HWO.out
      | bad =>
        rw [hn] at hpost hz
        obtain ⟨v, r3, d3, rfl, hA, hF⟩ := hpost
        have HZ2 := Lib.hid hz
        have HA := Lib.hid hA
        have HF := Lib.hid (HF.out.trans hF)
        have HB := Lib.hid (HB.out.fr hF (by omega))
        clear hA hF
        clear hz hn WD
        obtain ⟨q, hq⟩ : ∃ q, (!v.op.toList == [116, 114, 117, 116, 104]) = q := ⟨_, rfl⟩
        have hgl : g ≠ w9.heap.size := Nat.ne_of_lt HA.out.lt
        have hjl : j ≠ w9.heap.size := Nat.ne_of_lt HB.out.lt
        have HA := Lib.hid (HA.out.alloc (.cells (exCells v) 25))
        have HF := Lib.hid (HF.out.alloc (.cells (exCells v) 25))
        have HB := Lib.hid (HB.out.alloc (.cells (exCells v) 25))
        have HV := Lib.hid (Box.made w9 (exCells v) 25)
        obtain ⟨wz, hwz⟩ : ∃ wz, w9.alloc (.cells (exCells v) 25) = wz := ⟨_, rfl⟩
        rw [hwz] at HA HF HB HV
        unfold exCells at hwz
        have HWZ := Lib.hid hwz
        clear hwz
        unfold Ev.val
        go_upto_region 11 with fail
        rw [HWZ.out]
        clear HWZ
        generalize w9.heap.size = g4 at HV hgl hjl ⊢
        have e0 := HV.out.ex.c0
        cases q
        case false =>
          clear e0
          obtain ⟨x0, x1, x2, x3, x4, x5, x6, x7, x8, x9, x10, x11, x12, x13⟩ := HB.out.ex
          obtain ⟨y0, y1, y2, y3, y4, y5, y6, y7, y8, y9, y10, y11, y12, y13⟩ := HV.out.ex
          have ff := HB.out.free
          go_wp2
          refine tree_put v rfl rfl HB.out ?_
          rw [HZ2.out]
          exact ⟨_, _, _, rfl, HA.out.put _ (by omega), HF.out.put _ (by have := HJ.out; omega)⟩
        case true =>
          have b3 := HA.out.c3
          have bf := HA.out.free 3
          go_upto_region 13 with fail
          clear b3 bf e0
          have HA := Lib.hid (HA.out.setBad true)
          have HF := Lib.hid (HF.out.trans (Fr.set g 3 (.bool true)))
          have HB := Lib.hid (HB.out.other (k := g) 3 (.bool true) (by omega))
          have HV := Lib.hid (HV.out.other (k := g) 3 (.bool true) (by omega))
          generalize wz.setCell ⟨g, 3, none⟩ (.bool true) = wy at HA HF HB HV ⊢
          obtain ⟨x0, x1, x2, x3, x4, x5, x6, x7, x8, x9, x10, x11, x12, x13⟩ := HB.out.ex
          obtain ⟨y0, y1, y2, y3, y4, y5, y6, y7, y8, y9, y10, y11, y12, y13⟩ := HV.out.ex
          have ff := HB.out.free
          go_wp2
          refine tree_put v rfl rfl HB.out ?_
          rw [HZ2.out]
          exact ⟨_, _, _, rfl, HA.out.put _ (by omega), HF.out.put _ (by have := HJ.out; omega)⟩
      | ok x rest =>
        rw [hn] at hpost hz
        obtain ⟨v, rfl, hx, hA, hF⟩ := hpost
        have hqw := wordy_op (word_wordy hn) hx
        by_cases htr : ∃ b, x = .truth b
        · obtain ⟨b, rfl⟩ := htr
          have HZ2 : Hid (constP f d r = .ok (.truth b) rest) := Lib.hid hz
          have hq : (!v.op.toList == [116, 114, 117, 116, 104]) = false := hqw
          clear hqw
          have hx : v = { Ev.zero with op := sTruth, is := b } := hx
          have HX := Lib.hid hx
          have HA := Lib.hid hA
          have HF := Lib.hid (HF.out.trans hF)
          have HB := Lib.hid (HB.out.fr hF (by omega))
          clear hA hF
          clear hz hn hx WD
          have hgl : g ≠ w9.heap.size := Nat.ne_of_lt HA.out.lt
          have hjl : j ≠ w9.heap.size := Nat.ne_of_lt HB.out.lt
          have HA := Lib.hid (HA.out.alloc (.cells (exCells v) 25))
          have HF := Lib.hid (HF.out.alloc (.cells (exCells v) 25))
          have HB := Lib.hid (HB.out.alloc (.cells (exCells v) 25))
          have HV := Lib.hid (Box.made w9 (exCells v) 25)
          obtain ⟨wz, hwz⟩ : ∃ wz, w9.alloc (.cells (exCells v) 25) = wz := ⟨_, rfl⟩
          rw [hwz] at HA HF HB HV
          unfold exCells at hwz
          have HWZ := Lib.hid hwz
          clear hwz
          unfold Ev.val
          go_upto_region 11 with fail
          rw [HWZ.out]
          clear HWZ
          generalize w9.heap.size = g4 at HV hgl hjl ⊢
          have e0 := HV.out.ex.c0
          clear e0
          obtain ⟨x0, x1, x2, x3, x4, x5, x6, x7, x8, x9, x10, x11, x12, x13⟩ := HB.out.ex
          obtain ⟨y0, y1, y2, y3, y4, y5, y6, y7, y8, y9, y10, y11, y12, y13⟩ := HV.out.ex
          have ff := HB.out.free
          go_wp2
          refine tree_put v rfl rfl HB.out ?_
          rw [HZ2.out]
          exact ⟨_, rfl, HX.out, HA.out.put _ (by omega), HF.out.put _ (by have := HJ.out; omega)⟩
        · have hq : (!v.op.toList == [116, 114, 117, 116, 104]) = true := by
            rw [hqw]
            cases x <;> first | rfl | exact absurd ⟨_, rfl⟩ htr
          clear hqw
          have HZ2 : Hid (constP f d r = .bad) := by
            show constP f d r = .bad
            rw [hz]
            cases x <;> first | rfl | exact absurd ⟨_, rfl⟩ htr
          have HA := Lib.hid hA
          have HF := Lib.hid (HF.out.trans hF)
          have HB := Lib.hid (HB.out.fr hF (by omega))
          clear hA hF
          clear hz hn hx WD htr
          have hgl : g ≠ w9.heap.size := Nat.ne_of_lt HA.out.lt
          have hjl : j ≠ w9.heap.size := Nat.ne_of_lt HB.out.lt
          have HA := Lib.hid (HA.out.alloc (.cells (exCells v) 25))
          have HF := Lib.hid (HF.out.alloc (.cells (exCells v) 25))
          have HB := Lib.hid (HB.out.alloc (.cells (exCells v) 25))
          have HV := Lib.hid (Box.made w9 (exCells v) 25)
          obtain ⟨wz, hwz⟩ : ∃ wz, w9.alloc (.cells (exCells v) 25) = wz := ⟨_, rfl⟩
          rw [hwz] at HA HF HB HV
          unfold exCells at hwz
          have HWZ := Lib.hid hwz
          clear hwz
          unfold Ev.val
          go_upto_region 11 with fail
          rw [HWZ.out]
          clear HWZ
          generalize w9.heap.size = g4 at HV hgl hjl ⊢
          have e0 := HV.out.ex.c0
          have b3 := HA.out.c3
          have bf := HA.out.free 3
          go_upto_region 13 with fail
          clear b3 bf e0
          have HA := Lib.hid (HA.out.setBad true)
          have HF := Lib.hid (HF.out.trans (Fr.set g 3 (.bool true)))
          have HB := Lib.hid (HB.out.other (k := g) 3 (.bool true) (by omega))
          have HV := Lib.hid (HV.out.other (k := g) 3 (.bool true) (by omega))
          generalize wz.setCell ⟨g, 3, none⟩ (.bool true) = wy at HA HF HB HV ⊢
          obtain ⟨x0, x1, x2, x3, x4, x5, x6, x7, x8, x9, x10, x11, x12, x13⟩ := HB.out.ex
          obtain ⟨y0, y1, y2, y3, y4, y5, y6, y7, y8, y9, y10, y11, y12, y13⟩ := HV.out.ex
          have ff := HB.out.free
          go_wp2
          refine tree_put v rfl rfl HB.out ?_
          rw [HZ2.out]
          exact ⟨_, _, _, rfl, HA.out.put _ (by omega), HF.out.put _ (by have := HJ.out; omega)⟩

end Go.Proofs.YtfeffdjnjckjaaaGreatDoor.Rg
