/- The reader reads a truth, a call, a cell, an area, or a name. -/
import Derived.Test.YtfeffdjnjckjaaaGreatDoorPCall
namespace Go.Proofs.YtfeffdjnjckjaaaGreatDoor.Rg
open Go.RowKit

/-- What a part reads is stored as the result. -/
theorem relay {w w1 w2 : World} {g j : Nat} {s : ByteArray} {d : Int} {res : R} {e : Ending} {u : Ev} (h : TreePost w1 g s d res e w2) (hF : Fr w w1 g) (hB : Box w1 j (exCells u) 25) (hgj : g < j) (hj : w.heap.size ≤ j) : ∃ v : Ev, e = .returned v.val ∧ Box w2 j (exCells u) 25 ∧ TreePost w g s d res (.returned v.val) (put14 w2 j v) := by
  have hl := hB.lt
  cases res with
  | out => exact h.elim
  | bad =>
    obtain ⟨v, r', d', he, hA, hf⟩ := h
    exact ⟨v, he, hB.fr hf (by omega), v, r', d', rfl, hA.put _ (by omega), (hF.trans hf).put _ hj⟩
  | ok x r =>
    obtain ⟨v, he, hx, hA, hf⟩ := h
    exact ⟨v, he, hB.fr hf (by omega), v, rfl, (hx.put (fun h => by unfold From at h; omega)).mono (fun k h _ => by unfold From at h ⊢; omega), hA.put _ (by omega), (hF.trans hf).put _ hj⟩

theorem named_drop {r : List UInt8} (h : isNamed (pk r) = true) : r.dropWhile isNamed = r.tail.dropWhile isNamed := by
  cases r with
  | nil => rfl
  | cons a r =>
    have h' : isNamed a = true := h
    rw [List.dropWhile_cons, if_pos h']
    rfl
theorem named_stop {r : List UInt8} (h : isNamed (pk r) = false) : r.dropWhile isNamed = r := by
  cases r with
  | nil => rfl
  | cons a r => rw [List.dropWhile_cons, if_neg (by rw [show a = pk (a :: r) from rfl, h]; simp)]
theorem named_pos {c : UInt8} (h : isNamed c = true) : c ≠ 0 := by
  intro e
  subst e
  revert h
  decide
theorem take_named (r : List UInt8) : r.take (r.length - (r.dropWhile isNamed).length) = r.takeWhile isNamed := by
  have h := List.takeWhile_append_dropWhile (p := isNamed) (l := r)
  have hl : r.length - (r.dropWhile isNamed).length = (r.takeWhile isNamed).length := by
    have := congrArg List.length h
    rw [List.length_append] at this
    omega
  rw [hl]
  have e : r.take (r.takeWhile isNamed).length = (r.takeWhile isNamed ++ r.dropWhile isNamed).take (r.takeWhile isNamed).length := by rw [h]
  rw [e, List.take_left]
theorem bs_is {l m : List UInt8} (h : l = m) : ((bs l).toList == m) = true := by
  rw [Lib.toList_data]
  subst h
  simp [bs]
theorem bs_not {l m : List UInt8} (h : l ≠ m) : ((bs l).toList == m) = false := by
  rw [Lib.toList_data]
  simpa [bs] using h

set_option maxHeartbeats 16000000 in
set_option maxRecDepth 100000 in
theorem word_any (f : Nat → List UInt8 → R) (hf : LvlOk f) (g : Nat) (s : ByteArray) (r : List UInt8) (d : Nat) (w : World) (h : At w g s r d false) (hd : d ≤ 360) (hout : wordP f d r ≠ .out) :
    Calls Tryz.prog 49 #[.pointer (some ⟨g, 0, none⟩)] w (TreePost w g s d (wordP f d r)) := by
  obtain ⟨j, hj⟩ : ∃ j, w.heap.size = j := ⟨_, rfl⟩
  have hgj : g < j := hj ▸ h.lt
  obtain ⟨W, hW⟩ : ∃ W, w.alloc (.cells (exCells Ev.zero) 25) = W := ⟨_, rfl⟩
  have HA : Hid (At W g s r d false) := by subst hW; exact h.alloc _
  have HF : Hid (Fr w W g) := by subst hW; exact (Fr.refl w g).alloc _
  have HB : Hid (Box W j (exCells Ev.zero) 25) := by subst hW; subst hj; exact Box.made _ _ _
  have HJ := Lib.hid hj
  have HW := Lib.hid hW
  have HOUT := Lib.hid hout
  have HLF := Lib.hid hf
  have hr8 : r.length ≤ 8192 := by
    have := h.len
    have := h.small
    omega
  have HR8 := Lib.hid hr8
  clear h hj hW hout hf hr8
  unfold exCells at HW
  simp only [Ev.zero] at HW
  go_enter Tryz.func49, Tryz.ntmps49
  go_wp2_with fail
  rw [HJ.out, HW.out]
  clear HW
  refine (peek_any g s r d false W HA.out).mono ?_
  rintro e w' ⟨rfl, m0, rfl⟩
  have HA := Lib.hid (HA.out.drewN m0)
  have HF := Lib.hid (HF.out.trans (Fr.drewN _ _ m0))
  have HB := Lib.hid (HB.out.drewN m0)
  generalize W.drewN m0 = w1 at HA HF HB ⊢
  by_cases hA : pk r = 36
  · have hq : (((pk r).toNat : Int) == 36) = true := u8_eq hA
    have HZ : Hid (wordP f d r = placeP [] r) := Lib.hid (if_pos hA)
    clear hA
    go_wp2_with fail
    clear hq
    refine (place_any g s [] _ d w1 HA.out).mono ?_
    intro e w9 hpost
    obtain ⟨v, rfl, hB, hT⟩ := relay hpost HF.out HB.out hgj (by have := HJ.out; omega)
    have HT := Lib.hid hT
    have HB9 := Lib.hid hB
    clear hpost hT hB
    obtain ⟨x0, x1, x2, x3, x4, x5, x6, x7, x8, x9, x10, x11, x12, x13⟩ := HB9.out.ex
    have ff := HB9.out.free
    unfold Ev.val
    go_wp2
    refine tree_put v rfl rfl HB9.out ?_
    rw [HZ.out]
    exact HT.out
  · have hq : (((pk r).toNat : Int) == 36) = false := u8_ne hA
    by_cases hB0 : isAlpha (pk r) = false ∧ pk r ≠ 95
    · have HZ : Hid (wordP f d r = .bad) := by
        show wordP f d r = .bad
        unfold wordP
        rw [if_neg hA, if_pos hB0]
      have hq2 : (((pk r).toNat : Int) != 95) = true := u8_neq hB0.2
      have AL := Lib.hid (fun w => alpha_any (pk r) w)
      rw [hB0.1] at AL
      have PK := Lib.hid (peek_any g s r d false w1 HA.out)
      have PK2 := Lib.hid (fun n => peek_any g s r d false (w1.drewN n) (HA.out.drewN n))
      obtain ⟨q, q0, q1, HQ, c1, f1⟩ := HA.out.see
      have b3 := HA.out.c3
      have bf := HA.out.free 3
      clear hA hB0
      go_upto_region 6 with (first
        | (go_at_call 60; refine (AL.out _).mono ?_; rintro e w' ⟨rfl, rfl⟩)
        | (go_at_call 18; refine PK.out.mono ?_; rintro e w' ⟨rfl, m1, rfl⟩)
        | (go_at_call 18; refine (PK2.out _).mono ?_; rintro e w' ⟨rfl, m2, rfl⟩))
      try simp only [World.drewN_drewN]
      have HAb := Lib.hid ((HA.out.drewN (m1 + m2)).setBad true)
      have HFb := Lib.hid ((HF.out.trans (Fr.drewN _ _ (m1 + m2))).trans (Fr.set g 3 (.bool true)))
      have HBb := Lib.hid ((HB.out.drewN (m1 + m2)).other (k := g) 3 (.bool true) (by omega))
      clear b3 bf PK PK2 AL c1 f1 hq hq2
      generalize (w1.drewN (m1 + m2)).setCell ⟨g, 3, none⟩ (.bool true) = w9 at HAb HFb HBb ⊢
      obtain ⟨d0, d1, d2, d3, d4, d5, d6, d7, d8, d9, d10, d11, d12, d13⟩ := HBb.out.ex
      have ff := HBb.out.free
      go_wp2
      refine tree_put Ev.zero rfl rfl HBb.out ?_
      rw [HZ.out]
      exact ⟨_, _, _, rfl, HAb.out.put _ (by omega), HFb.out.put _ (by have := HJ.out; omega)⟩
    · have HW1 := Lib.hid hA
      have HW2 := Lib.hid hB0
      obtain ⟨k, hk, hks, HK1, HK2, c1⟩ := HA.out.nat
      have AL := Lib.hid (fun w => alpha_any (pk r) w)
      have PK := Lib.hid (peek_any g s r d false w1 HA.out)
      have PK2 := Lib.hid (fun n => peek_any g s r d false (w1.drewN n) (HA.out.drewN n))
      have HHB : ∃ xa, isAlpha (pk r) = xa ∧ (xa = false → (((pk r).toNat : Int) != 95) = false) := ⟨_, rfl, fun h => u8_nneq (by
        apply Classical.byContradiction
        intro hne
        exact hB0 ⟨h, hne⟩)⟩
      obtain ⟨xa, hxa, hxb⟩ := HHB
      rw [hxa] at AL
      have HXA := Lib.hid hxa
      clear hA hB0 hxa
      go_upto_region 4 with (fail)
      clear c1
      go_cut [26] (fun t wx => t = .bool false ∧ Hid (At wx g s r d false) ∧ Hid (Fr w wx g) ∧ Hid (Box wx j (exCells Ev.zero) 25))
      case first =>
        cases xa
        case false =>
          have hb := hxb rfl
          go_wp2_with (first
            | (go_at_call 60; refine (AL.out _).mono ?_; rintro e w' ⟨rfl, rfl⟩)
            | (go_at_call 18; refine PK.out.mono ?_; rintro e w' ⟨rfl, m1, rfl⟩)
            | (go_at_call 18; refine (PK2.out _).mono ?_; rintro e w' ⟨rfl, m2, rfl⟩))
          go_meet
          exact ⟨rfl, Lib.hid (HA.out.drewN (m1 + m2)), Lib.hid (HF.out.trans (Fr.drewN _ _ (m1 + m2))), Lib.hid (HB.out.drewN (m1 + m2))⟩
        case true =>
          go_wp2_with (first
            | (go_at_call 60; refine (AL.out _).mono ?_; rintro e w' ⟨rfl, rfl⟩)
            | (go_at_call 18; refine PK.out.mono ?_; rintro e w' ⟨rfl, m1, rfl⟩))
          go_meet
          exact ⟨rfl, Lib.hid (HA.out.drewN m1), Lib.hid (HF.out.trans (Fr.drewN _ _ m1)), Lib.hid (HB.out.drewN m1)⟩
      case rest =>
        obtain ⟨rfl, HA, HF, HB⟩ := hcut
        have HP0 : Hid (wordP f d r = if pk (r.dropWhile isNamed) = 40 then callP f (upL (r.takeWhile isNamed)) d (r.dropWhile isNamed)
          else if pk (r.dropWhile isNamed) = 33 then placeP (r.takeWhile isNamed) (r.dropWhile isNamed).tail
          else if upL (r.takeWhile isNamed) = sTRUE ∨ upL (r.takeWhile isNamed) = sFALSE then .ok (.truth (decide (upL (r.takeWhile isNamed) = sTRUE))) (r.dropWhile isNamed)
          else if ((cellP r).ok = false ∨ isNamed (pk (cellP r).rest) = true) ∧ pk (cellP r).rest ≠ 36 then .ok (.name (r.takeWhile isNamed)) (r.dropWhile isNamed)
          else placeP [] r) := by
          show wordP f d r = _
          unfold wordP
          rw [if_neg HW1.out, if_neg HW2.out]
        go_wp2_with fail
        go_loopw [] (fun wr => ∃ r', Hid (r'.dropWhile isNamed = r.dropWhile isNamed) ∧ Hid (At wr g s r' d false) ∧ Hid (Fr w wr g) ∧ Hid (Box wr j (exCells Ev.zero) 25)) (fun wr => left wr g)
        case atStart => exact ⟨r, Lib.hid rfl, HA, HF, HB⟩
        clear HA HF HB
        case round =>
          obtain ⟨r', HR, HA, HF, HB⟩ := hrel
          have PK := Lib.hid (peek_any g s r' d false wr HA.out)
          have NM := Lib.hid (fun w => named_any (pk r') w)
          by_cases hn : isNamed (pk r') = true
          · rw [hn] at NM
            have HR2 := Lib.hid ((named_drop hn).symm.trans HR.out)
            have HC := Lib.hid (pk_cons (named_pos hn))
            obtain ⟨q, q0, q1, HQ, c1, f1⟩ := HA.out.see
            clear hn
            go_wp2_with (first
              | (go_at_call 59; refine (NM.out _).mono ?_; rintro e w' ⟨rfl, rfl⟩)
              | (go_at_call 18; refine PK.out.mono ?_; rintro e w' ⟨rfl, m1, rfl⟩))
            have h1 := HA.out.drewN m1
            rw [HC.out] at h1
            have h2 := h1.step (q + 1) (by rw [HQ.out, ← HC.out])
            go_roundw
            case rel => exact ⟨r'.tail, HR2, Lib.hid h2, Lib.hid ((HF.out.trans (Fr.drewN _ _ _)).trans (Fr.set _ _ _)), Lib.hid ((HB.out.drewN _).other _ _ (by omega))⟩
            case measure =>
              rw [h2.left, HA.out.left, HC.out]
              simp
          · have hn : isNamed (pk r') = false := by simpa using hn
            rw [hn] at NM
            have HR2 := Lib.hid ((named_stop hn).symm.trans HR.out)
            clear hn
            go_wp2_with (first
              | (go_at_call 59; refine (NM.out _).mono ?_; rintro e w' ⟨rfl, rfl⟩)
              | (go_at_call 18; refine PK.out.mono ?_; rintro e w' ⟨rfl, m1, rfl⟩))
            have HA := Lib.hid (HA.out.drewN m1)
            have HF := Lib.hid (HF.out.trans (Fr.drewN _ _ m1))
            have HB := Lib.hid (HB.out.drewN m1)
            clear PK NM
            generalize wr.drewN m1 = w2 at HA HF HB ⊢
            have HS : Hid (r'.length ≤ r.length) := by
              show r'.length ≤ r.length
              rw [HR2.out]
              exact (List.dropWhile_suffix _).length_le
            obtain ⟨m, hm, hms, HM1, HM2, c1⟩ := HA.out.nat
            have c0 := HA.out.c0
            have hkm : (k : Int) ≤ (m : Int) := by
              have := HK1.out
              have := HM1.out
              have := HS.out
              omega
            have g0 : (0 : Int) ≤ (k : Int) := by omega
            have g1 : (m : Int) ≤ (s.size : Int) := by omega
            obtain ⟨nm, hnm⟩ : ∃ nm, r.takeWhile isNamed = nm := ⟨_, rfl⟩
            have HT : Hid (s.extract k m = bs nm) := by
              show s.extract k m = bs nm
              rw [text_between HK1.out HK2.out HM1.out HS.out, HR2.out, take_named, hnm]
            have hp0 := HP0.out
            rw [hnm, ← HR2.out] at hp0
            have HP := Lib.hid hp0
            have HNM := Lib.hid hnm
            clear hnm hp0
            go_quiet (fail)
            rw [HT.out]
            have HA := Lib.hid (HA.out.drewN nq)
            have HF := Lib.hid (HF.out.trans (Fr.drewN _ _ nq))
            have HB := Lib.hid (HB.out.drewN nq)
            clear c0 c1
            generalize w2.drewN nq = w3 at HA HF HB ⊢
            have HN8 : Hid (nm.length ≤ 8192) := by
              show nm.length ≤ 8192
              have h1 := congrArg List.length HNM.out
              have h2 := (List.takeWhile_prefix (p := isNamed) (l := r)).length_le
              have h3 := HR8.out
              omega
            by_cases h40 : pk r' = 40
            · have hq : (((pk r').toNat : Int) == 40) = true := u8_eq h40
              have HZ : Hid (wordP f d r = callP f (upL nm) d r') := Lib.hid (HP.out.trans (if_pos h40))
              have H40 := Lib.hid h40
              clear h40
              go_wp2_with fail
              refine (peek_any g s r' d false w3 HA.out).mono ?_
              rintro e w' ⟨rfl, m2, rfl⟩
              have HA := Lib.hid (HA.out.drewN m2)
              have HF := Lib.hid (HF.out.trans (Fr.drewN _ _ m2))
              have HB := Lib.hid (HB.out.drewN m2)
              generalize w3.drewN m2 = w4 at HA HF HB ⊢
              go_wp2_with fail
              clear hq
              refine (upperL_any nm w4 HN8.out).mono ?_
              rintro e w5 ⟨rfl, hb⟩
              have HA := Lib.hid (HA.out.below hb)
              have HF := Lib.hid (HF.out.trans (Fr.of_below g hb))
              have HB := Lib.hid (HB.out.below hb)
              clear hb
              go_wp2_with fail
              refine (call_any f HLF.out g s (upL nm) r' d w5 HA.out hd H40.out (fun h => HOUT.out (HZ.out.trans h))).mono ?_
              intro e w9 hpost
              obtain ⟨v, rfl, hB, hT⟩ := relay hpost HF.out HB.out hgj (by have := HJ.out; omega)
              have HT9 := Lib.hid hT
              have HB9 := Lib.hid hB
              clear hpost hT hB
              obtain ⟨x0, x1, x2, x3, x4, x5, x6, x7, x8, x9, x10, x11, x12, x13⟩ := HB9.out.ex
              have ff := HB9.out.free
              unfold Ev.val
              go_wp2
              refine tree_put v rfl rfl HB9.out ?_
              rw [HZ.out]
              exact HT9.out
            · have hq : (((pk r').toNat : Int) == 40) = false := u8_ne h40
              by_cases h33 : pk r' = 33
              · have hq2 : (((pk r').toNat : Int) == 33) = true := u8_eq h33
                have HZ : Hid (wordP f d r = placeP nm r'.tail) := Lib.hid (HP.out.trans ((if_neg h40).trans (if_pos h33)))
                have HC := Lib.hid (pk_cons (r := r') (by rw [h33]; decide))
                clear h40 h33
                go_wp2_with fail
                refine (peek_any g s r' d false w3 HA.out).mono ?_
                rintro e w' ⟨rfl, m2, rfl⟩
                have HA := Lib.hid (HA.out.drewN m2)
                have HF := Lib.hid (HF.out.trans (Fr.drewN _ _ m2))
                have HB := Lib.hid (HB.out.drewN m2)
                generalize w3.drewN m2 = w4 at HA HF HB ⊢
                go_wp2_with fail
                refine (peek_any g s r' d false w4 HA.out).mono ?_
                rintro e w' ⟨rfl, m3, rfl⟩
                have HA := Lib.hid (HA.out.drewN m3)
                have HF := Lib.hid (HF.out.trans (Fr.drewN _ _ m3))
                have HB := Lib.hid (HB.out.drewN m3)
                generalize w4.drewN m3 = w5 at HA HF HB ⊢
                obtain ⟨q, q0, q1, HQ, c1, f1⟩ := HA.out.see
                have HA2 : Hid (At (w5.setCell ⟨g, 1, none⟩ (.int .i64 (q + 1))) g s r'.tail d false) := by
                  have h1 := HA.out
                  rw [HC.out] at h1
                  exact h1.step (q + 1) (by rw [HQ.out, ← HC.out])
                have HF := Lib.hid (HF.out.trans (Fr.set g 1 (.int .i64 (q + 1))))
                have HB := Lib.hid (HB.out.other (k := g) 1 (.int .i64 (q + 1)) (by omega))
                go_wp2_with fail
                clear c1 f1 hq hq2
                generalize w5.setCell ⟨g, 1, none⟩ (.int .i64 (q + 1)) = w6 at HA2 HF HB ⊢
                refine (place_any g s nm _ d w6 HA2.out).mono ?_
                intro e w9 hpost
                obtain ⟨v, rfl, hB, hT⟩ := relay hpost HF.out HB.out hgj (by have := HJ.out; omega)
                have HT9 := Lib.hid hT
                have HB9 := Lib.hid hB
                clear hpost hT hB
                obtain ⟨x0, x1, x2, x3, x4, x5, x6, x7, x8, x9, x10, x11, x12, x13⟩ := HB9.out.ex
                have ff := HB9.out.free
                unfold Ev.val
                go_wp2
                refine tree_put v rfl rfl HB9.out ?_
                rw [HZ.out]
                exact HT9.out
              · have hq2 : (((pk r').toNat : Int) == 33) = false := u8_ne h33
                have HP2 := Lib.hid (HP.out.trans ((if_neg h40).trans (if_neg h33)))
                clear h40 h33
                go_wp2_with fail
                refine (peek_any g s r' d false w3 HA.out).mono ?_
                rintro e w' ⟨rfl, m2, rfl⟩
                have HA := Lib.hid (HA.out.drewN m2)
                have HF := Lib.hid (HF.out.trans (Fr.drewN _ _ m2))
                have HB := Lib.hid (HB.out.drewN m2)
                generalize w3.drewN m2 = w4 at HA HF HB ⊢
                go_wp2_with fail
                refine (peek_any g s r' d false w4 HA.out).mono ?_
                rintro e w' ⟨rfl, m3, rfl⟩
                have HA := Lib.hid (HA.out.drewN m3)
                have HF := Lib.hid (HF.out.trans (Fr.drewN _ _ m3))
                have HB := Lib.hid (HB.out.drewN m3)
                generalize w4.drewN m3 = w5 at HA HF HB ⊢
                by_cases hT : upL nm = sTRUE
                · have t1 : ((bs (upL nm)).toList == [84, 82, 85, 69]) = true := bs_is hT
                  have HZ : Hid (wordP f d r = .ok (.truth true) r') := by
                    show wordP f d r = _
                    rw [HP2.out, if_pos (.inl hT)]
                    simp [hT]
                  clear hT
                  go_wp2_with fail
                  refine (upperL_any nm w5 HN8.out).mono ?_
                  rintro e w6 ⟨rfl, hb⟩
                  have HA := Lib.hid (HA.out.below hb)
                  have HF := Lib.hid (HF.out.trans (Fr.of_below g hb))
                  have HB := Lib.hid (HB.out.below hb)
                  clear hb
                  go_wp2_with fail
                  refine (upperL_any nm w6 HN8.out).mono ?_
                  rintro e w7 ⟨rfl, hb⟩
                  have HA := Lib.hid (HA.out.below hb)
                  have HF := Lib.hid (HF.out.trans (Fr.of_below g hb))
                  have HB := Lib.hid (HB.out.below hb)
                  clear hb
                  have x := HB.out.ex
                  obtain ⟨x0, x1, x2, x3, x4, x5, x6, x7, x8, x9, x10, x11, x12, x13⟩ := x
                  have ff := HB.out.free
                  go_wp2
                  refine tree_put { Ev.zero with op := sTruth, is := true } rfl rfl HB.out ?_
                  rw [HZ.out]
                  exact ⟨_, rfl, rfl, HA.out.put _ (by omega), HF.out.put _ (by have := HJ.out; omega)⟩
                · have t1 : ((bs (upL nm)).toList == [84, 82, 85, 69]) = false := bs_not hT
                  by_cases hFa : upL nm = sFALSE
                  · have t2 : ((bs (upL nm)).toList == [70, 65, 76, 83, 69]) = true := bs_is hFa
                    have HZ : Hid (wordP f d r = .ok (.truth false) r') := by
                      show wordP f d r = _
                      rw [HP2.out, if_pos (.inr hFa)]
                      simp [hT]
                    clear hT hFa
                    go_wp2_with fail
                    refine (upperL_any nm w5 HN8.out).mono ?_
                    rintro e w6 ⟨rfl, hb⟩
                    have HA := Lib.hid (HA.out.below hb)
                    have HF := Lib.hid (HF.out.trans (Fr.of_below g hb))
                    have HB := Lib.hid (HB.out.below hb)
                    clear hb
                    go_wp2_with fail
                    refine (upperL_any nm w6 HN8.out).mono ?_
                    rintro e w7 ⟨rfl, hb⟩
                    have HA := Lib.hid (HA.out.below hb)
                    have HF := Lib.hid (HF.out.trans (Fr.of_below g hb))
                    have HB := Lib.hid (HB.out.below hb)
                    clear hb
                    go_wp2_with fail
                    refine (upperL_any nm w7 HN8.out).mono ?_
                    rintro e w8 ⟨rfl, hb⟩
                    have HA := Lib.hid (HA.out.below hb)
                    have HF := Lib.hid (HF.out.trans (Fr.of_below g hb))
                    have HB := Lib.hid (HB.out.below hb)
                    clear hb
                    have x := HB.out.ex
                    obtain ⟨x0, x1, x2, x3, x4, x5, x6, x7, x8, x9, x10, x11, x12, x13⟩ := x
                    have ff := HB.out.free
                    go_wp2
                    refine tree_put { Ev.zero with op := sTruth, is := false } rfl rfl HB.out ?_
                    rw [HZ.out]
                    exact ⟨_, rfl, rfl, HA.out.put _ (by omega), HF.out.put _ (by have := HJ.out; omega)⟩
                  · have t2 : ((bs (upL nm)).toList == [70, 65, 76, 83, 69]) = false := bs_not hFa
                    have HP3 := Lib.hid (HP2.out.trans (if_neg (fun h => h.elim hT hFa)))
                    clear hT hFa
                    go_wp2_with fail
                    refine (upperL_any nm w5 HN8.out).mono ?_
                    rintro e w6 ⟨rfl, hb⟩
                    have HA := Lib.hid (HA.out.below hb)
                    have HF := Lib.hid (HF.out.trans (Fr.of_below g hb))
                    have HB := Lib.hid (HB.out.below hb)
                    clear hb
                    go_wp2_with fail
                    refine (upperL_any nm w6 HN8.out).mono ?_
                    rintro e w7 ⟨rfl, hb⟩
                    have HA := Lib.hid (HA.out.below hb)
                    have HF := Lib.hid (HF.out.trans (Fr.of_below g hb))
                    have HB := Lib.hid (HB.out.below hb)
                    clear hb
                    obtain ⟨q, q0, q1, HQ, c1, f1⟩ := HA.out.see
                    have HA2 : Hid (At (w7.setCell ⟨g, 1, none⟩ (.int .i64 k)) g s r d false) := Lib.hid (HA.out.setAt r (k : Int) (by have := HK1.out; omega) (by rw [HK2.out]; exact List.drop_suffix _ _))
                    have HF := Lib.hid (HF.out.trans (Fr.set g 1 (.int .i64 k)))
                    have HB := Lib.hid (HB.out.other (k := g) 1 (.int .i64 k) (by omega))
                    go_wp2_with fail
                    clear c1 f1 t1 t2
                    generalize w7.setCell ⟨g, 1, none⟩ (.int .i64 k) = w8 at HA2 HF HB ⊢
                    have CL := Lib.hid (cell_any g s r d false w8 HA2.out)
                    obtain ⟨C, hC⟩ : ∃ C, cellP r = C := ⟨_, rfl⟩
                    have hp3 := HP3.out
                    rw [hC] at CL hp3
                    have HP4 := Lib.hid hp3
                    clear hC hp3
                    obtain ⟨col, row, fa, fb, o, rc⟩ := C
                    simp only at HP4
                    unfold CellPost at CL
                    simp only at CL
                    refine CL.out.mono ?_
                    rintro e w9 ⟨rfl, hA, hF⟩
                    have HA := Lib.hid hA
                    have HF := Lib.hid (HF.out.trans hF)
                    have HB := Lib.hid (HB.out.fr hF (by omega))
                    clear hA hF CL
                    go_upto_region 19 with fail
                    have HA := Lib.hid (HA.out.alloc (.cells #[.bool fa, .bool fb] 87))
                    have HF := Lib.hid (HF.out.alloc (.cells #[.bool fa, .bool fb] 87))
                    have HB := Lib.hid (HB.out.alloc (.cells #[.bool fa, .bool fb] 87))
                    generalize w9.alloc (.cells #[.bool fa, .bool fb] 87) = wa at HA HF HB ⊢
                    have PK := Lib.hid (peek_any g s rc d false wa HA.out)
                    have PK2 := Lib.hid (fun n => peek_any g s rc d false (wa.drewN n) (HA.out.drewN n))
                    have NM := Lib.hid (fun w => named_any (pk rc) w)
                    obtain ⟨y, hy⟩ : ∃ y, isNamed (pk rc) = y := ⟨_, rfl⟩
                    have hp4 := HP4.out
                    rw [hy] at NM hp4
                    have HP5 := Lib.hid hp4
                    clear hy hp4
                    have HNL : Hid (nm.length + r'.length = r.length) := by
                      show nm.length + r'.length = r.length
                      have h1 := congrArg List.length (List.takeWhile_append_dropWhile (p := isNamed) (l := r))
                      rw [List.length_append, HNM.out, ← HR2.out] at h1
                      exact h1
                    have hln : k + nm.length ≤ 8192 := by
                      have h1 := HNL.out
                      have h2 := HK1.out
                      have h3 := HA.out.small
                      omega
                    by_cases h36 : pk rc = 36
                    · have hq3 : (((pk rc).toNat : Int) != 36) = false := u8_nneq h36
                      have HZ : Hid (wordP f d r = placeP [] r) := Lib.hid (HP5.out.trans (if_neg (fun h => h.2 h36)))
                      clear h36
                      cases o
                      case false =>
                        go_upto_region 22 with (first
                          | (go_at_call 59; refine (NM.out _).mono ?_; rintro e w' ⟨rfl, rfl⟩)
                          | (go_at_call 18; refine PK.out.mono ?_; rintro e w' ⟨rfl, m5, rfl⟩)
                          | (go_at_call 18; refine (PK2.out _).mono ?_; rintro e w' ⟨rfl, m6, rfl⟩))
                        try simp only [World.drewN_drewN]
                        have HA := Lib.hid (HA.out.drewN (m5))
                        have HF := Lib.hid (HF.out.trans (Fr.drewN _ _ (m5)))
                        have HB := Lib.hid (HB.out.drewN (m5))
                        clear PK PK2 NM
                        generalize wa.drewN (m5) = wb at HA HF HB ⊢
                        obtain ⟨q2, q02, q12, HQ2, c1, f1⟩ := HA.out.see
                        have HA2 : Hid (At (wb.setCell ⟨g, 1, none⟩ (.int .i64 k)) g s r d false) := Lib.hid (HA.out.setAt r (k : Int) (by have := HK1.out; omega) (by rw [HK2.out]; exact List.drop_suffix _ _))
                        have HF := Lib.hid (HF.out.trans (Fr.set g 1 (.int .i64 k)))
                        have HB := Lib.hid (HB.out.other (k := g) 1 (.int .i64 k) (by omega))
                        go_wp2_with fail
                        clear c1 f1
                        generalize wb.setCell ⟨g, 1, none⟩ (.int .i64 k) = wd at HA2 HF HB ⊢
                        refine (place_any g s [] _ d wd HA2.out).mono ?_
                        intro e w10 hpost
                        obtain ⟨v, rfl, hB, hT⟩ := relay hpost HF.out HB.out hgj (by have := HJ.out; omega)
                        have HT9 := Lib.hid hT
                        have HB9 := Lib.hid hB
                        clear hpost hT hB
                        obtain ⟨x0, x1, x2, x3, x4, x5, x6, x7, x8, x9, x10, x11, x12, x13⟩ := HB9.out.ex
                        have ff := HB9.out.free
                        unfold Ev.val
                        go_wp2
                        refine tree_put v rfl rfl HB9.out ?_
                        rw [HZ.out]
                        exact HT9.out
                      case true =>
                        cases y
                        case false =>
                          go_upto_region 22 with (first
                            | (go_at_call 59; refine (NM.out _).mono ?_; rintro e w' ⟨rfl, rfl⟩)
                            | (go_at_call 18; refine PK.out.mono ?_; rintro e w' ⟨rfl, m5, rfl⟩)
                            | (go_at_call 18; refine (PK2.out _).mono ?_; rintro e w' ⟨rfl, m6, rfl⟩))
                          try simp only [World.drewN_drewN]
                          have HA := Lib.hid (HA.out.drewN (m5))
                          have HF := Lib.hid (HF.out.trans (Fr.drewN _ _ (m5)))
                          have HB := Lib.hid (HB.out.drewN (m5))
                          clear PK PK2 NM
                          generalize wa.drewN (m5) = wb at HA HF HB ⊢
                          obtain ⟨q2, q02, q12, HQ2, c1, f1⟩ := HA.out.see
                          have HA2 : Hid (At (wb.setCell ⟨g, 1, none⟩ (.int .i64 k)) g s r d false) := Lib.hid (HA.out.setAt r (k : Int) (by have := HK1.out; omega) (by rw [HK2.out]; exact List.drop_suffix _ _))
                          have HF := Lib.hid (HF.out.trans (Fr.set g 1 (.int .i64 k)))
                          have HB := Lib.hid (HB.out.other (k := g) 1 (.int .i64 k) (by omega))
                          go_wp2_with fail
                          clear c1 f1
                          generalize wb.setCell ⟨g, 1, none⟩ (.int .i64 k) = wd at HA2 HF HB ⊢
                          refine (place_any g s [] _ d wd HA2.out).mono ?_
                          intro e w10 hpost
                          obtain ⟨v, rfl, hB, hT⟩ := relay hpost HF.out HB.out hgj (by have := HJ.out; omega)
                          have HT9 := Lib.hid hT
                          have HB9 := Lib.hid hB
                          clear hpost hT hB
                          obtain ⟨x0, x1, x2, x3, x4, x5, x6, x7, x8, x9, x10, x11, x12, x13⟩ := HB9.out.ex
                          have ff := HB9.out.free
                          unfold Ev.val
                          go_wp2
                          refine tree_put v rfl rfl HB9.out ?_
                          rw [HZ.out]
                          exact HT9.out
                        case true =>
                          go_upto_region 22 with (first
                            | (go_at_call 59; refine (NM.out _).mono ?_; rintro e w' ⟨rfl, rfl⟩)
                            | (go_at_call 18; refine PK.out.mono ?_; rintro e w' ⟨rfl, m5, rfl⟩)
                            | (go_at_call 18; refine (PK2.out _).mono ?_; rintro e w' ⟨rfl, m6, rfl⟩))
                          try simp only [World.drewN_drewN]
                          have HA := Lib.hid (HA.out.drewN (m5 + m6))
                          have HF := Lib.hid (HF.out.trans (Fr.drewN _ _ (m5 + m6)))
                          have HB := Lib.hid (HB.out.drewN (m5 + m6))
                          clear PK PK2 NM
                          generalize wa.drewN (m5 + m6) = wb at HA HF HB ⊢
                          obtain ⟨q2, q02, q12, HQ2, c1, f1⟩ := HA.out.see
                          have HA2 : Hid (At (wb.setCell ⟨g, 1, none⟩ (.int .i64 k)) g s r d false) := Lib.hid (HA.out.setAt r (k : Int) (by have := HK1.out; omega) (by rw [HK2.out]; exact List.drop_suffix _ _))
                          have HF := Lib.hid (HF.out.trans (Fr.set g 1 (.int .i64 k)))
                          have HB := Lib.hid (HB.out.other (k := g) 1 (.int .i64 k) (by omega))
                          go_wp2_with fail
                          clear c1 f1
                          generalize wb.setCell ⟨g, 1, none⟩ (.int .i64 k) = wd at HA2 HF HB ⊢
                          refine (place_any g s [] _ d wd HA2.out).mono ?_
                          intro e w10 hpost
                          obtain ⟨v, rfl, hB, hT⟩ := relay hpost HF.out HB.out hgj (by have := HJ.out; omega)
                          have HT9 := Lib.hid hT
                          have HB9 := Lib.hid hB
                          clear hpost hT hB
                          obtain ⟨x0, x1, x2, x3, x4, x5, x6, x7, x8, x9, x10, x11, x12, x13⟩ := HB9.out.ex
                          have ff := HB9.out.free
                          unfold Ev.val
                          go_wp2
                          refine tree_put v rfl rfl HB9.out ?_
                          rw [HZ.out]
                          exact HT9.out
                    · have hq3 : (((pk rc).toNat : Int) != 36) = true := u8_neq h36
                      cases o
                      case false =>
                        have HZ : Hid (wordP f d r = .ok (.name nm) r') := Lib.hid (HP5.out.trans (if_pos ⟨.inl rfl, h36⟩))
                        clear h36
                        go_upto_region 20 with (first
                          | (go_at_call 59; refine (NM.out _).mono ?_; rintro e w' ⟨rfl, rfl⟩)
                          | (go_at_call 18; refine PK.out.mono ?_; rintro e w' ⟨rfl, m5, rfl⟩)
                          | (go_at_call 18; refine (PK2.out _).mono ?_; rintro e w' ⟨rfl, m6, rfl⟩))
                        try simp only [World.drewN_drewN]
                        have HA := Lib.hid (HA.out.drewN (m5))
                        have HF := Lib.hid (HF.out.trans (Fr.drewN _ _ (m5)))
                        have HB := Lib.hid (HB.out.drewN (m5))
                        clear PK PK2 NM
                        generalize wa.drewN (m5) = wb at HA HF HB ⊢
                        obtain ⟨q2, q02, q12, HQ2, c1, f1⟩ := HA.out.see
                        have hbl : (bs nm).size = nm.length := bs_size nm
                        go_upto_region 21 with fail
                        clear c1 f1 hbl
                        have HA2 : Hid (At (wb.setCell ⟨g, 1, none⟩ (.int .i64 ((k : Int) + (nm.length : Int)))) g s r' d false) := Lib.hid (HA.out.setAt r' _ (by have h1 := HK1.out; have h2 := HNL.out; omega) (by rw [HR2.out]; exact (List.dropWhile_suffix _).trans (by rw [HK2.out]; exact List.drop_suffix _ _)))
                        have HF := Lib.hid (HF.out.trans (Fr.set g 1 (.int .i64 ((k : Int) + (nm.length : Int)))))
                        have HB := Lib.hid (HB.out.other (k := g) 1 (.int .i64 ((k : Int) + (nm.length : Int))) (by omega))
                        generalize wb.setCell ⟨g, 1, none⟩ (.int .i64 ((k : Int) + (nm.length : Int))) = wd at HA2 HF HB ⊢
                        obtain ⟨x0, x1, x2, x3, x4, x5, x6, x7, x8, x9, x10, x11, x12, x13⟩ := HB.out.ex
                        have ff := HB.out.free
                        go_wp2
                        refine tree_put { Ev.zero with op := sName, text := bs nm } rfl rfl HB.out ?_
                        rw [HZ.out]
                        exact ⟨_, rfl, rfl, HA2.out.put _ (by omega), HF.out.put _ (by have := HJ.out; omega)⟩
                      case true =>
                        cases y
                        case false =>
                          have HZ : Hid (wordP f d r = placeP [] r) := Lib.hid (HP5.out.trans (if_neg (by simp)))
                          clear h36
                          go_upto_region 22 with (first
                            | (go_at_call 59; refine (NM.out _).mono ?_; rintro e w' ⟨rfl, rfl⟩)
                            | (go_at_call 18; refine PK.out.mono ?_; rintro e w' ⟨rfl, m5, rfl⟩)
                            | (go_at_call 18; refine (PK2.out _).mono ?_; rintro e w' ⟨rfl, m6, rfl⟩))
                          try simp only [World.drewN_drewN]
                          have HA := Lib.hid (HA.out.drewN (m5))
                          have HF := Lib.hid (HF.out.trans (Fr.drewN _ _ (m5)))
                          have HB := Lib.hid (HB.out.drewN (m5))
                          clear PK PK2 NM
                          generalize wa.drewN (m5) = wb at HA HF HB ⊢
                          obtain ⟨q2, q02, q12, HQ2, c1, f1⟩ := HA.out.see
                          have HA2 : Hid (At (wb.setCell ⟨g, 1, none⟩ (.int .i64 k)) g s r d false) := Lib.hid (HA.out.setAt r (k : Int) (by have := HK1.out; omega) (by rw [HK2.out]; exact List.drop_suffix _ _))
                          have HF := Lib.hid (HF.out.trans (Fr.set g 1 (.int .i64 k)))
                          have HB := Lib.hid (HB.out.other (k := g) 1 (.int .i64 k) (by omega))
                          go_wp2_with fail
                          clear c1 f1
                          generalize wb.setCell ⟨g, 1, none⟩ (.int .i64 k) = wd at HA2 HF HB ⊢
                          refine (place_any g s [] _ d wd HA2.out).mono ?_
                          intro e w10 hpost
                          obtain ⟨v, rfl, hB, hT⟩ := relay hpost HF.out HB.out hgj (by have := HJ.out; omega)
                          have HT9 := Lib.hid hT
                          have HB9 := Lib.hid hB
                          clear hpost hT hB
                          obtain ⟨x0, x1, x2, x3, x4, x5, x6, x7, x8, x9, x10, x11, x12, x13⟩ := HB9.out.ex
                          have ff := HB9.out.free
                          unfold Ev.val
                          go_wp2
                          refine tree_put v rfl rfl HB9.out ?_
                          rw [HZ.out]
                          exact HT9.out
                        case true =>
                          have HZ : Hid (wordP f d r = .ok (.name nm) r') := Lib.hid (HP5.out.trans (if_pos ⟨.inr rfl, h36⟩))
                          clear h36
                          go_upto_region 20 with (first
                            | (go_at_call 59; refine (NM.out _).mono ?_; rintro e w' ⟨rfl, rfl⟩)
                            | (go_at_call 18; refine PK.out.mono ?_; rintro e w' ⟨rfl, m5, rfl⟩)
                            | (go_at_call 18; refine (PK2.out _).mono ?_; rintro e w' ⟨rfl, m6, rfl⟩))
                          try simp only [World.drewN_drewN]
                          have HA := Lib.hid (HA.out.drewN (m5 + m6))
                          have HF := Lib.hid (HF.out.trans (Fr.drewN _ _ (m5 + m6)))
                          have HB := Lib.hid (HB.out.drewN (m5 + m6))
                          clear PK PK2 NM
                          generalize wa.drewN (m5 + m6) = wb at HA HF HB ⊢
                          obtain ⟨q2, q02, q12, HQ2, c1, f1⟩ := HA.out.see
                          have hbl : (bs nm).size = nm.length := bs_size nm
                          go_upto_region 21 with fail
                          clear c1 f1 hbl
                          have HA2 : Hid (At (wb.setCell ⟨g, 1, none⟩ (.int .i64 ((k : Int) + (nm.length : Int)))) g s r' d false) := Lib.hid (HA.out.setAt r' _ (by have h1 := HK1.out; have h2 := HNL.out; omega) (by rw [HR2.out]; exact (List.dropWhile_suffix _).trans (by rw [HK2.out]; exact List.drop_suffix _ _)))
                          have HF := Lib.hid (HF.out.trans (Fr.set g 1 (.int .i64 ((k : Int) + (nm.length : Int)))))
                          have HB := Lib.hid (HB.out.other (k := g) 1 (.int .i64 ((k : Int) + (nm.length : Int))) (by omega))
                          generalize wb.setCell ⟨g, 1, none⟩ (.int .i64 ((k : Int) + (nm.length : Int))) = wd at HA2 HF HB ⊢
                          obtain ⟨x0, x1, x2, x3, x4, x5, x6, x7, x8, x9, x10, x11, x12, x13⟩ := HB.out.ex
                          have ff := HB.out.free
                          go_wp2
                          refine tree_put { Ev.zero with op := sName, text := bs nm } rfl rfl HB.out ?_
                          rw [HZ.out]
                          exact ⟨_, rfl, rfl, HA2.out.put _ (by omega), HF.out.put _ (by have := HJ.out; omega)⟩

end Go.Proofs.YtfeffdjnjckjaaaGreatDoor.Rg
