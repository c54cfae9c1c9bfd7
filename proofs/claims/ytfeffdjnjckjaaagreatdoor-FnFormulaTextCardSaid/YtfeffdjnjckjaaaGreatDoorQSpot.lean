/- A cell or an area as a text, with its sheet. -/
import Derived.Test.YtfeffdjnjckjaaaGreatDoorJCorner
namespace Go.Proofs.YtfeffdjnjckjaaaGreatDoor.Rg
open Go.RowKit

theorem plain_snoc (s : List UInt8) (k : Nat) (a : UInt8) (h : s[k]? = some a) : (s.take (k + 1)).all (fun c => isAlpha c || isNum c) = ((s.take k).all (fun c => isAlpha c || isNum c) && (isAlpha a || isNum a)) := by
  rw [take_snoc s k a h, List.all_append]
  simp
theorem pk_get {s : List UInt8} (h : s ≠ []) : s[0]? = some (pk s) := by
  cases s with
  | nil => exact absurd rfl h
  | cons a l => rfl

set_option maxHeartbeats 16000000 in
set_option maxRecDepth 100000 in
theorem spot_cell (s : List UInt8) (c r : Nat) (a b : Bool) (w : World) (h : CellOk s c r) :
    Calls Tryz.prog 53 #[({ Ev.zero with op := sCell, sheet := bs s, c := c, r := r, f0 := a, f1 := b } : Ev).val] w fun e w' => e = .returned (.string (bs (sheetT s ++ cornerT c r a b))) ∧ Below w.heap.size w w' := by
  obtain ⟨v, hv⟩ : ∃ v : Ev, { Ev.zero with op := sCell, sheet := bs s, c := c, r := r, f0 := a, f1 := b } = v := ⟨_, rfl⟩
  rw [hv]
  have V0 : Hid (v.op = sCell) := Lib.hid (by rw [← hv])
  have V3 : Hid (v.sheet = bs s) := Lib.hid (by rw [← hv])
  have V4 : Hid (v.c = c) := Lib.hid (by rw [← hv])
  have V5 : Hid (v.r = r) := Lib.hid (by rw [← hv])
  have V8 : Hid (v.f0 = a) := Lib.hid (by rw [← hv])
  have V9 : Hid (v.f1 = b) := Lib.hid (by rw [← hv])
  clear hv
  obtain ⟨j, hj⟩ : ∃ j, w.heap.size = j := ⟨_, rfl⟩
  obtain ⟨W, hW⟩ : ∃ W, w.alloc (.cells (exCells v) 25) = W := ⟨_, rfl⟩
  have HF : Hid (Below w.heap.size w W) := by subst hW; exact Lib.hid ((Below.refl _ _).alloc (Nat.le_refl _) _)
  have HB : Hid (Box W j (exCells v) 25) := by subst hW; subst hj; exact Box.made _ _ _
  have HC1 := Lib.hid (fun w => corner_any c r a b w h.c1 h.c2 h.r2)
  have hL1 := cornerT_len c r a b h.c1 h.c2 h.r2
  have HJ := Lib.hid hj
  have HW := Lib.hid hW
  have HH := Lib.hid h
  clear h hj hW
  obtain ⟨CT, hCT⟩ : ∃ CT, cornerT c r a b = CT := ⟨_, rfl⟩
  rw [hCT] at HC1 hL1 ⊢
  clear hCT
  unfold Ev.val
  unfold exCells at HW
  go_enter Tryz.func53, Tryz.ntmps53
  go_upto_region 1 with fail
  rw [HJ.out, HW.out]
  have X := HB.out.ex
  have x4 := X.c4
  have x5 := X.c5
  have x8 := X.c8
  have x9 := X.c9
  rw [V4.out] at x4
  rw [V5.out] at x5
  rw [V8.out] at x8
  rw [V9.out] at x9
  clear X
  clear HJ HW
  go_wp2_with fail
  clear x4 x5 x8 x9
  refine (HC1.out W).mono ?_
  rintro e w1 ⟨rfl, hb⟩
  have HF1 := Lib.hid (HF.out.trans (hb.mono HF.out.size))
  have HB1 := Lib.hid (HB.out.below hb)
  clear hb HB HF HC1 V4 V5 V8 V9
  have hlenC : CT.length ≤ 25 := Nat.le_trans hL1 (by omega)
  have X := HB1.out.ex
  have x0 := X.c0
  rw [V0.out] at x0
  unfold sCell at x0
  clear X
  go_upto_region 4 with fail
  clear x0 V0
  have HF2 := HF1
  have HB2 := HB1
  clear HF1 HB1
  generalize w1 = w2 at *
  have x3 := HB2.out.ex.c3
  rw [V3.out] at x3
  clear V3
  have hCs : (bs CT).size ≤ 25 := by rw [bs_size]; exact hlenC
  have hSs : (bs s).size ≤ 500 := by rw [bs_size]; exact HH.out.len
  by_cases hs : s = []
  · subst hs
    have hem : ((bs ([] : List UInt8)).toList == []) = true := bs_is rfl
    go_wp2
    go_ret
    exact ⟨rfl, HF2.out⟩
  · have hem : ((bs s).toList == []) = false := bs_not hs
    have h0 := pk_get hs
    have h0s : 0 < (bs s).size := by
      rw [bs_size]
      exact List.length_pos_iff.2 hs
    have hg0 : (bs s)[0] = pk s := bs_get h0 h0s
    have AL := fun w => alpha_any (pk s) w
    obtain ⟨p0, hp0⟩ : ∃ p0, isAlpha (pk s) = p0 := ⟨_, rfl⟩
    rw [hp0] at AL
    have HP0 := Lib.hid hp0
    clear hp0
    have HS0 := Lib.hid hs
    have hsz : (bs s).size = s.length := bs_size s
    clear hs h0
    have H500 := Lib.hid HH.out.len
    go_upto_region 8 with (go_at_call 60; refine (AL _).mono ?_; rintro e w' ⟨rfl, rfl⟩)
    clear AL hem hg0 h0s
    go_loopw [5, 4] (fun i u wr => ∃ (k : Nat) (q : Bool), i = .int .i64 k ∧ u = .bool q ∧ k ≤ s.length ∧ Hid (q = (p0 && (s.take k).all (fun c => isAlpha c || isNum c))) ∧ wr = w2) (fun i _ _ => s.length - (intOf i).toNat)
    case atStart => exact ⟨0, p0, rfl, rfl, Nat.zero_le _, Lib.hid (by simp), rfl⟩
    case round =>
      obtain ⟨k, q, rfl, rfl, hk, HQ, rfl⟩ := hrel
      have hslen : s.length ≤ 500 := H500.out
      by_cases hlt : k < s.length
      · obtain ⟨x, hx⟩ : ∃ x, s[k]? = some x := ⟨_, List.getElem?_eq_getElem hlt⟩
        have hks : k < (bs s).size := by omega
        have hka : (bs s)[k] = x := bs_get hx hks
        have HN : Hid ((p0 && (s.take (k + 1)).all (fun c => isAlpha c || isNum c)) = (q && (isAlpha x || isNum x))) := Lib.hid (by rw [plain_snoc s k x hx, HQ.out, Bool.and_assoc])
        have hltT : decide (k < (bs s).size) = true := by simpa using hks
        clear hx
        cases q with
        | false =>
          go_wp2
          go_roundw
          case rel => exact ⟨k + 1, false, by go_num, rfl, by omega, Lib.hid (by rw [HN.out]; rfl), trivial⟩
          case measure => simp [intOf]; omega
        | true =>
          have AL := fun w => alpha_any x w
          have NU := fun w => num_any x w
          obtain ⟨qa, hqa⟩ : ∃ qa, isAlpha x = qa := ⟨_, rfl⟩
          obtain ⟨qn, hqn⟩ : ∃ qn, isNum x = qn := ⟨_, rfl⟩
          have HA := Lib.hid hqa
          have HM := Lib.hid hqn
          rw [hqa] at AL
          rw [hqn] at NU
          clear hqa hqn
          cases qa <;> cases qn
          all_goals
            go_wp2_with (first
              | (go_at_call 60; refine (AL _).mono ?_; rintro e w' ⟨rfl, rfl⟩)
              | (go_at_call 43; refine (NU _).mono ?_; rintro e w' ⟨rfl, rfl⟩))
            clear AL NU
            go_roundw
            case rel => exact ⟨k + 1, _, by go_num, rfl, by omega, Lib.hid (by rw [HN.out, HA.out, HM.out]; rfl), trivial⟩
            case measure => simp [intOf]; omega
      · obtain rfl : k = s.length := by omega
        have HE : Hid (plainS s = q) := Lib.hid (by unfold plainS; rw [HQ.out, HP0.out, List.take_length])
        have hltF : decide (s.length < (bs s).size) = false := by simp; omega
        cases q with
        | true =>
          have HT : Hid (bs s ++ ⟨#[33]⟩ ++ bs CT = bs (sheetT s ++ CT)) := Lib.hid (by
            have e0 : (⟨#[33]⟩ : ByteArray) = bs [33] := rfl
            rw [e0, bs_app, bs_app]
            unfold sheetT
            rw [if_neg HS0.out, if_pos HE.out])
          have s33 : (⟨#[33]⟩ : ByteArray).size = 1 := rfl
          have ra : ∀ w, (Op.stringOp .add (bs s) ⟨#[33]⟩).run Tryz.prog w = .ok (.string (bs s ++ ⟨#[33]⟩)) w := fun w => run_string_add_sum _ _ _ (by omega)
          have rb : ∀ w, (Op.stringOp .add (bs s ++ ⟨#[33]⟩) (bs CT)).run Tryz.prog w = .ok (.string (bs s ++ ⟨#[33]⟩ ++ bs CT)) w := fun w => run_string_add_sum _ _ _ (by rw [ByteArray.size_append]; omega)
          clear s33 hsz hCs hSs
          go_wp2
          go_ret
          exact ⟨by rw [← HT.out]; rfl, HF2.out⟩
        | false =>
          have DB := Lib.hid (fun w => doubled_any s w hslen)
          have hDl := dbl_len 39 s
          have hDs : (bs (39 :: (dbl 39 s ++ [39]))).size ≤ 1002 := by rw [bs_size]; simp; omega
          have HT : Hid (bs (39 :: (dbl 39 s ++ [39])) ++ ⟨#[33]⟩ ++ bs CT = bs (sheetT s ++ CT)) := Lib.hid (by
            have e0 : (⟨#[33]⟩ : ByteArray) = bs [33] := rfl
            rw [e0, bs_app, bs_app]
            unfold sheetT
            rw [if_neg HS0.out, if_neg (by rw [HE.out]; simp)]
            simp)
          have s33 : (⟨#[33]⟩ : ByteArray).size = 1 := rfl
          generalize bs (39 :: (dbl 39 s ++ [39])) = D at *
          have ra : ∀ w, (Op.stringOp .add D ⟨#[33]⟩).run Tryz.prog w = .ok (.string (D ++ ⟨#[33]⟩)) w := fun w => run_string_add_sum _ _ _ (by omega)
          have rb : ∀ w, (Op.stringOp .add (D ++ ⟨#[33]⟩) (bs CT)).run Tryz.prog w = .ok (.string (D ++ ⟨#[33]⟩ ++ bs CT)) w := fun w => run_string_add_sum _ _ _ (by rw [ByteArray.size_append]; omega)
          clear s33 hsz hCs hSs hDl hDs
          go_wp2_with fail
          refine (DB.out _).mono ?_
          rintro e w5 ⟨rfl, hb⟩
          have HF5 := Lib.hid (HF2.out.trans (hb.mono HF2.out.size))
          clear hb
          go_wp2
          go_ret
          exact ⟨by rw [← HT.out]; rfl, HF5.out⟩

set_option maxHeartbeats 16000000 in
set_option maxRecDepth 100000 in
theorem spot_area (s : List UInt8) (c r c2 r2 : Nat) (a b a2 b2 : Bool) (w : World) (h : CellOk s c r) (h2 : CellOk s c2 r2) :
    Calls Tryz.prog 53 #[({ Ev.zero with op := sArea, sheet := bs s, c := c, r := r, c2 := c2, r2 := r2, f0 := a, f1 := b, f2 := a2, f3 := b2 } : Ev).val] w fun e w' => e = .returned (.string (bs (sheetT s ++ (cornerT c r a b ++ 58 :: cornerT c2 r2 a2 b2)))) ∧ Below w.heap.size w w' := by
  obtain ⟨v, hv⟩ : ∃ v : Ev, { Ev.zero with op := sArea, sheet := bs s, c := c, r := r, c2 := c2, r2 := r2, f0 := a, f1 := b, f2 := a2, f3 := b2 } = v := ⟨_, rfl⟩
  rw [hv]
  have V0 : Hid (v.op = sArea) := Lib.hid (by rw [← hv])
  have V3 : Hid (v.sheet = bs s) := Lib.hid (by rw [← hv])
  have V4 : Hid (v.c = c) := Lib.hid (by rw [← hv])
  have V5 : Hid (v.r = r) := Lib.hid (by rw [← hv])
  have V8 : Hid (v.f0 = a) := Lib.hid (by rw [← hv])
  have V9 : Hid (v.f1 = b) := Lib.hid (by rw [← hv])
  have V6 : Hid (v.c2 = c2) := Lib.hid (by rw [← hv])
  have V7 : Hid (v.r2 = r2) := Lib.hid (by rw [← hv])
  have V10 : Hid (v.f2 = a2) := Lib.hid (by rw [← hv])
  have V11 : Hid (v.f3 = b2) := Lib.hid (by rw [← hv])
  clear hv
  obtain ⟨j, hj⟩ : ∃ j, w.heap.size = j := ⟨_, rfl⟩
  obtain ⟨W, hW⟩ : ∃ W, w.alloc (.cells (exCells v) 25) = W := ⟨_, rfl⟩
  have HF : Hid (Below w.heap.size w W) := by subst hW; exact Lib.hid ((Below.refl _ _).alloc (Nat.le_refl _) _)
  have HB : Hid (Box W j (exCells v) 25) := by subst hW; subst hj; exact Box.made _ _ _
  have HC1 := Lib.hid (fun w => corner_any c r a b w h.c1 h.c2 h.r2)
  have hL1 := cornerT_len c r a b h.c1 h.c2 h.r2
  have HJ := Lib.hid hj
  have HW := Lib.hid hW
  have HH := Lib.hid h
  clear h hj hW
  have HC2 := Lib.hid (fun w => corner_any c2 r2 a2 b2 w h2.c1 h2.c2 h2.r2)
  have hL2 := cornerT_len c2 r2 a2 b2 h2.c1 h2.c2 h2.r2
  clear h2
  obtain ⟨CT, hCT⟩ : ∃ CT, cornerT c r a b ++ 58 :: cornerT c2 r2 a2 b2 = CT := ⟨_, rfl⟩
  rw [hCT]
  have HCT := Lib.hid hCT
  clear hCT
  unfold Ev.val
  unfold exCells at HW
  go_enter Tryz.func53, Tryz.ntmps53
  go_upto_region 1 with fail
  rw [HJ.out, HW.out]
  have X := HB.out.ex
  have x4 := X.c4
  have x5 := X.c5
  have x8 := X.c8
  have x9 := X.c9
  rw [V4.out] at x4
  rw [V5.out] at x5
  rw [V8.out] at x8
  rw [V9.out] at x9
  clear X
  clear HJ HW
  go_wp2_with fail
  clear x4 x5 x8 x9
  refine (HC1.out W).mono ?_
  rintro e w1 ⟨rfl, hb⟩
  have HF1 := Lib.hid (HF.out.trans (hb.mono HF.out.size))
  have HB1 := Lib.hid (HB.out.below hb)
  clear hb HB HF HC1 V4 V5 V8 V9
  have hbC : (bs (cornerT c r a b)).size ≤ 12 := by rw [bs_size]; exact hL1
  have hbD : (bs (cornerT c2 r2 a2 b2)).size ≤ 12 := by rw [bs_size]; exact hL2
  have hcat : bs (cornerT c r a b) ++ ⟨#[58]⟩ ++ bs (cornerT c2 r2 a2 b2) = bs (cornerT c r a b ++ 58 :: cornerT c2 r2 a2 b2) := by
    have e0 : (⟨#[58]⟩ : ByteArray) = bs [58] := rfl
    rw [e0, bs_app, bs_app]
    simp
  rw [HCT.out] at hcat
  have HCAT := Lib.hid hcat
  have hlenC : CT.length ≤ 25 := by rw [← HCT.out]; simp; omega
  have s58 : (⟨#[58]⟩ : ByteArray).size = 1 := rfl
  clear hcat
  generalize bs (cornerT c r a b) = C1 at *
  generalize bs (cornerT c2 r2 a2 b2) = D1 at *
  clear HCT
  have ra : ∀ w, (Op.stringOp .add C1 ⟨#[58]⟩).run Tryz.prog w = .ok (.string (C1 ++ ⟨#[58]⟩)) w := fun w => run_string_add_sum _ _ _ (by omega)
  have rb : ∀ w, (Op.stringOp .add (C1 ++ ⟨#[58]⟩) D1).run Tryz.prog w = .ok (.string (C1 ++ ⟨#[58]⟩ ++ D1)) w := fun w => run_string_add_sum _ _ _ (by rw [ByteArray.size_append]; omega)
  clear s58 hbC hbD hL1 hL2
  have X := HB1.out.ex
  have x0 := X.c0
  have x6 := X.c6
  have x7 := X.c7
  have x10 := X.c10
  have x11 := X.c11
  rw [V0.out] at x0
  unfold sArea at x0
  rw [V6.out] at x6
  rw [V7.out] at x7
  rw [V10.out] at x10
  rw [V11.out] at x11
  clear X
  go_wp2_with fail
  clear x0 x6 x7 x10 x11
  refine (HC2.out w1).mono ?_
  rintro e w2 ⟨rfl, hb⟩
  have HF2 := Lib.hid (HF1.out.trans (hb.mono HF1.out.size))
  have HB2 := Lib.hid (HB1.out.below hb)
  clear hb HB1 HF1 HC2 V6 V7 V10 V11 V0
  go_upto_region 4 with fail
  rw [HCAT.out]
  clear ra rb HCAT
  have x3 := HB2.out.ex.c3
  rw [V3.out] at x3
  clear V3
  have hCs : (bs CT).size ≤ 25 := by rw [bs_size]; exact hlenC
  have hSs : (bs s).size ≤ 500 := by rw [bs_size]; exact HH.out.len
  by_cases hs : s = []
  · subst hs
    have hem : ((bs ([] : List UInt8)).toList == []) = true := bs_is rfl
    go_wp2
    go_ret
    exact ⟨rfl, HF2.out⟩
  · have hem : ((bs s).toList == []) = false := bs_not hs
    have h0 := pk_get hs
    have h0s : 0 < (bs s).size := by
      rw [bs_size]
      exact List.length_pos_iff.2 hs
    have hg0 : (bs s)[0] = pk s := bs_get h0 h0s
    have AL := fun w => alpha_any (pk s) w
    obtain ⟨p0, hp0⟩ : ∃ p0, isAlpha (pk s) = p0 := ⟨_, rfl⟩
    rw [hp0] at AL
    have HP0 := Lib.hid hp0
    clear hp0
    have HS0 := Lib.hid hs
    have hsz : (bs s).size = s.length := bs_size s
    clear hs h0
    have H500 := Lib.hid HH.out.len
    go_upto_region 8 with (go_at_call 60; refine (AL _).mono ?_; rintro e w' ⟨rfl, rfl⟩)
    clear AL hem hg0 h0s
    go_loopw [5, 4] (fun i u wr => ∃ (k : Nat) (q : Bool), i = .int .i64 k ∧ u = .bool q ∧ k ≤ s.length ∧ Hid (q = (p0 && (s.take k).all (fun c => isAlpha c || isNum c))) ∧ wr = w2) (fun i _ _ => s.length - (intOf i).toNat)
    case atStart => exact ⟨0, p0, rfl, rfl, Nat.zero_le _, Lib.hid (by simp), rfl⟩
    case round =>
      obtain ⟨k, q, rfl, rfl, hk, HQ, rfl⟩ := hrel
      have hslen : s.length ≤ 500 := H500.out
      by_cases hlt : k < s.length
      · obtain ⟨x, hx⟩ : ∃ x, s[k]? = some x := ⟨_, List.getElem?_eq_getElem hlt⟩
        have hks : k < (bs s).size := by omega
        have hka : (bs s)[k] = x := bs_get hx hks
        have HN : Hid ((p0 && (s.take (k + 1)).all (fun c => isAlpha c || isNum c)) = (q && (isAlpha x || isNum x))) := Lib.hid (by rw [plain_snoc s k x hx, HQ.out, Bool.and_assoc])
        have hltT : decide (k < (bs s).size) = true := by simpa using hks
        clear hx
        cases q with
        | false =>
          go_wp2
          go_roundw
          case rel => exact ⟨k + 1, false, by go_num, rfl, by omega, Lib.hid (by rw [HN.out]; rfl), trivial⟩
          case measure => simp [intOf]; omega
        | true =>
          have AL := fun w => alpha_any x w
          have NU := fun w => num_any x w
          obtain ⟨qa, hqa⟩ : ∃ qa, isAlpha x = qa := ⟨_, rfl⟩
          obtain ⟨qn, hqn⟩ : ∃ qn, isNum x = qn := ⟨_, rfl⟩
          have HA := Lib.hid hqa
          have HM := Lib.hid hqn
          rw [hqa] at AL
          rw [hqn] at NU
          clear hqa hqn
          cases qa <;> cases qn
          all_goals
            go_wp2_with (first
              | (go_at_call 60; refine (AL _).mono ?_; rintro e w' ⟨rfl, rfl⟩)
              | (go_at_call 43; refine (NU _).mono ?_; rintro e w' ⟨rfl, rfl⟩))
            clear AL NU
            go_roundw
            case rel => exact ⟨k + 1, _, by go_num, rfl, by omega, Lib.hid (by rw [HN.out, HA.out, HM.out]; rfl), trivial⟩
            case measure => simp [intOf]; omega
      · obtain rfl : k = s.length := by omega
        have HE : Hid (plainS s = q) := Lib.hid (by unfold plainS; rw [HQ.out, HP0.out, List.take_length])
        have hltF : decide (s.length < (bs s).size) = false := by simp; omega
        cases q with
        | true =>
          have HT : Hid (bs s ++ ⟨#[33]⟩ ++ bs CT = bs (sheetT s ++ CT)) := Lib.hid (by
            have e0 : (⟨#[33]⟩ : ByteArray) = bs [33] := rfl
            rw [e0, bs_app, bs_app]
            unfold sheetT
            rw [if_neg HS0.out, if_pos HE.out])
          have s33 : (⟨#[33]⟩ : ByteArray).size = 1 := rfl
          have ra : ∀ w, (Op.stringOp .add (bs s) ⟨#[33]⟩).run Tryz.prog w = .ok (.string (bs s ++ ⟨#[33]⟩)) w := fun w => run_string_add_sum _ _ _ (by omega)
          have rb : ∀ w, (Op.stringOp .add (bs s ++ ⟨#[33]⟩) (bs CT)).run Tryz.prog w = .ok (.string (bs s ++ ⟨#[33]⟩ ++ bs CT)) w := fun w => run_string_add_sum _ _ _ (by rw [ByteArray.size_append]; omega)
          clear s33 hsz hCs hSs
          go_wp2
          go_ret
          exact ⟨by rw [← HT.out]; rfl, HF2.out⟩
        | false =>
          have DB := Lib.hid (fun w => doubled_any s w hslen)
          have hDl := dbl_len 39 s
          have hDs : (bs (39 :: (dbl 39 s ++ [39]))).size ≤ 1002 := by rw [bs_size]; simp; omega
          have HT : Hid (bs (39 :: (dbl 39 s ++ [39])) ++ ⟨#[33]⟩ ++ bs CT = bs (sheetT s ++ CT)) := Lib.hid (by
            have e0 : (⟨#[33]⟩ : ByteArray) = bs [33] := rfl
            rw [e0, bs_app, bs_app]
            unfold sheetT
            rw [if_neg HS0.out, if_neg (by rw [HE.out]; simp)]
            simp)
          have s33 : (⟨#[33]⟩ : ByteArray).size = 1 := rfl
          generalize bs (39 :: (dbl 39 s ++ [39])) = D at *
          have ra : ∀ w, (Op.stringOp .add D ⟨#[33]⟩).run Tryz.prog w = .ok (.string (D ++ ⟨#[33]⟩)) w := fun w => run_string_add_sum _ _ _ (by omega)
          have rb : ∀ w, (Op.stringOp .add (D ++ ⟨#[33]⟩) (bs CT)).run Tryz.prog w = .ok (.string (D ++ ⟨#[33]⟩ ++ bs CT)) w := fun w => run_string_add_sum _ _ _ (by rw [ByteArray.size_append]; omega)
          clear s33 hsz hCs hSs hDl hDs
          go_wp2_with fail
          refine (DB.out _).mono ?_
          rintro e w5 ⟨rfl, hb⟩
          have HF5 := Lib.hid (HF2.out.trans (hb.mono HF2.out.size))
          clear hb
          go_wp2
          go_ret
          exact ⟨by rw [← HT.out]; rfl, HF5.out⟩

end Go.Proofs.YtfeffdjnjckjaaaGreatDoor.Rg
