/- Trees without parts: their texts and their tokens. -/
import Derived.Test.YtfeffdjnjckjaaaGreatDoorQSpot
/- Print of a truth, a cell, an area, a name. -/
namespace Go.Proofs.YtfeffdjnjckjaaaGreatDoor.Rg
open Go.RowKit

set_option maxHeartbeats 16000000 in
set_option maxRecDepth 100000 in
theorem printed_truth (b : Bool) (w : World) :
    Calls Tryz.prog 37 #[({ Ev.zero with op := sTruth, is := b } : Ev).val, .int .i64 0] w fun e w' => e = .returned (.string (bs (prt 1 (.truth b)))) ∧ Below w.heap.size w w' := by
  obtain ⟨v, hv⟩ : ∃ v : Ev, { Ev.zero with op := sTruth, is := b } = v := ⟨_, rfl⟩
  have V0 : Hid (v.op = sTruth) := Lib.hid (by rw [← hv])
  rw [hv]
  have V2 : Hid (v.is = b) := Lib.hid (by rw [← hv])
  clear hv
  have HP : Hid (prt 1 (.truth b) = if b then sTRUE else sFALSE) := Lib.hid (by rw [prt])
  rw [HP.out]
  clear HP
  obtain ⟨j, hj⟩ : ∃ j, w.heap.size = j := ⟨_, rfl⟩
  obtain ⟨W, hW⟩ : ∃ W, w.alloc (.cells (exCells v) 25) = W := ⟨_, rfl⟩
  have HF : Hid (Below w.heap.size w W) := by subst hW; exact Lib.hid ((Below.refl _ _).alloc (Nat.le_refl _) _)
  have HB : Hid (Box W j (exCells v) 25) := by subst hW; subst hj; exact Box.made _ _ _
  have HJ := Lib.hid hj
  have HW := Lib.hid hW
  clear hj hW
  have HLV : Hid (∀ w, Calls Tryz.prog 24 #[.string sTruth] w fun e w' => e = .returned (.int .i64 0) ∧ w = w') := Lib.hid (fun w => levels_any sTruth w)
  unfold sTruth at HLV
  unfold Ev.val
  unfold exCells at HW
  cases b
  all_goals
    go_enter Tryz.func37, Tryz.ntmps37
    go_upto_region 1 with fail
    rw [HJ.out, HW.out]
    clear HJ HW
    obtain ⟨x0, x1, x2, x3, x4, x5, x6, x7, x8, x9, x10, x11, x12, x13⟩ := HB.out.ex
    rw [V0.out] at x0
    unfold sTruth at x0
    rw [V2.out] at x2
    go_wp2_with (go_at_call 24; refine (HLV.out _).mono ?_; rintro e w' ⟨rfl, rfl⟩)
    go_ret
    exact ⟨rfl, HF.out⟩

set_option maxHeartbeats 16000000 in
set_option maxRecDepth 100000 in
theorem printed_name (t : List UInt8) (w : World) :
    Calls Tryz.prog 37 #[({ Ev.zero with op := sName, text := bs t } : Ev).val, .int .i64 0] w fun e w' => e = .returned (.string (bs (prt 1 (.name t)))) ∧ Below w.heap.size w w' := by
  obtain ⟨v, hv⟩ : ∃ v : Ev, { Ev.zero with op := sName, text := bs t } = v := ⟨_, rfl⟩
  have V0 : Hid (v.op = sName) := Lib.hid (by rw [← hv])
  rw [hv]
  have V1 : Hid (v.text = bs t) := Lib.hid (by rw [← hv])
  clear hv
  have HP : Hid (prt 1 (.name t) = t) := Lib.hid (by rw [prt])
  rw [HP.out]
  clear HP
  obtain ⟨j, hj⟩ : ∃ j, w.heap.size = j := ⟨_, rfl⟩
  obtain ⟨W, hW⟩ : ∃ W, w.alloc (.cells (exCells v) 25) = W := ⟨_, rfl⟩
  have HF : Hid (Below w.heap.size w W) := by subst hW; exact Lib.hid ((Below.refl _ _).alloc (Nat.le_refl _) _)
  have HB : Hid (Box W j (exCells v) 25) := by subst hW; subst hj; exact Box.made _ _ _
  have HJ := Lib.hid hj
  have HW := Lib.hid hW
  clear hj hW
  have HLV : Hid (∀ w, Calls Tryz.prog 24 #[.string sName] w fun e w' => e = .returned (.int .i64 0) ∧ w = w') := Lib.hid (fun w => levels_any sName w)
  unfold sName at HLV
  unfold Ev.val
  unfold exCells at HW
  go_enter Tryz.func37, Tryz.ntmps37
  go_upto_region 1 with fail
  rw [HJ.out, HW.out]
  clear HJ HW
  obtain ⟨x0, x1, x2, x3, x4, x5, x6, x7, x8, x9, x10, x11, x12, x13⟩ := HB.out.ex
  rw [V0.out] at x0
  unfold sName at x0
  rw [V1.out] at x1
  go_wp2_with (go_at_call 24; refine (HLV.out _).mono ?_; rintro e w' ⟨rfl, rfl⟩)
  go_ret
  exact ⟨rfl, HF.out⟩

set_option maxHeartbeats 16000000 in
set_option maxRecDepth 100000 in
theorem printed_cell (s : List UInt8) (c r : Nat) (a b : Bool) (w : World) (h : CellOk s c r) :
    Calls Tryz.prog 37 #[({ Ev.zero with op := sCell, sheet := bs s, c := c, r := r, f0 := a, f1 := b } : Ev).val, .int .i64 0] w fun e w' => e = .returned (.string (bs (prt 1 (.cell s c r a b)))) ∧ Below w.heap.size w w' := by
  have HSP := Lib.hid (fun w => spot_cell s c r a b w h)
  clear h
  obtain ⟨v, hv⟩ : ∃ v : Ev, { Ev.zero with op := sCell, sheet := bs s, c := c, r := r, f0 := a, f1 := b } = v := ⟨_, rfl⟩
  have V0 : Hid (v.op = sCell) := Lib.hid (by rw [← hv])
  rw [hv] at HSP ⊢
  unfold Ev.val at HSP
  simp only [V0.out] at HSP
  unfold sCell at HSP
  clear hv
  have HP : Hid (prt 1 (.cell s c r a b) = sheetT s ++ cornerT c r a b) := Lib.hid (by rw [prt])
  rw [HP.out]
  clear HP
  obtain ⟨j, hj⟩ : ∃ j, w.heap.size = j := ⟨_, rfl⟩
  obtain ⟨W, hW⟩ : ∃ W, w.alloc (.cells (exCells v) 25) = W := ⟨_, rfl⟩
  have HF : Hid (Below w.heap.size w W) := by subst hW; exact Lib.hid ((Below.refl _ _).alloc (Nat.le_refl _) _)
  have HB : Hid (Box W j (exCells v) 25) := by subst hW; subst hj; exact Box.made _ _ _
  have HJ := Lib.hid hj
  have HW := Lib.hid hW
  clear hj hW
  have HLV : Hid (∀ w, Calls Tryz.prog 24 #[.string sCell] w fun e w' => e = .returned (.int .i64 0) ∧ w = w') := Lib.hid (fun w => levels_any sCell w)
  unfold sCell at HLV
  unfold Ev.val
  unfold exCells at HW
  go_enter Tryz.func37, Tryz.ntmps37
  go_upto_region 1 with fail
  rw [HJ.out, HW.out]
  clear HJ HW
  obtain ⟨x0, x1, x2, x3, x4, x5, x6, x7, x8, x9, x10, x11, x12, x13⟩ := HB.out.ex
  rw [V0.out] at x0
  unfold sCell at x0
  go_wp2_with (go_at_call 24; refine (HLV.out _).mono ?_; rintro e w' ⟨rfl, rfl⟩)
  clear x0 x1 x2 x3 x4 x5 x6 x7 x8 x9 x10 x11 x12 x13
  refine (HSP.out _).mono ?_
  rintro e w2 ⟨rfl, hb⟩
  have HF2 := Lib.hid (HF.out.trans (hb.mono HF.out.size))
  clear hb
  go_wp2
  go_ret
  exact ⟨rfl, HF2.out⟩

set_option maxHeartbeats 16000000 in
set_option maxRecDepth 100000 in
theorem printed_area (s : List UInt8) (c r c2 r2 : Nat) (a b a2 b2 : Bool) (w : World) (h : CellOk s c r) (h2 : CellOk s c2 r2) :
    Calls Tryz.prog 37 #[({ Ev.zero with op := sArea, sheet := bs s, c := c, r := r, c2 := c2, r2 := r2, f0 := a, f1 := b, f2 := a2, f3 := b2 } : Ev).val, .int .i64 0] w fun e w' => e = .returned (.string (bs (prt 1 (.area s c r c2 r2 a b a2 b2)))) ∧ Below w.heap.size w w' := by
  have HSP := Lib.hid (fun w => spot_area s c r c2 r2 a b a2 b2 w h h2)
  clear h h2
  obtain ⟨v, hv⟩ : ∃ v : Ev, { Ev.zero with op := sArea, sheet := bs s, c := c, r := r, c2 := c2, r2 := r2, f0 := a, f1 := b, f2 := a2, f3 := b2 } = v := ⟨_, rfl⟩
  have V0 : Hid (v.op = sArea) := Lib.hid (by rw [← hv])
  rw [hv] at HSP ⊢
  unfold Ev.val at HSP
  simp only [V0.out] at HSP
  unfold sArea at HSP
  clear hv
  have HP : Hid (prt 1 (.area s c r c2 r2 a b a2 b2) = sheetT s ++ (cornerT c r a b ++ 58 :: cornerT c2 r2 a2 b2)) := Lib.hid (by rw [prt])
  rw [HP.out]
  clear HP
  obtain ⟨j, hj⟩ : ∃ j, w.heap.size = j := ⟨_, rfl⟩
  obtain ⟨W, hW⟩ : ∃ W, w.alloc (.cells (exCells v) 25) = W := ⟨_, rfl⟩
  have HF : Hid (Below w.heap.size w W) := by subst hW; exact Lib.hid ((Below.refl _ _).alloc (Nat.le_refl _) _)
  have HB : Hid (Box W j (exCells v) 25) := by subst hW; subst hj; exact Box.made _ _ _
  have HJ := Lib.hid hj
  have HW := Lib.hid hW
  clear hj hW
  have HLV : Hid (∀ w, Calls Tryz.prog 24 #[.string sArea] w fun e w' => e = .returned (.int .i64 0) ∧ w = w') := Lib.hid (fun w => levels_any sArea w)
  unfold sArea at HLV
  unfold Ev.val
  unfold exCells at HW
  go_enter Tryz.func37, Tryz.ntmps37
  go_upto_region 1 with fail
  rw [HJ.out, HW.out]
  clear HJ HW
  obtain ⟨x0, x1, x2, x3, x4, x5, x6, x7, x8, x9, x10, x11, x12, x13⟩ := HB.out.ex
  rw [V0.out] at x0
  unfold sArea at x0
  go_wp2_with (go_at_call 24; refine (HLV.out _).mono ?_; rintro e w' ⟨rfl, rfl⟩)
  clear x0 x1 x2 x3 x4 x5 x6 x7 x8 x9 x10 x11 x12 x13
  refine (HSP.out _).mono ?_
  rintro e w2 ⟨rfl, hb⟩
  have HF2 := Lib.hid (HF.out.trans (hb.mono HF.out.size))
  clear hb
  go_wp2
  go_ret
  exact ⟨rfl, HF2.out⟩

set_option maxHeartbeats 16000000 in
set_option maxRecDepth 100000 in
/-- Print asks printed. -/
theorem print_of (v : Ev) (T : List UInt8) (h : ∀ w, Calls Tryz.prog 37 #[v.val, .int .i64 0] w fun e w' => e = .returned (.string (bs T)) ∧ Below w.heap.size w w') (w : World) :
    Calls Tryz.prog 29 #[v.val] w fun e w' => e = .returned (.string (bs T)) ∧ Below w.heap.size w w' := by
  obtain ⟨j, hj⟩ : ∃ j, w.heap.size = j := ⟨_, rfl⟩
  obtain ⟨W, hW⟩ : ∃ W, w.alloc (.cells (exCells v) 25) = W := ⟨_, rfl⟩
  have HF : Hid (Below w.heap.size w W) := by subst hW; exact Lib.hid ((Below.refl _ _).alloc (Nat.le_refl _) _)
  have HB : Hid (Box W j (exCells v) 25) := by subst hW; subst hj; exact Box.made _ _ _
  have HJ := Lib.hid hj
  have HW := Lib.hid hW
  have HC := Lib.hid (h W)
  clear hj hW h
  unfold Ev.val at HC ⊢
  unfold exCells at HW
  go_enter Tryz.func29, Tryz.ntmps29
  go_upto_region 1 with fail
  rw [HJ.out, HW.out]
  clear HJ HW
  obtain ⟨x0, x1, x2, x3, x4, x5, x6, x7, x8, x9, x10, x11, x12, x13⟩ := HB.out.ex
  go_wp2_with fail
  clear x0 x1 x2 x3 x4 x5 x6 x7 x8 x9 x10 x11 x12 x13
  refine HC.out.mono ?_
  rintro e w2 ⟨rfl, hb⟩
  have HF2 := Lib.hid (HF.out.trans (hb.mono HF.out.size))
  clear hb
  go_wp2
  go_ret
  exact ⟨rfl, HF2.out⟩

end Go.Proofs.YtfeffdjnjckjaaaGreatDoor.Rg

/- The tokens of a tree without parts. -/
namespace Go.Proofs.YtfeffdjnjckjaaaGreatDoor.Rg
open Go.RowKit

set_option maxHeartbeats 16000000 in
set_option maxRecDepth 100000 in
theorem tokOf_num (t : List UInt8) : TokOf (.num t) := by
  intro v S w hx hok _
  have hv : v = { Ev.zero with op := sNum, text := bs t } := hx
  have HTK : Hid (tok 1 (.num t) = [kOpd (prt 1 (.num t)) tNumber]) := Lib.hid (by rw [tok, prt])
  have HPT : Hid (prt 1 (.num t) = t) := Lib.hid (by rw [prt])
  rw [HPT.out] at HTK
  clear HPT
  rw [HTK.out]
  clear HTK hx hok
  have HOP : Hid (∀ w, Calls Tryz.prog 28 #[.string (bs t), .string ⟨#[78, 117, 109, 98, 101, 114]⟩] w (TokPost w 45 [kOpd t tNumber])) := Lib.hid (fun w => operand_any t tNumber w)
  have V0 : Hid (v.op = sNum) := Lib.hid (by rw [hv])
  have V1 : Hid (v.text = bs t) := Lib.hid (by rw [hv])
  clear hv
  obtain ⟨j, hj⟩ : ∃ j, w.heap.size = j := ⟨_, rfl⟩
  obtain ⟨W, hW⟩ : ∃ W, w.alloc (.cells (exCells v) 25) = W := ⟨_, rfl⟩
  have HF : Hid (Below w.heap.size w W) := by subst hW; exact Lib.hid ((Below.refl _ _).alloc (Nat.le_refl _) _)
  have HB : Hid (Box W j (exCells v) 25) := by subst hW; subst hj; exact Box.made _ _ _
  have HJ := Lib.hid hj
  have HW := Lib.hid hW
  clear hj hW
  have HLV : Hid (∀ w, Calls Tryz.prog 24 #[.string sNum] w fun e w' => e = .returned (.int .i64 0) ∧ w = w') := Lib.hid (fun w => levels_any sNum w)
  unfold sNum at HLV
  unfold Ev.val
  unfold exCells at HW
  go_enter Tryz.func20, Tryz.ntmps20
  go_upto_region 1 with fail
  rw [HJ.out, HW.out]
  clear HJ HW
  obtain ⟨x0, x1, x2, x3, x4, x5, x6, x7, x8, x9, x10, x11, x12, x13⟩ := HB.out.ex
  rw [V0.out] at x0
  unfold sNum at x0
  rw [V1.out] at x1
  go_wp2_with (go_at_call 24; refine (HLV.out _).mono ?_; rintro e w' ⟨rfl, rfl⟩)
  clear x0 x1 x2 x3 x4 x5 x6 x7 x8 x9 x10 x11 x12 x13
  have HF2 := HF
  refine (HOP.out _).mono ?_
  rintro e w3 ⟨A, c3, rfl, hb, hk⟩
  have HR := Lib.hid (HF2.out.trans (hb.mono HF2.out.size))
  have HK := Lib.hid (hk.lower HF2.out.size)
  clear hb hk
  go_wp2
  go_ret
  exact ⟨A, c3, rfl, HR.out, HK.out⟩

set_option maxHeartbeats 16000000 in
set_option maxRecDepth 100000 in
theorem tokOf_err (t : List UInt8) : TokOf (.err t) := by
  intro v S w hx hok _
  have hv : v = { Ev.zero with op := sError, text := bs t } := hx
  have HTK : Hid (tok 1 (.err t) = [kOpd (prt 1 (.err t)) tError]) := Lib.hid (by rw [tok, prt])
  have HPT : Hid (prt 1 (.err t) = t) := Lib.hid (by rw [prt])
  rw [HPT.out] at HTK
  clear HPT
  rw [HTK.out]
  clear HTK hx hok
  have HOP : Hid (∀ w, Calls Tryz.prog 28 #[.string (bs t), .string ⟨#[69, 114, 114, 111, 114]⟩] w (TokPost w 45 [kOpd t tError])) := Lib.hid (fun w => operand_any t tError w)
  have V0 : Hid (v.op = sError) := Lib.hid (by rw [hv])
  have V1 : Hid (v.text = bs t) := Lib.hid (by rw [hv])
  clear hv
  obtain ⟨j, hj⟩ : ∃ j, w.heap.size = j := ⟨_, rfl⟩
  obtain ⟨W, hW⟩ : ∃ W, w.alloc (.cells (exCells v) 25) = W := ⟨_, rfl⟩
  have HF : Hid (Below w.heap.size w W) := by subst hW; exact Lib.hid ((Below.refl _ _).alloc (Nat.le_refl _) _)
  have HB : Hid (Box W j (exCells v) 25) := by subst hW; subst hj; exact Box.made _ _ _
  have HJ := Lib.hid hj
  have HW := Lib.hid hW
  clear hj hW
  have HLV : Hid (∀ w, Calls Tryz.prog 24 #[.string sError] w fun e w' => e = .returned (.int .i64 0) ∧ w = w') := Lib.hid (fun w => levels_any sError w)
  unfold sError at HLV
  unfold Ev.val
  unfold exCells at HW
  go_enter Tryz.func20, Tryz.ntmps20
  go_upto_region 1 with fail
  rw [HJ.out, HW.out]
  clear HJ HW
  obtain ⟨x0, x1, x2, x3, x4, x5, x6, x7, x8, x9, x10, x11, x12, x13⟩ := HB.out.ex
  rw [V0.out] at x0
  unfold sError at x0
  rw [V1.out] at x1
  go_wp2_with (go_at_call 24; refine (HLV.out _).mono ?_; rintro e w' ⟨rfl, rfl⟩)
  clear x0 x1 x2 x3 x4 x5 x6 x7 x8 x9 x10 x11 x12 x13
  have HF2 := HF
  refine (HOP.out _).mono ?_
  rintro e w3 ⟨A, c3, rfl, hb, hk⟩
  have HR := Lib.hid (HF2.out.trans (hb.mono HF2.out.size))
  have HK := Lib.hid (hk.lower HF2.out.size)
  clear hb hk
  go_wp2
  go_ret
  exact ⟨A, c3, rfl, HR.out, HK.out⟩

set_option maxHeartbeats 16000000 in
set_option maxRecDepth 100000 in
theorem tokOf_truth (b : Bool) : TokOf (.truth b) := by
  intro v S w hx hok _
  have hv : v = { Ev.zero with op := sTruth, is := b } := hx
  have HTK : Hid (tok 1 (.truth b) = [kOpd (prt 1 (.truth b)) tLogical]) := Lib.hid (by rw [tok, prt])
  have HPR := Lib.hid (fun w => print_of v (prt 1 (.truth b)) (fun w => by rw [hv]; exact printed_truth b w) w)
  obtain ⟨PT, hPT⟩ : ∃ PT, prt 1 (.truth b) = PT := ⟨_, rfl⟩
  rw [hPT] at HTK HPR
  clear hPT
  rw [HTK.out]
  clear HTK hx hok
  have HOP : Hid (∀ w, Calls Tryz.prog 28 #[.string (bs PT), .string ⟨#[76, 111, 103, 105, 99, 97, 108]⟩] w (TokPost w 45 [kOpd PT tLogical])) := Lib.hid (fun w => operand_any PT tLogical w)
  have V0 : Hid (v.op = sTruth) := Lib.hid (by rw [hv])
  clear hv
  obtain ⟨j, hj⟩ : ∃ j, w.heap.size = j := ⟨_, rfl⟩
  obtain ⟨W, hW⟩ : ∃ W, w.alloc (.cells (exCells v) 25) = W := ⟨_, rfl⟩
  have HF : Hid (Below w.heap.size w W) := by subst hW; exact Lib.hid ((Below.refl _ _).alloc (Nat.le_refl _) _)
  have HB : Hid (Box W j (exCells v) 25) := by subst hW; subst hj; exact Box.made _ _ _
  have HJ := Lib.hid hj
  have HW := Lib.hid hW
  clear hj hW
  have HLV : Hid (∀ w, Calls Tryz.prog 24 #[.string sTruth] w fun e w' => e = .returned (.int .i64 0) ∧ w = w') := Lib.hid (fun w => levels_any sTruth w)
  unfold sTruth at HLV
  unfold Ev.val at HPR
  simp only [V0.out] at HPR
  unfold sTruth at HPR
  unfold Ev.val
  unfold exCells at HW
  go_enter Tryz.func20, Tryz.ntmps20
  go_upto_region 1 with fail
  rw [HJ.out, HW.out]
  clear HJ HW
  obtain ⟨x0, x1, x2, x3, x4, x5, x6, x7, x8, x9, x10, x11, x12, x13⟩ := HB.out.ex
  rw [V0.out] at x0
  unfold sTruth at x0
  go_wp2_with (go_at_call 24; refine (HLV.out _).mono ?_; rintro e w' ⟨rfl, rfl⟩)
  clear x0 x1 x2 x3 x4 x5 x6 x7 x8 x9 x10 x11 x12 x13
  refine (HPR.out _).mono ?_
  rintro e w2 ⟨rfl, hb⟩
  have HF2 := Lib.hid (HF.out.trans (hb.mono HF.out.size))
  clear hb
  go_wp2_with fail
  refine (HOP.out _).mono ?_
  rintro e w3 ⟨A, c3, rfl, hb, hk⟩
  have HR := Lib.hid (HF2.out.trans (hb.mono HF2.out.size))
  have HK := Lib.hid (hk.lower HF2.out.size)
  clear hb hk
  go_wp2
  go_ret
  exact ⟨A, c3, rfl, HR.out, HK.out⟩

set_option maxHeartbeats 16000000 in
set_option maxRecDepth 100000 in
theorem tokOf_cell (s : List UInt8) (c r : Nat) (a b : Bool) : TokOf (.cell s c r a b) := by
  intro v S w hx hok _
  have hv : v = { Ev.zero with op := sCell, sheet := bs s, c := c, r := r, f0 := a, f1 := b } := hx
  unfold okX at hok
  have HTK : Hid (tok 1 (.cell s c r a b) = [kOpd (prt 1 (.cell s c r a b)) tRange]) := Lib.hid (by rw [tok, prt])
  have HPR := Lib.hid (fun w => print_of v (prt 1 (.cell s c r a b)) (fun w => by rw [hv]; exact printed_cell s c r a b w hok) w)
  obtain ⟨PT, hPT⟩ : ∃ PT, prt 1 (.cell s c r a b) = PT := ⟨_, rfl⟩
  rw [hPT] at HTK HPR
  clear hPT
  rw [HTK.out]
  clear HTK hx hok
  have HOP : Hid (∀ w, Calls Tryz.prog 28 #[.string (bs PT), .string ⟨#[82, 97, 110, 103, 101]⟩] w (TokPost w 45 [kOpd PT tRange])) := Lib.hid (fun w => operand_any PT tRange w)
  have V0 : Hid (v.op = sCell) := Lib.hid (by rw [hv])
  clear hv
  obtain ⟨j, hj⟩ : ∃ j, w.heap.size = j := ⟨_, rfl⟩
  obtain ⟨W, hW⟩ : ∃ W, w.alloc (.cells (exCells v) 25) = W := ⟨_, rfl⟩
  have HF : Hid (Below w.heap.size w W) := by subst hW; exact Lib.hid ((Below.refl _ _).alloc (Nat.le_refl _) _)
  have HB : Hid (Box W j (exCells v) 25) := by subst hW; subst hj; exact Box.made _ _ _
  have HJ := Lib.hid hj
  have HW := Lib.hid hW
  clear hj hW
  have HLV : Hid (∀ w, Calls Tryz.prog 24 #[.string sCell] w fun e w' => e = .returned (.int .i64 0) ∧ w = w') := Lib.hid (fun w => levels_any sCell w)
  unfold sCell at HLV
  unfold Ev.val at HPR
  simp only [V0.out] at HPR
  unfold sCell at HPR
  unfold Ev.val
  unfold exCells at HW
  go_enter Tryz.func20, Tryz.ntmps20
  go_upto_region 1 with fail
  rw [HJ.out, HW.out]
  clear HJ HW
  obtain ⟨x0, x1, x2, x3, x4, x5, x6, x7, x8, x9, x10, x11, x12, x13⟩ := HB.out.ex
  rw [V0.out] at x0
  unfold sCell at x0
  go_wp2_with (go_at_call 24; refine (HLV.out _).mono ?_; rintro e w' ⟨rfl, rfl⟩)
  clear x0 x1 x2 x3 x4 x5 x6 x7 x8 x9 x10 x11 x12 x13
  refine (HPR.out _).mono ?_
  rintro e w2 ⟨rfl, hb⟩
  have HF2 := Lib.hid (HF.out.trans (hb.mono HF.out.size))
  clear hb
  go_wp2_with fail
  refine (HOP.out _).mono ?_
  rintro e w3 ⟨A, c3, rfl, hb, hk⟩
  have HR := Lib.hid (HF2.out.trans (hb.mono HF2.out.size))
  have HK := Lib.hid (hk.lower HF2.out.size)
  clear hb hk
  go_wp2
  go_ret
  exact ⟨A, c3, rfl, HR.out, HK.out⟩

set_option maxHeartbeats 16000000 in
set_option maxRecDepth 100000 in
theorem tokOf_area (s : List UInt8) (c r c2 r2 : Nat) (a b a2 b2 : Bool) : TokOf (.area s c r c2 r2 a b a2 b2) := by
  intro v S w hx hok _
  have hv : v = { Ev.zero with op := sArea, sheet := bs s, c := c, r := r, c2 := c2, r2 := r2, f0 := a, f1 := b, f2 := a2, f3 := b2 } := hx
  unfold okX at hok
  have HTK : Hid (tok 1 (.area s c r c2 r2 a b a2 b2) = [kOpd (prt 1 (.area s c r c2 r2 a b a2 b2)) tRange]) := Lib.hid (by rw [tok, prt])
  have HPR := Lib.hid (fun w => print_of v (prt 1 (.area s c r c2 r2 a b a2 b2)) (fun w => by rw [hv]; exact printed_area s c r c2 r2 a b a2 b2 w hok.1 hok.2) w)
  obtain ⟨PT, hPT⟩ : ∃ PT, prt 1 (.area s c r c2 r2 a b a2 b2) = PT := ⟨_, rfl⟩
  rw [hPT] at HTK HPR
  clear hPT
  rw [HTK.out]
  clear HTK hx hok
  have HOP : Hid (∀ w, Calls Tryz.prog 28 #[.string (bs PT), .string ⟨#[82, 97, 110, 103, 101]⟩] w (TokPost w 45 [kOpd PT tRange])) := Lib.hid (fun w => operand_any PT tRange w)
  have V0 : Hid (v.op = sArea) := Lib.hid (by rw [hv])
  clear hv
  obtain ⟨j, hj⟩ : ∃ j, w.heap.size = j := ⟨_, rfl⟩
  obtain ⟨W, hW⟩ : ∃ W, w.alloc (.cells (exCells v) 25) = W := ⟨_, rfl⟩
  have HF : Hid (Below w.heap.size w W) := by subst hW; exact Lib.hid ((Below.refl _ _).alloc (Nat.le_refl _) _)
  have HB : Hid (Box W j (exCells v) 25) := by subst hW; subst hj; exact Box.made _ _ _
  have HJ := Lib.hid hj
  have HW := Lib.hid hW
  clear hj hW
  have HLV : Hid (∀ w, Calls Tryz.prog 24 #[.string sArea] w fun e w' => e = .returned (.int .i64 0) ∧ w = w') := Lib.hid (fun w => levels_any sArea w)
  unfold sArea at HLV
  unfold Ev.val at HPR
  simp only [V0.out] at HPR
  unfold sArea at HPR
  unfold Ev.val
  unfold exCells at HW
  go_enter Tryz.func20, Tryz.ntmps20
  go_upto_region 1 with fail
  rw [HJ.out, HW.out]
  clear HJ HW
  obtain ⟨x0, x1, x2, x3, x4, x5, x6, x7, x8, x9, x10, x11, x12, x13⟩ := HB.out.ex
  rw [V0.out] at x0
  unfold sArea at x0
  go_wp2_with (go_at_call 24; refine (HLV.out _).mono ?_; rintro e w' ⟨rfl, rfl⟩)
  clear x0 x1 x2 x3 x4 x5 x6 x7 x8 x9 x10 x11 x12 x13
  refine (HPR.out _).mono ?_
  rintro e w2 ⟨rfl, hb⟩
  have HF2 := Lib.hid (HF.out.trans (hb.mono HF.out.size))
  clear hb
  go_wp2_with fail
  refine (HOP.out _).mono ?_
  rintro e w3 ⟨A, c3, rfl, hb, hk⟩
  have HR := Lib.hid (HF2.out.trans (hb.mono HF2.out.size))
  have HK := Lib.hid (hk.lower HF2.out.size)
  clear hb hk
  go_wp2
  go_ret
  exact ⟨A, c3, rfl, HR.out, HK.out⟩

set_option maxHeartbeats 16000000 in
set_option maxRecDepth 100000 in
theorem tokOf_name (t : List UInt8) : TokOf (.name t) := by
  intro v S w hx hok _
  have hv : v = { Ev.zero with op := sName, text := bs t } := hx
  have HTK : Hid (tok 1 (.name t) = [kOpd (prt 1 (.name t)) tRange]) := Lib.hid (by rw [tok, prt])
  have HPR := Lib.hid (fun w => print_of v (prt 1 (.name t)) (fun w => by rw [hv]; exact printed_name t w) w)
  obtain ⟨PT, hPT⟩ : ∃ PT, prt 1 (.name t) = PT := ⟨_, rfl⟩
  rw [hPT] at HTK HPR
  clear hPT
  rw [HTK.out]
  clear HTK hx hok
  have HOP : Hid (∀ w, Calls Tryz.prog 28 #[.string (bs PT), .string ⟨#[82, 97, 110, 103, 101]⟩] w (TokPost w 45 [kOpd PT tRange])) := Lib.hid (fun w => operand_any PT tRange w)
  have V0 : Hid (v.op = sName) := Lib.hid (by rw [hv])
  clear hv
  obtain ⟨j, hj⟩ : ∃ j, w.heap.size = j := ⟨_, rfl⟩
  obtain ⟨W, hW⟩ : ∃ W, w.alloc (.cells (exCells v) 25) = W := ⟨_, rfl⟩
  have HF : Hid (Below w.heap.size w W) := by subst hW; exact Lib.hid ((Below.refl _ _).alloc (Nat.le_refl _) _)
  have HB : Hid (Box W j (exCells v) 25) := by subst hW; subst hj; exact Box.made _ _ _
  have HJ := Lib.hid hj
  have HW := Lib.hid hW
  clear hj hW
  have HLV : Hid (∀ w, Calls Tryz.prog 24 #[.string sName] w fun e w' => e = .returned (.int .i64 0) ∧ w = w') := Lib.hid (fun w => levels_any sName w)
  unfold sName at HLV
  unfold Ev.val at HPR
  simp only [V0.out] at HPR
  unfold sName at HPR
  unfold Ev.val
  unfold exCells at HW
  go_enter Tryz.func20, Tryz.ntmps20
  go_upto_region 1 with fail
  rw [HJ.out, HW.out]
  clear HJ HW
  obtain ⟨x0, x1, x2, x3, x4, x5, x6, x7, x8, x9, x10, x11, x12, x13⟩ := HB.out.ex
  rw [V0.out] at x0
  unfold sName at x0
  go_wp2_with (go_at_call 24; refine (HLV.out _).mono ?_; rintro e w' ⟨rfl, rfl⟩)
  clear x0 x1 x2 x3 x4 x5 x6 x7 x8 x9 x10 x11 x12 x13
  refine (HPR.out _).mono ?_
  rintro e w2 ⟨rfl, hb⟩
  have HF2 := Lib.hid (HF.out.trans (hb.mono HF.out.size))
  clear hb
  go_wp2_with fail
  refine (HOP.out _).mono ?_
  rintro e w3 ⟨A, c3, rfl, hb, hk⟩
  have HR := Lib.hid (HF2.out.trans (hb.mono HF2.out.size))
  have HK := Lib.hid (hk.lower HF2.out.size)
  clear hb hk
  go_wp2
  go_ret
  exact ⟨A, c3, rfl, HR.out, HK.out⟩

end Go.Proofs.YtfeffdjnjckjaaaGreatDoor.Rg
