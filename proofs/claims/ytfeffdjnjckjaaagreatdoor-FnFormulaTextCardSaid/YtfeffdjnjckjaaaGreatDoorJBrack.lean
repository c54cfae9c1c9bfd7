/- Small makers of tokens, and brackets. -/
import Derived.Test.YtfeffdjnjckjaaaGreatDoorJTok
import Derived.Test.YtfeffdjnjckjaaaGreatDoorPParse
/- The small makers of tokens: operand, infix. -/
namespace Go.Proofs.YtfeffdjnjckjaaaGreatDoor.Rg
open Go.RowKit

set_option maxHeartbeats 1600000 in
theorem operand_any (t : List UInt8) (s : ByteArray) (w : World) : Calls Tryz.prog 28 #[.string (bs t), .string s] w (TokPost w 45 [kOpd t s]) := by
  have HT := Lib.hid (Tks.made w (kOpd t s) 45)
  go_enter Tryz.func28, Tryz.ntmps28
  go_wp2
  go_ret
  refine ⟨_, _, rfl, (Below.refl _ _).alloc (Nat.le_refl _) _, HT.out⟩

set_option maxHeartbeats 1600000 in
theorem infix_any (o : List UInt8) (w : World) : Calls Tryz.prog 27 #[.string (bs o)] w fun e w' => e = .returned (.string (infT (lev o))) ∧ w = w' := by
  have hl := fun w => levels_any (bs o) w
  have e : (bs o).data.toList = o := rfl
  rw [e] at hl
  unfold infT
  generalize lev o = n at hl ⊢
  clear e
  generalize bs o = S at hl ⊢
  by_cases h1 : n = 1
  · subst h1
    go_enter Tryz.func27, Tryz.ntmps27
    go_wp2_with fail
    refine (hl _).mono ?_
    rintro e w' ⟨rfl, rfl⟩
    go_wp2
    go_ret
    exact ⟨rfl, rfl⟩
  · by_cases h2 : n = 2
    · subst h2
      go_enter Tryz.func27, Tryz.ntmps27
      go_wp2_with fail
      refine (hl _).mono ?_
      rintro e w' ⟨rfl, rfl⟩
      go_wp2
      go_ret
      exact ⟨rfl, rfl⟩
    · rw [if_neg h1, if_neg h2]
      have e1 : ((n : Int) == 1) = false := by simp; omega
      have e2 : ((n : Int) == 2) = false := by simp; omega
      go_enter Tryz.func27, Tryz.ntmps27
      go_wp2_with fail
      refine (hl _).mono ?_
      rintro e w' ⟨rfl, rfl⟩
      go_wp2
      go_ret
      exact ⟨rfl, rfl⟩

end Go.Proofs.YtfeffdjnjckjaaaGreatDoor.Rg

/- The tokens of a part, in brackets where it binds less. -/
namespace Go.Proofs.YtfeffdjnjckjaaaGreatDoor.Rg
open Go.RowKit

/-- What is asked of the tokens of a tree. -/
def TokOf (x : Ex) : Prop := ∀ (v : Ev) (S : Nat → Prop) (w : World), IsEx w S x v → okX x → (prt 1 x).length ≤ 8000 → Calls Tryz.prog 20 #[v.val, .bool false] w (TokPost w 45 (tok 1 x))
/-- The operator of a tree. -/
def opOf : Ex → List UInt8
  | .bin o _ _ => o
  | _ => []
theorem lev_nil : lev [] = 0 := by decide
theorem isEx_lev (w : World) (S : Nat → Prop) (x : Ex) (v : Ev) (h : IsEx w S x v) (hx : okX x) : lev v.op.data.toList = lev (opOf x) := by
  cases x with
  | num t => rw [show v = _ from h]; exact (by decide : lev sNum.data.toList = lev [])
  | truth b => rw [show v = _ from h]; exact (by decide : lev sTruth.data.toList = lev [])
  | err t => rw [show v = _ from h]; exact (by decide : lev sError.data.toList = lev [])
  | name t => rw [show v = _ from h]; exact (by decide : lev sName.data.toList = lev [])
  | cell s c r a b => rw [show v = _ from h]; exact (by decide : lev sCell.data.toList = lev [])
  | area s c r c2 r2 a b a2 b2 => rw [show v = _ from h]; exact (by decide : lev sArea.data.toList = lev [])
  | call t kids =>
    obtain ⟨A, k, vs, h1, _⟩ := h
    rw [h1]
    exact (by decide : lev sCall.data.toList = lev [])
  | bin o a b =>
    obtain ⟨A, va, vb, h1, _⟩ := h
    rw [h1]
    rfl
  | odd => unfold okX at hx; exact hx.elim
/-- Where no brackets are needed. -/
theorem tok_plain (x : Ex) (n : Nat) (h : lev (opOf x) = 0 ∨ n ≤ lev (opOf x)) (hx : okX x) : tok n x = tok 1 x := by
  cases x with
  | bin o a b =>
    have hl := lev_ops (by unfold okX at hx; exact hx.1)
    have h : lev o = 0 ∨ n ≤ lev o := h
    rw [tok_bin, tok_bin, if_neg (by omega), if_neg (by omega)]
  | _ => rw [tok, tok]
theorem tok_brack (x : Ex) (n : Nat) (h0 : lev (opOf x) ≠ 0) (h : lev (opOf x) < n) : tok n x = kOpen :: (tok 1 x ++ [kClose]) := by
  cases x with
  | bin o a b =>
    have h0 : lev o ≠ 0 := h0
    have h : lev o < n := h
    rw [tok_bin, tok_bin, if_pos h, if_neg (by omega)]
    simp
  | _ => exact absurd lev_nil h0

set_option maxHeartbeats 16000000 in
set_option maxRecDepth 100000 in
theorem bracketed_any (x : Ex) (hT : TokOf x) (n : Nat) (v : Ev) (S : Nat → Prop) (w : World) (h : IsEx w S x v) (hx : okX x) (hl : (prt 1 x).length ≤ 8000) :
    Calls Tryz.prog 26 #[v.val, .int .i64 n, .bool false] w (TokPost w 45 (tok n x)) := by
  obtain ⟨j, hj⟩ : ∃ j, w.heap.size = j := ⟨_, rfl⟩
  obtain ⟨W, hW⟩ : ∃ W, w.alloc (.cells (exCells v) 25) = W := ⟨_, rfl⟩
  have HF : Hid (Below w.heap.size w W) := by subst hW; exact Lib.hid ((Below.refl _ _).alloc (Nat.le_refl _) _)
  have HB : Hid (Box W j (exCells v) 25) := by subst hW; subst hj; exact Box.made _ _ _
  have HLV := Lib.hid (isEx_lev w S x v h hx)
  have hlev : ∀ w, Calls Tryz.prog 24 #[.string v.op] w fun e w' => e = .returned (.int .i64 (lev (opOf x))) ∧ w = w' := by
    intro w
    rw [← HLV.out]
    exact levels_any v.op w
  have HCL : Hid (Calls Tryz.prog 20 #[v.val, .bool false] W (TokPost W 45 (tok 1 x))) := Lib.hid (hT v S W (h.below HF.out) hx hl)
  have HCLA : Hid (∀ W1, Below W.heap.size W W1 → Calls Tryz.prog 20 #[v.val, .bool false] W1 (TokPost W1 45 (tok 1 x))) := Lib.hid (fun W1 hb => hT v S W1 ((h.below HF.out).below hb) hx hl)
  have HLE := Lib.hid (tok_len x 1 hx)
  have HLX := Lib.hid hl
  have HX := Lib.hid hx
  have HJ := Lib.hid hj
  have HW := Lib.hid hW
  clear hT h hl hj hW HLV hx
  unfold Ev.val at HCL HCLA ⊢
  unfold exCells at HW
  have hlev0 : ∃ L, lev (opOf x) = L := ⟨_, rfl⟩
  obtain ⟨L, hL⟩ := hlev0
  rw [hL] at hlev
  by_cases h0 : L = 0
  · subst h0
    have HT := Lib.hid (tok_plain x n (.inl hL) HX.out)
    rw [HT.out]
    have HLL := Lib.hid hL
    clear hL
    go_enter Tryz.func26, Tryz.ntmps26
    go_upto_region 1 with fail
    rw [HJ.out, HW.out]
    obtain ⟨x0, x1, x2, x3, x4, x5, x6, x7, x8, x9, x10, x11, x12, x13⟩ := HB.out.ex
    go_wp2_with (go_at_call 24; refine (hlev _).mono ?_; rintro e w' ⟨rfl, rfl⟩)
    refine HCL.out.mono ?_
    rintro e w1 ⟨A, c, rfl, hb, hk⟩
    clear x0 x1 x2 x3 x4 x5 x6 x7 x8 x9 x10 x11 x12 x13
    have HR := Lib.hid (show Below w.heap.size w w1 from HF.out.trans (hb.mono HF.out.size))
    have HK := Lib.hid (hk.lower HF.out.size)
    clear hb hk
    go_wp2
    go_ret
    exact ⟨A, c, rfl, HR.out, HK.out⟩
  by_cases h1 : n ≤ L
  · have HT := Lib.hid (tok_plain x n (.inr (by omega)) HX.out)
    rw [HT.out]
    have e1 : ((L : Int) == 0) = false := by simp; omega
    have e2 : decide (n ≤ L) = true := by simpa using h1
    clear h0 h1
    have HLL := Lib.hid hL
    clear hL
    go_enter Tryz.func26, Tryz.ntmps26
    go_upto_region 1 with fail
    rw [HJ.out, HW.out]
    obtain ⟨x0, x1, x2, x3, x4, x5, x6, x7, x8, x9, x10, x11, x12, x13⟩ := HB.out.ex
    go_wp2_with (go_at_call 24; refine (hlev _).mono ?_; rintro e w' ⟨rfl, rfl⟩)
    refine HCL.out.mono ?_
    rintro e w1 ⟨A, c, rfl, hb, hk⟩
    clear x0 x1 x2 x3 x4 x5 x6 x7 x8 x9 x10 x11 x12 x13
    have HR := Lib.hid (show Below w.heap.size w w1 from HF.out.trans (hb.mono HF.out.size))
    have HK := Lib.hid (hk.lower HF.out.size)
    clear hb hk
    go_wp2
    go_ret
    exact ⟨A, c, rfl, HR.out, HK.out⟩
  · obtain ⟨l3, hl3⟩ : ∃ l3, [kOpen] ++ tok 1 x = l3 := ⟨_, rfl⟩
    have HT : Hid (tok n x = l3 ++ [kClose]) := Lib.hid (by rw [tok_brack x n (by omega) (by omega), ← hl3]; rfl)
    have HL3 := Lib.hid hl3
    clear hl3
    rw [HT.out]
    have e1 : ((L : Int) == 0) = false := by simp; omega
    have e2 : decide (n ≤ L) = false := by simpa using h1
    obtain ⟨W1, hW1⟩ : ∃ W1, W.alloc (.cells #[.string ⟨#[]⟩, .string ⟨#[83, 117, 98, 101, 120, 112, 114, 101, 115, 115, 105, 111, 110]⟩, .string ⟨#[83, 116, 97, 114, 116]⟩] 45) = W1 := ⟨_, rfl⟩
    obtain ⟨g1, hg1⟩ : ∃ g1, W.heap.size = g1 := ⟨_, rfl⟩
    have HO : Hid (Tks W1 g1 45 (.slice (some ⟨g1, 0, none⟩) 1 1) [kOpen]) := by subst hW1; subst hg1; exact Lib.hid (Tks.made W kOpen 45)
    have HB1 : Hid (Box W1 j (exCells v) 25) := by subst hW1; exact Lib.hid (HB.out.alloc _)
    have HF1 : Hid (Below w.heap.size w W1) := by subst hW1; exact Lib.hid (HF.out.alloc HF.out.size _)
    have hz1 : w.heap.size ≤ g1 := by subst hg1; exact HF.out.size
    have HZ1 : Hid (g1 ≤ W1.heap.size) := by subst hW1; subst hg1; exact Lib.hid (by simp)
    have HCL1 := HCLA.out W1 (by subst hW1; exact (Below.refl _ _).alloc (Nat.le_refl _) _)
    have HCL1 := Lib.hid HCL1
    have HW1 := Lib.hid hW1
    have HG1 := Lib.hid hg1
    have hlen : (tok 1 x).length ≤ 8000 := Nat.le_trans HLE.out.1 HLX.out
    clear h0 h1 hW1 hg1 HCL HCLA
    go_enter Tryz.func26, Tryz.ntmps26
    go_upto_region 1 with fail
    rw [HJ.out, HW.out]
    obtain ⟨x0, x1, x2, x3, x4, x5, x6, x7, x8, x9, x10, x11, x12, x13⟩ := HB.out.ex
    go_upto_region 4 with (go_at_call 24; refine (hlev _).mono ?_; rintro e w' ⟨rfl, rfl⟩)
    clear x0 x1 x2 x3 x4 x5 x6 x7 x8 x9 x10 x11 x12 x13
    have X1 := HB1.out.ex
    rw [← HW1.out] at X1
    obtain ⟨x0, x1, x2, x3, x4, x5, x6, x7, x8, x9, x10, x11, x12, x13⟩ := X1
    go_wp2_with fail
    clear x0 x1 x2 x3 x4 x5 x6 x7 x8 x9 x10 x11 x12 x13
    rw [HW1.out, HG1.out]
    clear HW1 HG1
    refine HCL1.out.mono ?_
    rintro e w2 ⟨A, c, rfl, hb, hk⟩
    obtain ⟨A3, c3, w3, happ3, hk3, hg3, hl3⟩ := join_tks tyS w2 g1 W1.heap.size _ _ _ _ (HO.out.below hb) hk (by simp; omega) (Nat.le_trans HZ1.out hb.size)
    have HF3 := Lib.hid (below_grew (HF1.out.trans (hb.mono HF1.out.size)) hg3 (fun k hk => Nat.le_trans hz1 (HO.out.lt k hk).1) (Nat.le_trans HF1.out.size hb.size))
    have HK3 := Lib.hid (hk3.lower hz1)
    have HN3 := Lib.hid (show ([kOpen] ++ tok 1 x).length ≤ 8001 by simp; omega)
    rw [HL3.out] at happ3 HK3 HN3
    clear hk3 hg3 hl3 hk hb HCL1 HT HL3 hlen
    have H1 := Lib.hid (Tks.made w3 kClose 45)
    have H2 : Hid (Below w3.heap.size w3 (w3.alloc (.cells #[.string ⟨#[]⟩, .string ⟨#[83, 117, 98, 101, 120, 112, 114, 101, 115, 115, 105, 111, 110]⟩, .string ⟨#[83, 116, 111, 112]⟩] 45))) := Lib.hid ((Below.refl _ _).alloc (Nat.le_refl _) _)
    have H3 := Lib.hid (HK3.out.below H2.out)
    obtain ⟨A5, c5, w5, happ5, hk5, hg5, _⟩ := join_tks tyS (w3.alloc (.cells #[.string ⟨#[]⟩, .string ⟨#[83, 117, 98, 101, 120, 112, 114, 101, 115, 115, 105, 111, 110]⟩, .string ⟨#[83, 116, 111, 112]⟩] 45)) w.heap.size w3.heap.size _ _ _ _ H3.out H1.out (by have := HN3.out; simp; omega) (Nat.le_trans HF3.out.size H2.out.size)
    have HF5 := Lib.hid (below_grew (HF3.out.trans (H2.out.mono HF3.out.size)) hg5 (fun k hk => (H3.out.lt k hk).1) (Nat.le_trans HF3.out.size H2.out.size))
    have HK5 := Lib.hid hk5
    clear hk5 hg5 H1 H2 H3 HK3 HN3
    go_upto_region 5 with (at_builtin; refine wpList_append_eq rfl _ _ _ rfl rfl rfl happ3 ?_)
    clear happ3
    go_wp2_with (at_builtin; refine wpList_append_eq rfl _ _ _ rfl rfl rfl happ5 ?_)
    go_ret
    exact ⟨A5, c5, by rw [List.length_append]; rfl, HF5.out, HK5.out⟩

end Go.Proofs.YtfeffdjnjckjaaaGreatDoor.Rg
