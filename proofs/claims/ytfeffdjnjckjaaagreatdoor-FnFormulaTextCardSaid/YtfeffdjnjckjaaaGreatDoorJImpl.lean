/- Brackets of tokens, and the tokens as the package has them. -/
import Derived.Test.YtfeffdjnjckjaaaGreatDoorJGrid
/- The tests of a token, and its text with its bracket. -/
namespace Go.Proofs.YtfeffdjnjckjaaaGreatDoor.Rg
open Go.RowKit

/-- A token of a type and a subtype. -/
def isK (a b : List UInt8) (k : Tk) : Bool := (k.typ.toList == a) && (k.sub.toList == b)
/-- A token in memory. -/
def tkCells (k : Tk) : Array Value := #[.string k.v, .string k.typ, .string k.sub]

set_option maxHeartbeats 1600000 in
theorem fstart_any (k : Tk) (w : World) : Calls Tryz.prog 38 #[k.val] w fun e w' => e = .returned (.bool (isK [70, 117, 110, 99, 116, 105, 111, 110] [83, 116, 97, 114, 116] k)) ∧ Below w.heap.size w w' := by
  obtain ⟨v, typ, sub⟩ := k
  unfold isK Tk.val
  simp only
  obtain ⟨j, hj⟩ : ∃ j, w.heap.size = j := ⟨_, rfl⟩
  obtain ⟨W, hW⟩ : ∃ W, w.alloc (.cells #[.string v, .string typ, .string sub] 55) = W := ⟨_, rfl⟩
  have HF : Hid (Below w.heap.size w W) := by subst hW; exact Lib.hid ((Below.refl _ _).alloc (Nat.le_refl _) _)
  have HB : Hid (Box W j #[.string v, .string typ, .string sub] 55) := by subst hW; subst hj; exact Box.made _ _ _
  obtain ⟨q1, h1⟩ : ∃ q, (typ.toList == [70, 117, 110, 99, 116, 105, 111, 110]) = q := ⟨_, rfl⟩
  obtain ⟨q2, h2⟩ : ∃ q, (sub.toList == [83, 116, 97, 114, 116]) = q := ⟨_, rfl⟩
  rw [h1, h2]
  have HJ := Lib.hid hj
  have HW := Lib.hid hW
  clear hj hW
  cases q1 <;> cases q2
  all_goals
    go_enter Tryz.func38, Tryz.ntmps38
    go_upto_region 1 with fail
    rw [HJ.out, HW.out]
    have x0 : W.cell? ⟨j, 0, none⟩ = some (.string v) := HB.out.cell 0
    have x1 : W.cell? ⟨j, 1, none⟩ = some (.string typ) := HB.out.cell 1
    have x2 : W.cell? ⟨j, 2, none⟩ = some (.string sub) := HB.out.cell 2
    go_wp2
    go_ret
    exact ⟨rfl, HF.out⟩

set_option maxHeartbeats 1600000 in
theorem sstart_any (k : Tk) (w : World) : Calls Tryz.prog 39 #[k.val] w fun e w' => e = .returned (.bool (isK [83, 117, 98, 101, 120, 112, 114, 101, 115, 115, 105, 111, 110] [83, 116, 97, 114, 116] k)) ∧ Below w.heap.size w w' := by
  obtain ⟨v, typ, sub⟩ := k
  unfold isK Tk.val
  simp only
  obtain ⟨j, hj⟩ : ∃ j, w.heap.size = j := ⟨_, rfl⟩
  obtain ⟨W, hW⟩ : ∃ W, w.alloc (.cells #[.string v, .string typ, .string sub] 55) = W := ⟨_, rfl⟩
  have HF : Hid (Below w.heap.size w W) := by subst hW; exact Lib.hid ((Below.refl _ _).alloc (Nat.le_refl _) _)
  have HB : Hid (Box W j #[.string v, .string typ, .string sub] 55) := by subst hW; subst hj; exact Box.made _ _ _
  obtain ⟨q1, h1⟩ : ∃ q, (typ.toList == [83, 117, 98, 101, 120, 112, 114, 101, 115, 115, 105, 111, 110]) = q := ⟨_, rfl⟩
  obtain ⟨q2, h2⟩ : ∃ q, (sub.toList == [83, 116, 97, 114, 116]) = q := ⟨_, rfl⟩
  rw [h1, h2]
  have HJ := Lib.hid hj
  have HW := Lib.hid hW
  clear hj hW
  cases q1 <;> cases q2
  all_goals
    go_enter Tryz.func39, Tryz.ntmps39
    go_upto_region 1 with fail
    rw [HJ.out, HW.out]
    have x0 : W.cell? ⟨j, 0, none⟩ = some (.string v) := HB.out.cell 0
    have x1 : W.cell? ⟨j, 1, none⟩ = some (.string typ) := HB.out.cell 1
    have x2 : W.cell? ⟨j, 2, none⟩ = some (.string sub) := HB.out.cell 2
    go_wp2
    go_ret
    exact ⟨rfl, HF.out⟩

set_option maxHeartbeats 1600000 in
theorem fstop_any (k : Tk) (w : World) : Calls Tryz.prog 40 #[k.val] w fun e w' => e = .returned (.bool (isK [70, 117, 110, 99, 116, 105, 111, 110] [83, 116, 111, 112] k)) ∧ Below w.heap.size w w' := by
  obtain ⟨v, typ, sub⟩ := k
  unfold isK Tk.val
  simp only
  obtain ⟨j, hj⟩ : ∃ j, w.heap.size = j := ⟨_, rfl⟩
  obtain ⟨W, hW⟩ : ∃ W, w.alloc (.cells #[.string v, .string typ, .string sub] 55) = W := ⟨_, rfl⟩
  have HF : Hid (Below w.heap.size w W) := by subst hW; exact Lib.hid ((Below.refl _ _).alloc (Nat.le_refl _) _)
  have HB : Hid (Box W j #[.string v, .string typ, .string sub] 55) := by subst hW; subst hj; exact Box.made _ _ _
  obtain ⟨q1, h1⟩ : ∃ q, (typ.toList == [70, 117, 110, 99, 116, 105, 111, 110]) = q := ⟨_, rfl⟩
  obtain ⟨q2, h2⟩ : ∃ q, (sub.toList == [83, 116, 111, 112]) = q := ⟨_, rfl⟩
  rw [h1, h2]
  have HJ := Lib.hid hj
  have HW := Lib.hid hW
  clear hj hW
  cases q1 <;> cases q2
  all_goals
    go_enter Tryz.func40, Tryz.ntmps40
    go_upto_region 1 with fail
    rw [HJ.out, HW.out]
    have x0 : W.cell? ⟨j, 0, none⟩ = some (.string v) := HB.out.cell 0
    have x1 : W.cell? ⟨j, 1, none⟩ = some (.string typ) := HB.out.cell 1
    have x2 : W.cell? ⟨j, 2, none⟩ = some (.string sub) := HB.out.cell 2
    go_wp2
    go_ret
    exact ⟨rfl, HF.out⟩

set_option maxHeartbeats 1600000 in
theorem sstop_any (k : Tk) (w : World) : Calls Tryz.prog 41 #[k.val] w fun e w' => e = .returned (.bool (isK [83, 117, 98, 101, 120, 112, 114, 101, 115, 115, 105, 111, 110] [83, 116, 111, 112] k)) ∧ Below w.heap.size w w' := by
  obtain ⟨v, typ, sub⟩ := k
  unfold isK Tk.val
  simp only
  obtain ⟨j, hj⟩ : ∃ j, w.heap.size = j := ⟨_, rfl⟩
  obtain ⟨W, hW⟩ : ∃ W, w.alloc (.cells #[.string v, .string typ, .string sub] 55) = W := ⟨_, rfl⟩
  have HF : Hid (Below w.heap.size w W) := by subst hW; exact Lib.hid ((Below.refl _ _).alloc (Nat.le_refl _) _)
  have HB : Hid (Box W j #[.string v, .string typ, .string sub] 55) := by subst hW; subst hj; exact Box.made _ _ _
  obtain ⟨q1, h1⟩ : ∃ q, (typ.toList == [83, 117, 98, 101, 120, 112, 114, 101, 115, 115, 105, 111, 110]) = q := ⟨_, rfl⟩
  obtain ⟨q2, h2⟩ : ∃ q, (sub.toList == [83, 116, 111, 112]) = q := ⟨_, rfl⟩
  rw [h1, h2]
  have HJ := Lib.hid hj
  have HW := Lib.hid hW
  clear hj hW
  cases q1 <;> cases q2
  all_goals
    go_enter Tryz.func41, Tryz.ntmps41
    go_upto_region 1 with fail
    rw [HJ.out, HW.out]
    have x0 : W.cell? ⟨j, 0, none⟩ = some (.string v) := HB.out.cell 0
    have x1 : W.cell? ⟨j, 1, none⟩ = some (.string typ) := HB.out.cell 1
    have x2 : W.cell? ⟨j, 2, none⟩ = some (.string sub) := HB.out.cell 2
    go_wp2
    go_ret
    exact ⟨rfl, HF.out⟩

/-- The text of a token that has a bracket, or nothing. -/
def trT (k : Tk) : ByteArray :=
  if (isK [70, 117, 110, 99, 116, 105, 111, 110] [83, 116, 97, 114, 116] k || isK [83, 117, 98, 101, 120, 112, 114, 101, 115, 115, 105, 111, 110] [83, 116, 97, 114, 116] k) = true then k.v ++ ⟨#[40]⟩ else if (isK [70, 117, 110, 99, 116, 105, 111, 110] [83, 116, 111, 112] k || isK [83, 117, 98, 101, 120, 112, 114, 101, 115, 115, 105, 111, 110] [83, 116, 111, 112] k) = true then k.v ++ ⟨#[41]⟩ else ⟨#[]⟩

set_option maxHeartbeats 8000000 in
set_option maxRecDepth 100000 in
theorem paren_any (k : Tk) (hk : k.v.size ≤ 10000) (w : World) : Calls Tryz.prog 32 #[k.val] w fun e w' => e = .returned (.string (trT k)) ∧ Below w.heap.size w w' := by
  have C1 := Lib.hid (fun w => fstart_any k w)
  have C2 := Lib.hid (fun w => sstart_any k w)
  have C3 := Lib.hid (fun w => fstop_any k w)
  have C4 := Lib.hid (fun w => sstop_any k w)
  unfold trT
  obtain ⟨q1, h1⟩ : ∃ q, isK [70, 117, 110, 99, 116, 105, 111, 110] [83, 116, 97, 114, 116] k = q := ⟨_, rfl⟩
  obtain ⟨q2, h2⟩ : ∃ q, isK [83, 117, 98, 101, 120, 112, 114, 101, 115, 115, 105, 111, 110] [83, 116, 97, 114, 116] k = q := ⟨_, rfl⟩
  obtain ⟨q3, h3⟩ : ∃ q, isK [70, 117, 110, 99, 116, 105, 111, 110] [83, 116, 111, 112] k = q := ⟨_, rfl⟩
  obtain ⟨q4, h4⟩ : ∃ q, isK [83, 117, 98, 101, 120, 112, 114, 101, 115, 115, 105, 111, 110] [83, 116, 111, 112] k = q := ⟨_, rfl⟩
  rw [h1] at C1 ⊢
  rw [h2] at C2 ⊢
  rw [h3] at C3 ⊢
  rw [h4] at C4 ⊢
  clear h1 h2 h3 h4
  obtain ⟨v, typ, sub⟩ := k
  unfold Tk.val at C1 C2 C3 C4 ⊢
  simp only at C1 C2 C3 C4 hk ⊢
  obtain ⟨j, hj⟩ : ∃ j, w.heap.size = j := ⟨_, rfl⟩
  obtain ⟨W, hW⟩ : ∃ W, w.alloc (.cells #[.string v, .string typ, .string sub] 55) = W := ⟨_, rfl⟩
  have HF : Hid (Below w.heap.size w W) := by subst hW; exact Lib.hid ((Below.refl _ _).alloc (Nat.le_refl _) _)
  have HB : Hid (Box W j #[.string v, .string typ, .string sub] 55) := by subst hW; subst hj; exact Box.made _ _ _
  have HJ := Lib.hid hj
  have HW := Lib.hid hW
  clear hj hW
  have s40 : (⟨#[40]⟩ : ByteArray).size = 1 := rfl
  have s41 : (⟨#[41]⟩ : ByteArray).size = 1 := rfl
  have ra : ∀ w, (Op.stringOp .add v ⟨#[40]⟩).run Tryz.prog w = .ok (.string (v ++ ⟨#[40]⟩)) w := fun w => run_string_add_sum _ _ _ (by omega)
  have rb : ∀ w, (Op.stringOp .add v ⟨#[41]⟩).run Tryz.prog w = .ok (.string (v ++ ⟨#[41]⟩)) w := fun w => run_string_add_sum _ _ _ (by omega)
  clear s40 s41
  cases q1
  case true =>
    go_enter Tryz.func32, Tryz.ntmps32
    go_upto_region 1 with fail
    rw [HJ.out, HW.out]
    have x0 : W.cell? ⟨j, 0, none⟩ = some (.string v) := HB.out.cell 0
    have x1 : W.cell? ⟨j, 1, none⟩ = some (.string typ) := HB.out.cell 1
    have x2 : W.cell? ⟨j, 2, none⟩ = some (.string sub) := HB.out.cell 2
    go_wp2_with fail
    clear x0 x1 x2
    refine (C1.out _).mono ?_
    rintro e w1 ⟨rfl, hb⟩
    have x0 : w1.cell? ⟨j, 0, none⟩ = some (.string v) := (HB.out.below hb).cell 0
    have HF1 := Lib.hid (HF.out.trans (hb.mono HF.out.size))
    clear hb
    go_wp2
    go_ret
    exact ⟨rfl, HF1.out⟩
  case false =>
    cases q2
    case true =>
      go_enter Tryz.func32, Tryz.ntmps32
      go_upto_region 1 with fail
      rw [HJ.out, HW.out]
      have x0 : W.cell? ⟨j, 0, none⟩ = some (.string v) := HB.out.cell 0
      have x1 : W.cell? ⟨j, 1, none⟩ = some (.string typ) := HB.out.cell 1
      have x2 : W.cell? ⟨j, 2, none⟩ = some (.string sub) := HB.out.cell 2
      go_wp2_with fail
      clear x0 x1 x2
      refine (C1.out _).mono ?_
      rintro e w1 ⟨rfl, hb⟩
      have HB1 := Lib.hid (HB.out.below hb)
      have HF1 := Lib.hid (HF.out.trans (hb.mono HF.out.size))
      clear hb
      have x0 : w1.cell? ⟨j, 0, none⟩ = some (.string v) := HB1.out.cell 0
      have x1 : w1.cell? ⟨j, 1, none⟩ = some (.string typ) := HB1.out.cell 1
      have x2 : w1.cell? ⟨j, 2, none⟩ = some (.string sub) := HB1.out.cell 2
      go_wp2_with fail
      clear x0 x1 x2
      refine (C2.out _).mono ?_
      rintro e w2 ⟨rfl, hb⟩
      have x0 : w2.cell? ⟨j, 0, none⟩ = some (.string v) := (HB1.out.below hb).cell 0
      have HF2 := Lib.hid (HF1.out.trans (hb.mono HF1.out.size))
      clear hb
      go_wp2
      go_ret
      exact ⟨rfl, HF2.out⟩
    case false =>
      go_enter Tryz.func32, Tryz.ntmps32
      go_upto_region 1 with fail
      rw [HJ.out, HW.out]
      have x0 : W.cell? ⟨j, 0, none⟩ = some (.string v) := HB.out.cell 0
      have x1 : W.cell? ⟨j, 1, none⟩ = some (.string typ) := HB.out.cell 1
      have x2 : W.cell? ⟨j, 2, none⟩ = some (.string sub) := HB.out.cell 2
      go_wp2_with fail
      clear x0 x1 x2
      refine (C1.out _).mono ?_
      rintro e w1 ⟨rfl, hb⟩
      have HB1 := Lib.hid (HB.out.below hb)
      have HF1 := Lib.hid (HF.out.trans (hb.mono HF.out.size))
      clear hb
      have x0 : w1.cell? ⟨j, 0, none⟩ = some (.string v) := HB1.out.cell 0
      have x1 : w1.cell? ⟨j, 1, none⟩ = some (.string typ) := HB1.out.cell 1
      have x2 : w1.cell? ⟨j, 2, none⟩ = some (.string sub) := HB1.out.cell 2
      go_wp2_with fail
      clear x0 x1 x2
      refine (C2.out _).mono ?_
      rintro e w2 ⟨rfl, hb⟩
      have HB2 := Lib.hid (HB1.out.below hb)
      have HF2 := Lib.hid (HF1.out.trans (hb.mono HF1.out.size))
      clear hb
      have x0 : w2.cell? ⟨j, 0, none⟩ = some (.string v) := HB2.out.cell 0
      have x1 : w2.cell? ⟨j, 1, none⟩ = some (.string typ) := HB2.out.cell 1
      have x2 : w2.cell? ⟨j, 2, none⟩ = some (.string sub) := HB2.out.cell 2
      go_wp2_with fail
      clear x0 x1 x2
      refine (C3.out _).mono ?_
      rintro e w3 ⟨rfl, hb⟩
      have HB3 := Lib.hid (HB2.out.below hb)
      have HF3 := Lib.hid (HF2.out.trans (hb.mono HF2.out.size))
      clear hb
      have x0 : w3.cell? ⟨j, 0, none⟩ = some (.string v) := HB3.out.cell 0
      have x1 : w3.cell? ⟨j, 1, none⟩ = some (.string typ) := HB3.out.cell 1
      have x2 : w3.cell? ⟨j, 2, none⟩ = some (.string sub) := HB3.out.cell 2
      cases q3
      case true =>
        go_wp2
        go_ret
        exact ⟨rfl, HF3.out⟩
      case false =>
        go_wp2_with fail
        clear x0 x1 x2
        refine (C4.out _).mono ?_
        rintro e w4 ⟨rfl, hb⟩
        have x0 : w4.cell? ⟨j, 0, none⟩ = some (.string v) := (HB3.out.below hb).cell 0
        have HF4 := Lib.hid (HF3.out.trans (hb.mono HF3.out.size))
        clear hb
        cases q4
        all_goals
          go_wp2
          go_ret
          exact ⟨rfl, HF4.out⟩

end Go.Proofs.YtfeffdjnjckjaaaGreatDoor.Rg

/- The tokens as the package has them. -/
namespace Go.Proofs.YtfeffdjnjckjaaaGreatDoor.Rg
open Go.RowKit

set_option maxHeartbeats 16000000 in
set_option maxRecDepth 100000 in
theorem implTokens_any (l : List Tk) (hl : l.length ≤ 7500) (A : Option Addr) (c B : Nat) (w : World) (h : Tks w B 46 (.slice A l.length c) l) :
    Calls Tryz.prog 15 #[.slice A l.length c] w (TokPost w 55 l) := by
  have HK := Lib.hid h
  clear h
  go_enter Tryz.func15, Tryz.ntmps15
  go_upto_region 3 with fail
  go_loopw [8, 3] (fun i u wr => ∃ (k : Nat) (Ax : Option Addr) (cx : Nat), i = .int .i64 k ∧ u = .slice Ax k cx ∧ k ≤ l.length ∧ Hid (Tks wr w.heap.size 55 (.slice Ax k cx) (l.take k)) ∧ Hid (Below w.heap.size w wr)) (fun i _ _ => l.length - (intOf i).toNat)
  case atStart => exact ⟨0, none, 0, rfl, rfl, Nat.zero_le _, Lib.hid (Tks.nil _ _ _), Lib.hid (Below.refl _ _)⟩
  case round =>
    obtain ⟨k, Ax, cx, rfl, rfl, hk, HO, HB⟩ := hrel
    by_cases hlt : k < l.length
    · obtain ⟨y, hy⟩ : ∃ y, l[k]? = some y := ⟨_, List.getElem?_eq_getElem hlt⟩
      obtain ⟨g, hA, _, hg, hc0, hc1, hc2⟩ := HK.out.at hy
      have z0 := (HB.out.cell (p := ⟨g, k * 3, none⟩) hg).trans hc0
      have z1 := (HB.out.cell (p := ⟨g, k * 3 + 1, none⟩) hg).trans hc1
      have z2 := (HB.out.cell (p := ⟨g, k * 3 + 2, none⟩) hg).trans hc2
      have HTK : Hid (l.take (k + 1) = l.take k ++ [y]) := Lib.hid (take_snoc l k y hy)
      subst hA
      clear hg hc0 hc1 hc2 hy
      obtain ⟨j, hj⟩ : ∃ j, wr.heap.size = j := ⟨_, rfl⟩
      obtain ⟨W, hW⟩ : ∃ W, wr.alloc (.cells #[.string y.v, .string y.typ, .string y.sub] 46) = W := ⟨_, rfl⟩
      have HF : Hid (Below w.heap.size w W) := by subst hW; exact Lib.hid (HB.out.alloc HB.out.size _)
      have HBX : Hid (Box W j #[.string y.v, .string y.typ, .string y.sub] 46) := by subst hW; subst hj; exact Box.made _ _ _
      have HO2 : Hid (Tks W w.heap.size 55 (.slice Ax k cx) (l.take k)) := by subst hW; exact Lib.hid (HO.out.below ((Below.refl _ _).alloc (Nat.le_refl _) _))
      have HJ := Lib.hid hj
      have HW := Lib.hid hW
      clear hj hW
      obtain ⟨A5, c5, w5, happ5, hk5, hbl5⟩ := push_tk tyE W w.heap.size Ax k cx (l.take k) y (by simp; omega) HO2.out (by simp; omega) HF.out.size
      have HB5 := Lib.hid (hbl5 w _ HF.out (Nat.le_refl _) HF.out.size)
      rw [← HTK.out] at hk5
      have HK5 := Lib.hid hk5
      clear hbl5 hk5
      go_upto_region 5 with fail
      rw [HJ.out, HW.out]
      clear z0 z1 z2 HJ HW
      have x0 : W.cell? ⟨j, 0, none⟩ = some (.string y.v) := HBX.out.cell 0
      have x1 : W.cell? ⟨j, 1, none⟩ = some (.string y.typ) := HBX.out.cell 1
      have x2 : W.cell? ⟨j, 2, none⟩ = some (.string y.sub) := HBX.out.cell 2
      go_wp2_with (at_builtin; refine wpList_append_eq rfl _ _ _ rfl rfl rfl happ5 ?_)
      clear happ5 x0 x1 x2
      go_roundw
      case rel => exact ⟨k + 1, A5, c5, by go_num, rfl, by omega, HK5, HB5⟩
      case measure => simp [intOf]; omega
    · obtain rfl : k = l.length := by omega
      have e : l.take l.length = l := List.take_length
      have HO2 := HO.out
      rw [e] at HO2
      have HO3 := Lib.hid HO2
      clear HO2 e HO
      go_wp2
      go_ret
      exact ⟨Ax, cx, rfl, HB.out, HO3.out⟩

end Go.Proofs.YtfeffdjnjckjaaaGreatDoor.Rg
