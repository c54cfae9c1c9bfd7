/- Which formulas the statement leaves out: refOdd. -/
import Derived.Test.YtfeffdjnjckjaaaGreatDoorQBins
import Derived.Test.YtfeffdjnjckjaaaGreatDoorJList
import Derived.Test.YtfeffdjnjckjaaaGreatDoorJSame
namespace Go.Proofs.YtfeffdjnjckjaaaGreatDoor.Rg
open Go.RowKit

/-- The parts of a tree. -/
def kidsOf : Ex → List Ex
  | .call _ kids => kids
  | .bin _ a b => [a, b]
  | _ => []
theorem odd_kids (x : Ex) (h : x ≠ .odd) : oddX x = oddL (kidsOf x) := by
  cases x with
  | odd => exact absurd rfl h
  | call t kids => rw [oddX]; rfl
  | bin o a b =>
    rw [oddX]
    show _ = oddL [a, b]
    rw [oddL, oddL, oddL]
    simp
  | _ => rw [oddX]; show _ = oddL []; rw [oddL]
/-- The words that refOdd looks for. -/
def oddWords : List (List UInt8) := [[116, 101, 120, 116], [97, 114, 114, 97, 121], [110, 101, 103], [112, 108, 117, 115], [112, 101, 114, 99, 101, 110, 116], [110, 111, 110, 101]]
theorem isEx_plain (w : World) (S : Nat → Prop) (x : Ex) (v : Ev) (h : IsEx w S x v) (hb : binX x) (hx : x ≠ .odd) :
    v.op.data.toList ∉ oddWords ∧ ∃ vs, v.n = (kidsOf x).length ∧ (kidsOf x).length ≤ 10000 ∧ RowOf w S v.A vs ∧ AllEx w S (kidsOf x) vs := by
  cases x with
  | odd => exact absurd rfl hx
  | num t => rw [show v = _ from h]; exact ⟨(by decide : sNum.data.toList ∉ oddWords), [], rfl, by simp [kidsOf], fun q => absurd rfl q, rfl⟩
  | truth b => rw [show v = _ from h]; exact ⟨(by decide : sTruth.data.toList ∉ oddWords), [], rfl, by simp [kidsOf], fun q => absurd rfl q, rfl⟩
  | err t => rw [show v = _ from h]; exact ⟨(by decide : sError.data.toList ∉ oddWords), [], rfl, by simp [kidsOf], fun q => absurd rfl q, rfl⟩
  | name t => rw [show v = _ from h]; exact ⟨(by decide : sName.data.toList ∉ oddWords), [], rfl, by simp [kidsOf], fun q => absurd rfl q, rfl⟩
  | cell s c r a b => rw [show v = _ from h]; exact ⟨(by decide : sCell.data.toList ∉ oddWords), [], rfl, by simp [kidsOf], fun q => absurd rfl q, rfl⟩
  | area s c r c2 r2 a b a2 b2 => rw [show v = _ from h]; exact ⟨(by decide : sArea.data.toList ∉ oddWords), [], rfl, by simp [kidsOf], fun q => absurd rfl q, rfl⟩
  | call t kids =>
    obtain ⟨A, k, vs, h1, h2, h3⟩ := h
    unfold binX at hb
    rw [h1]
    exact ⟨(by decide : sCall.data.toList ∉ oddWords), vs, rfl, hb.1, h2, h3⟩
  | bin o a b =>
    obtain ⟨A, va, vb, h1, h2, h3, h4⟩ := h
    unfold binX at hb
    rw [h1]
    refine ⟨?_, [va, vb], rfl, by simp [kidsOf], h2, ⟨va, [vb], rfl, h3, ⟨vb, [], rfl, h4, rfl⟩⟩⟩
    show o ∉ oddWords
    have ho := hb.1
    simp only [opsL, List.mem_cons, List.not_mem_nil, or_false] at ho
    rcases ho with rfl | rfl | rfl | rfl | rfl | rfl | rfl | rfl | rfl | rfl | rfl | rfl <;> decide
theorem binL_get : ∀ (l : List Ex) (i : Nat) (x : Ex), binL l → l[i]? = some x → binX x
  | [], i, x, _, hi => by simp at hi
  | y :: l, 0, x, h, hi => by
    unfold binL at h
    simp only [List.getElem?_cons_zero, Option.some.injEq] at hi
    subst hi
    exact h.1
  | y :: l, i + 1, x, h, hi => by
    unfold binL at h
    exact binL_get l i x h.2 (by simpa using hi)
theorem bin_kids (x : Ex) (h : binX x) : binL (kidsOf x) := by
  cases x with
  | call t kids => unfold binX at h; exact h.2
  | bin o a b =>
    unfold binX at h
    show binL [a, b]
    unfold binL
    refine ⟨h.2.1, ?_⟩
    unfold binL
    exact ⟨h.2.2, by unfold binL; trivial⟩
  | _ => show binL []; unfold binL; trivial
/-- What is asked of refOdd at a tree. -/
def RefOf (x : Ex) : Prop := ∀ (v : Ev) (S : Nat → Prop) (w : World), IsEx w S x v → binX x → Calls Tryz.prog 5 #[v.val] w fun e w' => e = .returned (.bool (oddX x)) ∧ Below w.heap.size w w'
theorem odd_take (l : List Ex) (k : Nat) (x : Ex) (h : l[k]? = some x) : oddL (l.take (k + 1)) = (oddL (l.take k) || oddX x) := by
  rw [take_snoc l k x h, oddL_app]
  congr 1
  rw [oddL, oddL]
  simp
theorem odd_more (l : List Ex) (k : Nat) (h : oddL (l.take k) = true) : oddL l = true := by
  rw [← List.take_append_drop k l, oddL_app, h]
  rfl

set_option maxHeartbeats 16000000 in
set_option maxRecDepth 100000 in
theorem refOf_odd : RefOf .odd := by
  intro v S w hx _
  have e : oddX .odd = true := by rw [oddX]
  rw [e]
  have hx : v.op ∈ oddOps := hx
  obtain ⟨j, hj⟩ : ∃ j, w.heap.size = j := ⟨_, rfl⟩
  obtain ⟨W, hW⟩ : ∃ W, w.alloc (.cells (exCells v) 25) = W := ⟨_, rfl⟩
  have HF : Hid (Below w.heap.size w W) := by subst hW; exact Lib.hid ((Below.refl _ _).alloc (Nat.le_refl _) _)
  have HB : Hid (Box W j (exCells v) 25) := by subst hW; subst hj; exact Box.made _ _ _
  have HJ := Lib.hid hj
  have HW := Lib.hid hW
  clear hj hW e
  unfold Ev.val
  unfold exCells at HW
  simp only [oddOps, List.mem_cons, List.not_mem_nil, or_false] at hx
  rcases hx with hx | hx | hx | hx | hx | hx
  all_goals
    have HX := Lib.hid hx
    clear hx
    go_enter Tryz.func5, Tryz.ntmps5
    go_upto_region 1 with fail
    rw [HJ.out, HW.out]
    have x0 := HB.out.ex.c0
    rw [HX.out] at x0
    first
      | unfold sText at x0
      | unfold sArray at x0
      | unfold sNeg at x0
      | unfold sPlus at x0
      | unfold sPercent at x0
      | unfold sNone at x0
    go_wp2
    go_ret
    exact ⟨rfl, HF.out⟩

set_option maxHeartbeats 16000000 in
set_option maxRecDepth 100000 in
theorem refOf_plain (x : Ex) (hx : x ≠ .odd) (hT : ∀ y ∈ kidsOf x, RefOf y) : RefOf x := by
  intro v S w h hb
  obtain ⟨hop, vs, hn, hk8, hrow, hall⟩ := isEx_plain w S x v h hb hx
  rw [odd_kids x hx]
  have HBK := Lib.hid (bin_kids x hb)
  obtain ⟨kids, hkids⟩ : ∃ kids, kidsOf x = kids := ⟨_, rfl⟩
  rw [hkids] at hT hn hk8 hall HBK ⊢
  have HN := Lib.hid hn
  have HT := Lib.hid hT
  have HROW := Lib.hid hrow
  have HALL := Lib.hid hall
  simp only [oddWords, List.mem_cons, List.not_mem_nil, or_false, not_or] at hop
  obtain ⟨o1, o2, o3, o4, o5, o6⟩ := hop
  have g1 := no_list o1
  have g2 := no_list o2
  have g3 := no_list o3
  have g4 := no_list o4
  have g5 := no_list o5
  have g6 := no_list o6
  obtain ⟨j, hj⟩ : ∃ j, w.heap.size = j := ⟨_, rfl⟩
  obtain ⟨W, hW⟩ : ∃ W, w.alloc (.cells (exCells v) 25) = W := ⟨_, rfl⟩
  have HF : Hid (Below w.heap.size w W) := by subst hW; exact Lib.hid ((Below.refl _ _).alloc (Nat.le_refl _) _)
  have HB : Hid (Box W j (exCells v) 25) := by subst hW; subst hj; exact Box.made _ _ _
  have HJ := Lib.hid hj
  have HW := Lib.hid hW
  clear hj hW hkids hx hT h hb hn hrow hall o1 o2 o3 o4 o5 o6
  unfold Ev.val
  unfold exCells at HW
  obtain ⟨res, hres⟩ : ∃ res, oddL kids = res := ⟨_, rfl⟩
  rw [hres]
  have HRES := Lib.hid hres
  clear hres
  go_enter Tryz.func5, Tryz.ntmps5
  go_upto_region 1 with fail
  rw [HJ.out, HW.out]
  clear HJ HW
  have x0 := HB.out.ex.c0
  go_upto_region 10 with fail
  clear x0
  go_loopw [3] (fun i wr => ∃ k : Nat, i = .int .i64 k ∧ k ≤ kids.length ∧ Hid (oddL (kids.take k) = false) ∧ Hid (Below W.heap.size W wr)) (fun i _ => kids.length - (intOf i).toNat)
  case atStart => exact ⟨0, rfl, Nat.zero_le _, Lib.hid (by show oddL [] = false; rw [oddL]), Lib.hid (Below.refl _ _)⟩
  case round =>
    obtain ⟨k, rfl, hk, HO, HBW⟩ := hrel
    have x13 := (HB.out.below HBW.out).ex.c13
    rw [HN.out] at x13
    by_cases hlt : k < kids.length
    · obtain ⟨y, hy⟩ : ∃ y, kids[k]? = some y := ⟨_, List.getElem?_eq_getElem hlt⟩
      obtain ⟨u, hu, hux⟩ := AllEx.get kids vs k y HALL.out hy
      obtain ⟨g, hA, hg, hs⟩ := RowOf.see HROW.out k u hu
      have hb1 : Below w.heap.size w wr := HF.out.trans (HBW.out.mono HF.out.size)
      have hs2 := hs.below hb1 hg
      obtain ⟨y0, y1, y2, y3, y4, y5, y6, y7, y8, y9, y10, y11, y12, y13⟩ := hs2
      rw [hA] at x13
      have HC := Lib.hid (HT.out y (List.mem_of_getElem? hy) u S wr (hux.below hb1) (binL_get kids k y HBK.out hy))
      have HY := Lib.hid (odd_take kids k y hy)
      have HMORE := Lib.hid (odd_more kids (k + 1))
      obtain ⟨q, hq⟩ : ∃ q, oddX y = q := ⟨_, rfl⟩
      rw [hq] at HC HY
      rw [HO.out] at HY
      have k0 : (0 : Int) ≤ (k : Int) := by omega
      have k1 : (k : Int) < (kids.length : Int) := by omega
      clear hs hu hux hg hA hb1 hq hy
      unfold Ev.val at HC
      go_wp2_with fail
      clear y0 y1 y2 y3 y4 y5 y6 y7 y8 y9 y10 y11 y12 y13 x13
      refine HC.out.mono ?_
      rintro e w2 ⟨rfl, hb⟩
      have HR := Lib.hid (HBW.out.trans (hb.mono HBW.out.size))
      have HRW := Lib.hid (show Below w.heap.size w w2 from HF.out.trans (HR.out.mono HF.out.size))
      clear hb HC
      cases q with
      | true =>
        have HT1 : Hid (res = true) := Lib.hid (by rw [← HRES.out]; exact HMORE.out HY.out)
        go_wp2
        go_ret
        exact ⟨by rw [HT1.out]; rfl, HRW.out⟩
      | false =>
        go_wp2
        go_roundw
        case rel => exact ⟨k + 1, by go_num, by omega, Lib.hid HY.out, HR⟩
        case measure => simp [intOf]; omega
    · obtain rfl : k = kids.length := by omega
      have HE : Hid (res = false) := Lib.hid (by
        have := HO.out
        rw [List.take_length] at this
        rw [← HRES.out]
        exact this)
      have HRW := Lib.hid (show Below w.heap.size w wr from HF.out.trans (HBW.out.mono HF.out.size))
      go_wp2
      go_ret
      exact ⟨by rw [HE.out]; rfl, HRW.out⟩

mutual
theorem refOf_all : ∀ x : Ex, RefOf x
  | .odd => refOf_odd
  | .num t => refOf_plain _ (fun h => by cases h) (fun y hy => by cases hy)
  | .truth t => refOf_plain _ (fun h => by cases h) (fun y hy => by cases hy)
  | .err t => refOf_plain _ (fun h => by cases h) (fun y hy => by cases hy)
  | .name t => refOf_plain _ (fun h => by cases h) (fun y hy => by cases hy)
  | .cell _ _ _ _ _ => refOf_plain _ (fun h => by cases h) (fun y hy => by cases hy)
  | .area _ _ _ _ _ _ _ _ _ => refOf_plain _ (fun h => by cases h) (fun y hy => by cases hy)
  | .call t kids => refOf_plain _ (fun h => by cases h) (refOf_list kids)
  | .bin o a b => refOf_plain _ (fun h => by cases h) (fun y hy => by
    have hy : y = a ∨ y = b := by simpa [kidsOf] using hy
    rcases hy with hy | hy
    · rw [hy]
      exact refOf_all a
    · rw [hy]
      exact refOf_all b)
theorem refOf_list : ∀ l : List Ex, ∀ y ∈ l, RefOf y
  | [], y, h => by cases h
  | x :: l, y, h => by
    rcases List.mem_cons.1 h with h | h
    · rw [h]
      exact refOf_all x
    · exact refOf_list l y h
end

end Go.Proofs.YtfeffdjnjckjaaaGreatDoor.Rg
