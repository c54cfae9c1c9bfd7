/- The plain law, and the tokens of a text. -/
import Derived.Test.YtfeffdjnjckjaaaGreatDoorJTok
import Derived.Test.YtfeffdjnjckjaaaGreatDoorPParse
import Derived.Test.YtfeffdjnjckjaaaGreatDoorJBin
/- The plain law: what is written of a tree that was read is read as that tree. -/
namespace Go.Proofs.YtfeffdjnjckjaaaGreatDoor.Rg
open Go.RowKit

theorem reads_pars (x : Ex) (hx : okX x) (hf : fit 1 0 x) (hl : (prt 1 x).length ≤ 8192) : parsP (bs (prt 1 x)) = some x := by
  have hsz : (bs (prt 1 x)).size = (prt 1 x).length := bs_size _
  have hb := lv_back (7 * (bs (prt 1 x)).size + 7) 1 0 x [] (by omega) (by omega) hx hf (.inl rfl)
  have ht := lv_tot (7 * (bs (prt 1 x)).size + 7) 1 0 (prt 1 x) (by omega) (by omega) (by omega)
  rw [List.append_nil] at hb
  unfold parsP
  rw [if_neg (by omega), bs_list]
  rcases hb with hb | hb
  · exact absurd hb ht
  · rw [hb]
    rfl
theorem pars_good (s : ByteArray) (x : Ex) (hs : s.size ≤ 500) (h : parsP s = some x) (ho : oddX x = false) : okX x ∧ (prt 1 x).length ≤ 7500 ∧ parsP (bs (prt 1 x)) = some x := by
  have hl : s.data.toList.length = s.size := by simp
  have hp := h
  unfold parsP at h
  rw [if_neg (by omega)] at h
  split at h
  · rename_i y r he
    split at h
    · injection h with h
      subst h
      have g := lv_good _ 1 0 s.data.toList r y (by omega) (by omega) (by omega) (by omega) he ho
      have hgl := g.len
      have hlen : (prt 1 y).length ≤ 7500 := by omega
      exact ⟨g.ok, hlen, reads_pars y g.ok g.fit (by omega)⟩
    · cases h
  · cases h
/-- The tree of '1+A2'. -/
def x1A2 : Ex := .bin [43] (.num [49]) (.cell [] 1 2 false false)
theorem ok1A2 : okX x1A2 := by
  unfold x1A2 okX
  refine ⟨by decide, ?_, ?_⟩
  · exact (num_good 0 [49] [] (.num [49]) (by omega) (by decide) rfl).ok
  · unfold okX
    exact ⟨by omega, by omega, by omega, by omega, by simp⟩
theorem fit1A2 : fit 1 0 x1A2 := by
  unfold x1A2
  rw [fit, fit, fit]
  decide
theorem prt1A2 : prt 1 x1A2 = [49, 43, 65, 50] := by
  have h1 : colName 1 = [65] := by
    rw [colName_succ 0, colName_zero]
    rfl
  have h2 : Lib.decDigits 2 = [50] := by
    rw [digits_small (by omega)]
    rfl
  unfold x1A2
  rw [prt_bin, prt, prt]
  unfold cornerT
  rw [h1, h2]
  rfl
theorem pars1A2 : parsP (bs [49, 43, 65, 50]) = some x1A2 := by
  rw [← prt1A2]
  exact reads_pars x1A2 ok1A2 fit1A2 (by rw [prt1A2]; decide)

end Go.Proofs.YtfeffdjnjckjaaaGreatDoor.Rg

/- The tokens of a formula's text, as the law makes them. -/
namespace Go.Proofs.YtfeffdjnjckjaaaGreatDoor.Rg
open Go.RowKit

set_option maxHeartbeats 16000000 in
set_option maxRecDepth 100000 in
theorem Tokens_any (x : Ex) (v : Ev) (S : Nat → Prop) (w : World) (h : IsEx w S x v) (hx : okX x) (hl : (prt 1 x).length ≤ 8000) :
    Calls Tryz.prog 13 #[v.val] w (TokPost w 45 (tok 1 x)) := by
  obtain ⟨j, hj⟩ : ∃ j, w.heap.size = j := ⟨_, rfl⟩
  obtain ⟨W, hW⟩ : ∃ W, w.alloc (.cells (exCells v) 25) = W := ⟨_, rfl⟩
  have HF : Hid (Below w.heap.size w W) := by subst hW; exact Lib.hid ((Below.refl _ _).alloc (Nat.le_refl _) _)
  have HB : Hid (Box W j (exCells v) 25) := by subst hW; subst hj; exact Box.made _ _ _
  have HC := Lib.hid (tokOf_all x v S W (h.below HF.out) hx hl)
  have HJ := Lib.hid hj
  have HW := Lib.hid hW
  clear hj hW h hx hl
  obtain ⟨l, hl⟩ : ∃ l, tok 1 x = l := ⟨_, rfl⟩
  rw [hl] at HC ⊢
  clear hl
  unfold Ev.val at HC ⊢
  unfold exCells at HW
  go_enter Tryz.func13, Tryz.ntmps13
  go_upto_region 1 with fail
  rw [HJ.out, HW.out]
  clear HJ HW
  obtain ⟨x0, x1, x2, x3, x4, x5, x6, x7, x8, x9, x10, x11, x12, x13⟩ := HB.out.ex
  go_wp2_with fail
  clear x0 x1 x2 x3 x4 x5 x6 x7 x8 x9 x10 x11 x12 x13
  refine HC.out.mono ?_
  rintro e w2 ⟨A, c, rfl, hb, hk⟩
  have HR := Lib.hid (HF.out.trans (hb.mono HF.out.size))
  have HK := Lib.hid (hk.lower HF.out.size)
  clear hb hk
  go_wp2
  go_ret
  exact ⟨A, c, rfl, HR.out, HK.out⟩

/-- A token is appended to a row of tokens of another type. -/
theorem push_tk {t e : TypeId} (ty : TokTy t e) (w : World) (B : Nat) (A : Option Addr) (n c : Nat) (a : List Tk) (k : Tk) (hn : n = a.length) (ha : Tks w B e (.slice A n c) a) (hl : a.length ≤ 9000) (hB : B ≤ w.heap.size) :
    ∃ A' c' w', (Builtin.append_ #[t, t] t #[.slice A n c, .slice (some ⟨w.heap.size, 0, none⟩) 1 1]).run Tryz.prog (w.alloc (.cells #[.string k.v, .string k.typ, .string k.sub] e)) = .ok (.slice A' (n + 1) c') w' ∧ Tks w' B e (.slice A' (n + 1) c') (a ++ [k]) ∧ ∀ w0 C, Below C w0 w → C ≤ B → C ≤ w.heap.size → Below C w0 w' := by
  have h2 : Below w.heap.size w (w.alloc (.cells #[.string k.v, .string k.typ, .string k.sub] e)) := (Below.refl _ _).alloc (Nat.le_refl _) _
  obtain ⟨A3, c3, w3, happ3, hk3, hg3, _⟩ := join_tks ty (w.alloc (.cells #[.string k.v, .string k.typ, .string k.sub] e)) B w.heap.size _ _ a [k] (ha.below h2) (Tks.made w k e) (by simp; omega) (Nat.le_trans hB h2.size)
  rw [List.length_append] at happ3 hk3
  subst hn
  refine ⟨A3, c3, w3, happ3, hk3, fun w0 C hb hC hCw => ?_⟩
  exact below_grew (hb.trans (h2.mono hCw)) hg3 (fun k hk => Nat.le_trans hC ((ha.below h2).lt k hk).1) (Nat.le_trans hCw h2.size)

set_option maxHeartbeats 16000000 in
set_option maxRecDepth 100000 in
theorem gridTokens_any (s : ByteArray) (x : Ex) (hp : parsP s = some x) (hx : okX x) (hl : (prt 1 x).length ≤ 7500) (w : World) :
    Calls Tryz.prog 7 #[.string s] w (TokPost w 46 (tok 1 x)) := by
  have HP : Hid (Calls Tryz.prog 4 #[.string s] w fun e w' => ∃ v : Ev, e = .returned (.tuple #[v.val, .bool true]) ∧ IsEx w' (From w.heap.size) x v ∧ Below w.heap.size w w') := by
    refine Lib.hid ((parse_any s w).mono ?_)
    rintro e w' ⟨hb, hm⟩
    rw [hp] at hm
    obtain ⟨v, h1, h2⟩ := hm
    exact ⟨v, h1, h2, hb⟩
  have HTK := Lib.hid (fun v S w h => Tokens_any x v S w h hx (Nat.le_trans hl (by omega)))
  have hll := (tok_len x 1 hx).1
  obtain ⟨l, hL⟩ : ∃ l, tok 1 x = l := ⟨_, rfl⟩
  rw [hL] at HTK hll ⊢
  have hl9 : l.length ≤ 7500 := Nat.le_trans hll hl
  clear hp hx hl hll hL
  go_enter Tryz.func7, Tryz.ntmps7
  go_wp2_with fail
  refine HP.out.mono ?_
  rintro e w1 ⟨v, rfl, hvx, hb1⟩
  obtain ⟨j, hj⟩ : ∃ j, w1.heap.size = j := ⟨_, rfl⟩
  obtain ⟨W, hW⟩ : ∃ W, w1.alloc (.cells (exCells v) 25) = W := ⟨_, rfl⟩
  have HF : Hid (Below w.heap.size w W) := by subst hW; exact Lib.hid (hb1.alloc hb1.size _)
  have HB : Hid (Box W j (exCells v) 25) := by subst hW; subst hj; exact Box.made _ _ _
  have HC := Lib.hid (HTK.out v _ W (hvx.below (by subst hW; exact (Below.refl _ _).alloc (Nat.le_refl _) _)))
  have HJ := Lib.hid hj
  have HW := Lib.hid hW
  clear hj hW HTK HP hvx hb1
  unfold Ev.val at HC ⊢
  unfold exCells at HW
  go_upto_region 2 with fail
  rw [HJ.out, HW.out]
  clear HJ HW
  obtain ⟨x0, x1, x2, x3, x4, x5, x6, x7, x8, x9, x10, x11, x12, x13⟩ := HB.out.ex
  go_wp2_with fail
  clear x0 x1 x2 x3 x4 x5 x6 x7 x8 x9 x10 x11 x12 x13
  refine HC.out.mono ?_
  rintro e w3 ⟨A, c, rfl, hb, hk⟩
  have HF3 := Lib.hid (HF.out.trans (hb.mono HF.out.size))
  have HK3 := Lib.hid hk
  clear hb hk HC HB HF
  go_upto_region 7 with fail
  go_loopw [7, 5] (fun i u wr => ∃ (k : Nat) (Ax : Option Addr) (cx : Nat), i = .int .i64 k ∧ u = .slice Ax k cx ∧ k ≤ l.length ∧ Hid (Tks wr w3.heap.size 46 (.slice Ax k cx) (l.take k)) ∧ Hid (Below w3.heap.size w3 wr)) (fun i _ _ => l.length - (intOf i).toNat)
  case atStart => exact ⟨0, none, 0, rfl, rfl, Nat.zero_le _, Lib.hid (Tks.nil _ _ _), Lib.hid (Below.refl _ _)⟩
  case round =>
    obtain ⟨k, Ax, cx, rfl, rfl, hk, HO, HB⟩ := hrel
    by_cases hlt : k < l.length
    · obtain ⟨y, hy⟩ : ∃ y, l[k]? = some y := ⟨_, List.getElem?_eq_getElem hlt⟩
      obtain ⟨g, hA, _, hg, hc0, hc1, hc2⟩ := HK3.out.at hy
      have HG := Lib.hid hg
      have H0 := Lib.hid hc0
      have H1 := Lib.hid hc1
      have H2 := Lib.hid hc2
      have HTK : Hid (l.take (k + 1) = l.take k ++ [y]) := Lib.hid (take_snoc l k y hy)
      subst hA
      have hk0 : (0 : Int) ≤ (k : Int) := by omega
      have hk9 : (k : Int) < (l.length : Int) := by omega
      clear hg hc0 hc1 hc2 hy
      go_wp2_with fail
      have hS0 : (fun w' : World => Below w3.heap.size w3 w') wr.drew := HB.out.drew
      refine wp_region_perml (List.range 20) [true, true, true, true, true, true, true, true, true, true, true, true, true, true, true, true, false, false, false, false] (S := fun w' => Below w3.heap.size w3 w') (by kernel_rfl) (by kernel_rfl) (by kernel_rfl) (fun d _ _ _ _ h => by cases d <;> exact h) hS0 ?_
      simp only [List.range, List.range.loop, List.map_cons, List.map_nil, List.getD_cons_zero, List.getD_cons_succ]
      iterate 16
        refine seqT_take (v := ?_) (by rfl) ?_ ?_
        rotate_left
        · intro w' hSw
          have z0 := (hSw.cell (p := ⟨g, k * 3, none⟩) HG.out).trans H0.out
          have z1 := (hSw.cell (p := ⟨g, k * 3 + 1, none⟩) HG.out).trans H1.out
          have z2 := (hSw.cell (p := ⟨g, k * 3 + 2, none⟩) HG.out).trans H2.out
          clear hSw
          go_simp
          try (with_reducible rfl)
        try simp only [Act.put, List.setIfInBounds_toArray, List.set_cons_zero, List.set_cons_succ]
      refine seqT_solo (by rfl) (fun K hK => ?_)
      go_simp
      refine hK.out _ _ (fun _ => hS0) ?_
      clear hK K
      try simp only [Act.put, List.setIfInBounds_toArray, List.set_cons_zero, List.set_cons_succ]
      refine seqT_solo (by rfl) (fun K hK => ?_)
      go_simp
      refine hK.out _ _ (fun _ => hS0.alloc hS0.size _) ?_
      clear hK K
      try simp only [Act.put, List.setIfInBounds_toArray, List.set_cons_zero, List.set_cons_succ]
      refine seqT_solo (by rfl) (fun K hK => ?_)
      obtain ⟨A5, c5, w5, happ5, hk5, hbl5⟩ := push_tk tyI wr.drew w3.heap.size Ax k cx (l.take k) y (by simp; omega) (HO.out.below ((Below.refl wr.heap.size wr).drew)) (by simp; omega) HB.out.size
      have hb5 : Below w3.heap.size w3 w5 := hbl5 w3 _ HB.out.drew (Nat.le_refl _) HB.out.size
      rw [← HTK.out] at hk5
      have HK5 := Lib.hid hk5
      have HB5 := Lib.hid hb5
      refine wp_append _ _ _ (by rfl) (by rfl) (by rfl) happ5 ?_
      refine hK.out _ _ (fun _ => HB5.out) ?_
      clear hK K happ5 hbl5 hk5 hb5
      try simp only [Act.put, List.setIfInBounds_toArray, List.set_cons_zero, List.set_cons_succ]
      refine seqT_solo (by rfl) (fun K hK => ?_)
      go_simp
      refine hK.out _ _ (fun h => absurd rfl h) ?_
      clear hK K
      try simp only [Act.put, List.setIfInBounds_toArray, List.set_cons_zero, List.set_cons_succ]
      refine seqT_done ?_
      clear hS0
      go_wp2
      go_roundw
      case rel => exact ⟨k + 1, A5, c5, by go_num, rfl, by omega, HK5, HB5⟩
      case measure => simp [intOf]; omega
    · obtain rfl : k = l.length := by omega
      have e : l.take l.length = l := List.take_length
      have HO2 := HO.out
      rw [e] at HO2
      have HO3 := Lib.hid HO2
      clear HO2 e HO
      have hlt2 : ¬ ((l.length : Int) < (l.length : Int)) := by omega
      go_wp2
      go_ret
      have hb := HF3.out.trans (HB.out.mono HF3.out.size)
      exact ⟨Ax, cx, rfl, hb, HO3.out.lower HF3.out.size⟩

end Go.Proofs.YtfeffdjnjckjaaaGreatDoor.Rg
