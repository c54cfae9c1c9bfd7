/- The text of tokens; equal rows of tokens. -/
import Derived.Test.YtfeffdjnjckjaaaGreatDoorJImpl
import Derived.Laws.StructEq
import Derived.BigQuiet
/- The text of tokens. -/
namespace Go.Proofs.YtfeffdjnjckjaaaGreatDoor.Rg
open Go.RowKit

theorem isK_true {a b : List UInt8} {k : Tk} : isK a b k = true ↔ k.typ.data.toList = a ∧ k.sub.data.toList = b := by
  unfold isK
  rw [Lib.toList_data, Lib.toList_data]
  simp
theorem trT_par (k : Tk) : trT k = if par k = [] then ⟨#[]⟩ else k.v ++ bs (par k) := by
  have eF : tFunction.data.toList = [70, 117, 110, 99, 116, 105, 111, 110] := rfl
  have eS : tSubexpr.data.toList = [83, 117, 98, 101, 120, 112, 114, 101, 115, 115, 105, 111, 110] := rfl
  have eT : tStart.data.toList = [83, 116, 97, 114, 116] := rfl
  have eP : tStop.data.toList = [83, 116, 111, 112] := rfl
  unfold trT par
  simp only [Bool.or_eq_true, isK_true]
  rw [eF, eS, eT, eP]
  generalize k.typ.data.toList = T
  generalize k.sub.data.toList = U
  by_cases h1 : T = [70, 117, 110, 99, 116, 105, 111, 110]
  · subst h1
    by_cases h3 : U = [83, 116, 97, 114, 116]
    · subst h3
      simp [bs]
    · by_cases h4 : U = [83, 116, 111, 112]
      · subst h4
        simp [bs]
      · simp [h3, h4]
  · by_cases h2 : T = [83, 117, 98, 101, 120, 112, 114, 101, 115, 115, 105, 111, 110]
    · subst h2
      by_cases h3 : U = [83, 116, 97, 114, 116]
      · subst h3
        simp [bs]
      · by_cases h4 : U = [83, 116, 111, 112]
        · subst h4
          simp [bs]
        · simp [h3, h4]
    · simp [h1, h2]
/-- No token is a string. -/
def noText (l : List Tk) : Prop := ∀ y ∈ l, isK [79, 112, 101, 114, 97, 110, 100] [84, 101, 120, 116] y = false
theorem noText_app {a b : List Tk} (ha : noText a) (hb : noText b) : noText (a ++ b) := fun y hy => by
  rcases List.mem_append.1 hy with h | h
  · exact ha y h
  · exact hb y h
theorem noText_cons {k : Tk} {b : List Tk} (ha : isK [79, 112, 101, 114, 97, 110, 100] [84, 101, 120, 116] k = false) (hb : noText b) : noText (k :: b) := fun y hy => by
  rcases List.mem_cons.1 hy with h | h
  · rw [h]
    exact ha
  · exact hb y h
theorem noText_nil : noText [] := fun y hy => by cases hy
theorem isK_no {a b : List UInt8} {k : Tk} (h : ¬ (k.typ.data.toList = a ∧ k.sub.data.toList = b)) : isK a b k = false := by
  cases q : isK a b k with
  | false => rfl
  | true => exact absurd (isK_true.1 q) h
theorem opd_no (t : List UInt8) (s : ByteArray) (h : s.data.toList ≠ [84, 101, 120, 116]) : noText [kOpd t s] := noText_cons (isK_no fun q => h q.2) noText_nil
theorem op_no (o : List UInt8) : isK [79, 112, 101, 114, 97, 110, 100] [84, 101, 120, 116] (kOp o) = false := isK_no fun q => absurd q.1 (by
  show ¬ tInfix.data.toList = _
  decide)
theorem fun_no (t : List UInt8) : isK [79, 112, 101, 114, 97, 110, 100] [84, 101, 120, 116] (kFun t) = false := isK_no fun q => absurd q.1 (by
  show ¬ tFunction.data.toList = _
  decide)
mutual
theorem tok_no : ∀ (x : Ex) (n : Nat), noText (tok n x)
  | .num t, n => by rw [tok]; exact opd_no _ _ (by decide)
  | .truth b, n => by rw [tok]; exact opd_no _ _ (by decide)
  | .err t, n => by rw [tok]; exact opd_no _ _ (by decide)
  | .name t, n => by rw [tok]; exact opd_no _ _ (by decide)
  | .cell _ _ _ _ _, n => by rw [tok]; exact opd_no _ _ (by decide)
  | .area _ _ _ _ _ _ _ _ _, n => by rw [tok]; exact opd_no _ _ (by decide)
  | .call t kids, n => by
    rw [tok]
    refine noText_cons (fun_no t) (noText_app ?_ (noText_cons (isK_no (by decide)) noText_nil))
    exact fun y hy => tokM_no kids y (List.mem_of_mem_tail hy)
  | .bin o x y, n => by
    have hx := tok_no x (lev o)
    have hy := tok_no y (lev o + 1)
    rw [tok_bin]
    split
    · exact noText_cons (isK_no (by decide)) (noText_app hx (noText_cons (op_no o) (noText_app hy (noText_cons (isK_no (by decide)) noText_nil))))
    · exact noText_app hx (noText_cons (op_no o) hy)
  | .odd, n => by rw [tok]; exact noText_nil
theorem tokM_no : ∀ l : List Ex, noText (tokM l)
  | [] => by rw [tokM]; exact noText_nil
  | x :: l => by
    rw [tokM]
    exact noText_cons (isK_no (by decide)) (noText_app (tok_no x 1) (tokM_no l))
end
theorem text_take (l : List Tk) (k : Nat) : ((l.take k).flatMap tkT).length ≤ (l.flatMap tkT).length := by
  conv => rhs; rw [← List.take_append_drop k l, List.flatMap_append]
  simp

set_option maxHeartbeats 16000000 in
set_option maxRecDepth 100000 in
theorem formulaText_any (l : List Tk) (hl : l.length ≤ 7500) (ht : (l.flatMap tkT).length ≤ 7500) (hno : noText l) (A : Option Addr) (c B : Nat) (w : World) (h : Tks w B 55 (.slice A l.length c) l) :
    Calls Tryz.prog 21 #[.slice A l.length c] w fun e w' => e = .returned (.string (bs (l.flatMap tkT))) ∧ Below w.heap.size w w' := by
  have HK := Lib.hid h
  have HNO := Lib.hid hno
  have HT := Lib.hid ht
  clear h hno ht
  go_enter Tryz.func21, Tryz.ntmps21
  go_upto_region 3 with fail
  go_loopw [9, 3] (fun i u wr => ∃ (k : Nat) (T : ByteArray), i = .int .i64 k ∧ u = .string T ∧ k ≤ l.length ∧ Hid (T = bs ((l.take k).flatMap tkT)) ∧ Hid (Below w.heap.size w wr)) (fun i _ _ => l.length - (intOf i).toNat)
  case atStart => exact ⟨0, ⟨#[]⟩, rfl, rfl, Nat.zero_le _, Lib.hid rfl, Lib.hid (Below.refl _ _)⟩
  case round =>
    obtain ⟨k, T, rfl, rfl, hk, HE, HB⟩ := hrel
    by_cases hlt : k < l.length
    · obtain ⟨y, hy⟩ : ∃ y, l[k]? = some y := ⟨_, List.getElem?_eq_getElem hlt⟩
      obtain ⟨g, hA, _, hg, hc0, hc1, hc2⟩ := HK.out.at hy
      have z0 := (HB.out.cell (p := ⟨g, k * 3, none⟩) hg).trans hc0
      have z1 := (HB.out.cell (p := ⟨g, k * 3 + 1, none⟩) hg).trans hc1
      have z2 := (HB.out.cell (p := ⟨g, k * 3 + 2, none⟩) hg).trans hc2
      have hfl : (l.take (k + 1)).flatMap tkT = (l.take k).flatMap tkT ++ tkT y := by
        rw [take_snoc l k y hy, List.flatMap_append]
        simp
      have HFL := Lib.hid hfl
      have hmy := HNO.out y (List.mem_of_getElem? hy)
      have hlen1 := text_take l (k + 1)
      rw [hfl, List.length_append] at hlen1
      have hTs : T.size = ((l.take k).flatMap tkT).length := by rw [HE.out, bs_size]
      have hTs2 : T.size ≤ 7500 := by have := HT.out; omega
      have htk : (tkT y).length ≤ 7500 := by have := HT.out; omega
      have hys : y.v.size ≤ 7500 := by
        have e : (tkT y).length = y.v.data.toList.length + (par y).length := by unfold tkT; rw [List.length_append]
        have e2 : y.v.data.toList.length = y.v.size := by simp
        omega
      have hbt : bs (tkT y) = y.v ++ bs (par y) := by
        unfold tkT
        rw [← bs_app, bs_of]
      have hps : (trT y).size ≤ 7500 := by
        rw [trT_par]
        split
        · decide
        · rw [← hbt, bs_size]
          exact htk
      subst hA
      clear hg hc0 hc1 hc2 hy hlen1 hTs htk hfl
      obtain ⟨j, hj⟩ : ∃ j, wr.heap.size = j := ⟨_, rfl⟩
      obtain ⟨W, hW⟩ : ∃ W, wr.alloc (.cells #[.string y.v, .string y.typ, .string y.sub] 55) = W := ⟨_, rfl⟩
      have HF : Hid (Below w.heap.size w W) := by subst hW; exact Lib.hid (HB.out.alloc HB.out.size _)
      have HBX : Hid (Box W j #[.string y.v, .string y.typ, .string y.sub] 55) := by subst hW; subst hj; exact Box.made _ _ _
      have HPA := Lib.hid (fun w => paren_any y (by omega) w)
      unfold Tk.val at HPA
      have HJ := Lib.hid hj
      have HW := Lib.hid hW
      clear hj hW
      by_cases hp : par y = []
      · have hP : trT y = ⟨#[]⟩ := by rw [trT_par, if_pos hp]
        rw [hP] at HPA
        have HV : Hid (bs ((l.take (k + 1)).flatMap tkT) = T ++ y.v) := Lib.hid (by
          rw [HFL.out, ← bs_app, hbt, hp, HE.out]
          have e0 : y.v ++ bs [] = y.v := by
            apply ByteArray.ext
            simp [bs]
          rw [e0])
        unfold isK at hmy
        clear hP hbt hp hps
        have ra : ∀ w, (Op.stringOp .add T y.v).run Tryz.prog w = .ok (.string (T ++ y.v)) w := fun w => run_string_add_sum _ _ _ (by omega)
        go_upto_region 5 with fail
        rw [HJ.out, HW.out]
        clear z0 z1 z2 HJ HW
        have x0 : W.cell? ⟨j, 0, none⟩ = some (.string y.v) := HBX.out.cell 0
        have x1 : W.cell? ⟨j, 1, none⟩ = some (.string y.typ) := HBX.out.cell 1
        have x2 : W.cell? ⟨j, 2, none⟩ = some (.string y.sub) := HBX.out.cell 2
        go_wp2_with fail
        clear x0 x1 x2
        refine (HPA.out _).mono ?_
        rintro e w2 ⟨rfl, hb⟩
        have HF2 := Lib.hid (HF.out.trans (hb.mono HF.out.size))
        have HBX2 := Lib.hid (HBX.out.below hb)
        clear hb
        have x0 : w2.cell? ⟨j, 0, none⟩ = some (.string y.v) := HBX2.out.cell 0
        have x1 : w2.cell? ⟨j, 1, none⟩ = some (.string y.typ) := HBX2.out.cell 1
        have x2 : w2.cell? ⟨j, 2, none⟩ = some (.string y.sub) := HBX2.out.cell 2
        obtain ⟨q1, h1⟩ : ∃ q, (y.typ.toList == [79, 112, 101, 114, 97, 110, 100]) = q := ⟨_, rfl⟩
        obtain ⟨q2, h2⟩ : ∃ q, (y.sub.toList == [84, 101, 120, 116]) = q := ⟨_, rfl⟩
        rw [h1, h2] at hmy
        cases q1 <;> cases q2
        case true.true => cases hmy
        all_goals
          clear hmy
          go_wp2
          clear x0 x1 x2
          go_roundw
          case rel => exact ⟨k + 1, _, by go_num, rfl, by omega, Lib.hid HV.out.symm, HF2⟩
          case measure => simp [intOf]; omega
      · have hP : trT y = y.v ++ bs (par y) := by rw [trT_par, if_neg hp]
        have hem : ((trT y).toList == []) = false := by
          rw [hP, ← hbt]
          refine bs_not ?_
          unfold tkT
          simp [hp]
        have hem2 : (trT y).toList.isEmpty = false := by
          cases q : (trT y).toList with
          | nil => rw [q] at hem; cases hem
          | cons a b => rfl
        have HV : Hid (bs ((l.take (k + 1)).flatMap tkT) = T ++ trT y) := Lib.hid (by rw [HFL.out, ← bs_app, hbt, HE.out, hP])
        clear hP hbt hp hmy
        generalize trT y = P at *
        have ra : ∀ w, (Op.stringOp .add T P).run Tryz.prog w = .ok (.string (T ++ P)) w := fun w => run_string_add_sum _ _ _ (by omega)
        go_upto_region 5 with fail
        rw [HJ.out, HW.out]
        clear z0 z1 z2 HJ HW
        have x0 : W.cell? ⟨j, 0, none⟩ = some (.string y.v) := HBX.out.cell 0
        have x1 : W.cell? ⟨j, 1, none⟩ = some (.string y.typ) := HBX.out.cell 1
        have x2 : W.cell? ⟨j, 2, none⟩ = some (.string y.sub) := HBX.out.cell 2
        go_wp2_with fail
        clear x0 x1 x2
        refine (HPA.out _).mono ?_
        rintro e w2 ⟨rfl, hb⟩
        have HF2 := Lib.hid (HF.out.trans (hb.mono HF.out.size))
        have HBX2 := Lib.hid (HBX.out.below hb)
        clear hb
        have x0 : w2.cell? ⟨j, 0, none⟩ = some (.string y.v) := HBX2.out.cell 0
        have x1 : w2.cell? ⟨j, 1, none⟩ = some (.string y.typ) := HBX2.out.cell 1
        have x2 : w2.cell? ⟨j, 2, none⟩ = some (.string y.sub) := HBX2.out.cell 2
        go_wp2_with fail
        clear x0 x1 x2
        refine (HPA.out _).mono ?_
        rintro e w3 ⟨rfl, hb⟩
        have HF3 := Lib.hid (HF2.out.trans (hb.mono HF2.out.size))
        clear hb
        go_wp2
        go_roundw
        case rel => exact ⟨k + 1, _, by go_num, rfl, by omega, Lib.hid HV.out.symm, HF3⟩
        case measure => simp [intOf]; omega
    · obtain rfl : k = l.length := by omega
      have e : l.take l.length = l := List.take_length
      have hE := HE.out
      rw [e] at hE
      have HE2 := Lib.hid hE
      clear hE e HE
      go_wp2
      go_ret
      exact ⟨by rw [← HE2.out]; rfl, HB.out⟩

end Go.Proofs.YtfeffdjnjckjaaaGreatDoor.Rg

/- Equal rows of tokens are the same. -/
namespace Go.Proofs.YtfeffdjnjckjaaaGreatDoor.Rg
open Go.RowKit

theorem eq_tok (k : Tk) (w : World) : (Op.equalIn 10000 46 (.agg #[.string k.v, .string k.typ, .string k.sub]) (.agg #[.string k.v, .string k.typ, .string k.sub])).run Tryz.prog w = .ok true w := by
  have hp : Tryz.prog.stoodInHeld 46 = false := by kernel_rfl
  have hu := Tryz.underlying46
  have ht : Tryz.prog.underlying 46 = some (.struct (Tryz.prog.fieldsOf 46)) := by
    unfold Program.fieldsOf
    rw [hu]
  have hs := Tryz.underlying9
  rw [run_equalIn_agg w 9999 _ _ _ ht hp]
  clear ht
  unfold Program.fieldsOf
  rw [hu]
  simp [go_sem, Op.eqFields, part, hs]

set_option maxHeartbeats 16000000 in
set_option maxRecDepth 100000 in
theorem same_any (l : List Tk) (hl : l.length ≤ 7500) (A1 A2 : Option Addr) (c1 c2 B1 B2 : Nat) (w : World) (h1 : Tks w B1 46 (.slice A1 l.length c1) l) (h2 : Tks w B2 46 (.slice A2 l.length c2) l) :
    Calls Tryz.prog 8 #[.slice A1 l.length c1, .slice A2 l.length c2] w fun e w' => e = .returned (.bool true) ∧ Below w.heap.size w w' := by
  have hnn : ((l.length : Int) != (l.length : Int)) = false := by simp
  have HA := Lib.hid h1
  have HC := Lib.hid h2
  clear h1 h2
  go_enter Tryz.func8, Tryz.ntmps8
  go_upto_region 4 with fail
  go_loopw [5] (fun i wr => ∃ k : Nat, i = .int .i64 k ∧ k ≤ l.length ∧ Hid (Below w.heap.size w wr)) (fun i _ => l.length - (intOf i).toNat)
  case atStart => exact ⟨0, rfl, Nat.zero_le _, Lib.hid (Below.refl _ _)⟩
  case round =>
    obtain ⟨k, rfl, hk, HB⟩ := hrel
    by_cases hlt : k < l.length
    · obtain ⟨y, hy⟩ : ∃ y, l[k]? = some y := ⟨_, List.getElem?_eq_getElem hlt⟩
      obtain ⟨g, hA, _, hg, hc0, hc1, hc2⟩ := HA.out.at hy
      obtain ⟨g', hA', _, hg', hd0, hd1, hd2⟩ := HC.out.at hy
      have z0 := (HB.out.cell (p := ⟨g, k * 3, none⟩) hg).trans hc0
      have z1 := (HB.out.cell (p := ⟨g, k * 3 + 1, none⟩) hg).trans hc1
      have z2 := (HB.out.cell (p := ⟨g, k * 3 + 2, none⟩) hg).trans hc2
      have y0 := (HB.out.cell (p := ⟨g', k * 3, none⟩) hg').trans hd0
      have y1 := (HB.out.cell (p := ⟨g', k * 3 + 1, none⟩) hg').trans hd1
      have y2 := (HB.out.cell (p := ⟨g', k * 3 + 2, none⟩) hg').trans hd2
      subst hA
      subst hA'
      clear hg hg' hc0 hc1 hc2 hd0 hd1 hd2 hy
      have hgd : Tryz.prog.eqGuardType Tryz.prog.depth 46 = false := by kernel_rfl
      have heq := fun w => eq_tok y w
      have k0 : (0 : Int) ≤ (k : Int) := by omega
      have k1 : (k : Int) < (l.length : Int) := by omega
      go_wp2_with fail
      go_quiet (fail)
      have HB2 := Lib.hid (HB.out.trans ((below_drewN wr nq).mono HB.out.size))
      clear z0 z1 z2 y0 y1 y2 hgd heq k0 k1
      go_wp2
      go_roundw
      case rel => exact ⟨k + 1, by go_num, by omega, HB2⟩
      case measure => simp [intOf]; omega
    · obtain rfl : k = l.length := by omega
      go_wp2
      go_ret
      exact ⟨rfl, HB.out⟩

set_option maxHeartbeats 1600000 in
/-- The text of tokens, from the thin package. -/
theorem implText_any (l : List Tk) (hl : l.length ≤ 7500) (ht : (l.flatMap tkT).length ≤ 7500) (hno : noText l) (A : Option Addr) (c B : Nat) (w : World) (h : Tks w B 46 (.slice A l.length c) l) :
    Calls Tryz.prog 9 #[.slice A l.length c] w fun e w' => e = .returned (.string (bs (l.flatMap tkT))) ∧ Below w.heap.size w w' := by
  have H1 := Lib.hid (implTokens_any l hl A c B w h)
  have H2 : Hid (∀ (A : Option Addr) (c B : Nat) (w : World), Tks w B 55 (.slice A l.length c) l → Calls Tryz.prog 14 #[.slice A l.length c] w fun e w' => e = .returned (.string (bs (l.flatMap tkT))) ∧ Below w.heap.size w w') := by
    refine Lib.hid ?_
    intro A c B w h
    have H3 := Lib.hid (formulaText_any l hl ht hno A c B w h)
    clear h ht hno
    generalize bs (l.flatMap tkT) = T at *
    go_enter Tryz.func14, Tryz.ntmps14
    go_wp2_with fail
    refine H3.out.mono ?_
    rintro e w2 ⟨rfl, hb⟩
    go_wp2
    go_ret
    exact ⟨rfl, hb⟩
  clear h ht hno
  obtain ⟨T, hT⟩ : ∃ T, bs (l.flatMap tkT) = T := ⟨_, rfl⟩
  rw [hT] at H2 ⊢
  clear hT
  go_enter Tryz.func9, Tryz.ntmps9
  go_wp2_with fail
  refine H1.out.mono ?_
  rintro e w2 ⟨A2, c2, rfl, hb, hk⟩
  have HC := Lib.hid (H2.out A2 c2 _ w2 hk)
  have HB := Lib.hid hb
  clear hb hk H1 H2
  go_wp2_with fail
  refine HC.out.mono ?_
  rintro e w3 ⟨rfl, hb⟩
  have HR := Lib.hid (HB.out.trans (hb.mono HB.out.size))
  clear hb
  go_wp2
  go_ret
  exact ⟨rfl, HR.out⟩

end Go.Proofs.YtfeffdjnjckjaaaGreatDoor.Rg
