/- The tokens of every tree. -/
import Derived.Test.YtfeffdjnjckjaaaGreatDoorJLeaf
/- The tokens of a call. -/
namespace Go.Proofs.YtfeffdjnjckjaaaGreatDoor.Rg
open Go.RowKit

/-- A drawn region along a plan whose order is told; the last operation may wait through others. -/
theorem wp_region_perml {P : Program} {Q : Exit → Act → World → Prop} {S : World → Prop} {id : Nat} {o : Oper} {l : List Oper} {a : Act} {w : World} (is : List Nat) (fs : List Bool) (hm : P.follows .mixedOrders = true)
    (hB : (Region.noSelect (o :: l).toArray && planL (o :: l).toArray ((o :: l).length - 1) (fs.zip is) (Array.replicate (o :: l).toArray.size false) && decide (fs.length = (is.map fun i => (o :: l).getD i o).length) && decide ((is.map fun i => (o :: l).getD i o).length = (o :: l).toArray.size)) = true)
    (hidx : is.map (fun i => (o :: l).toArray[i]?) = (is.map fun i => (o :: l).getD i o).map some)
    (hQ : ∀ d v c a w, Q (.panic c) (Act.put a d v) w → Q (.panic c) a w) (hS : S w.drew)
    (h : wpSeqT P (o :: l).toArray Q S fs (is.map fun i => (o :: l).getD i o) a w.drew) : (Code.region id (o :: l).toArray true).wp P Q a w := by
  simp only [Bool.and_eq_true, decide_eq_true_eq] at hB
  obtain ⟨⟨⟨h1, h2⟩, h3⟩, h4⟩ := hB
  refine wp_region_any hm (any_of_last (S := S) ((o :: l).length - 1) _ _ _ _ ?_)
  have hsh : Shutl (o :: l).toArray (Array.replicate (o :: l).toArray.size false) := by
    intro m om _ hl
    exfalso
    simp only [Array.getD_eq_getD_getElem?, Array.getElem?_replicate] at hl
    split at hl <;> simp at hl
  have hh := late_of_plan ((o :: l).length - 1) h1 hQ fs _ _ h3 hidx (Array.replicate (o :: l).toArray.size false) a w.drew hsh h2 (fun _ => hS) h
  rw [h4] at hh
  exact hh

set_option maxHeartbeats 16000000 in
set_option maxRecDepth 100000 in
theorem tokOf_call (t : List UInt8) (kids : List Ex) (hT : ∀ x ∈ kids, TokOf x) : TokOf (.call t kids) := by
  intro v S w hx hok hlen
  unfold okX at hok
  obtain ⟨Ak, kk, vs, hv, hrow, hall⟩ := hx
  have h0 := List.length_pos_iff.2 (word_named hok.1).1
  have hpl : (prtM kids).length ≤ 8000 := by
    rw [prt] at hlen
    simp at hlen
    omega
  have hml := tokM_len kids hok.2.2.2
  have HTK : Hid (tok 1 (.call t kids) = kFun t :: ((sepL (kids.map (tok 1))).tail ++ [kEnd])) := Lib.hid (by rw [tok_call, sepL_map])
  rw [HTK.out]
  have HN : Hid ((sepL (kids.map (tok 1))).length ≤ 9000) := Lib.hid (by rw [sepL_map]; omega)
  have hk8 : kids.length ≤ 8000 := by omega
  have HLS := Lib.hid (tokens_any kids hT Ak kk vs S)
  have V0 : Hid (v.op = sCall) := Lib.hid (by rw [hv])
  have V1 : Hid (v.text = bs t) := Lib.hid (by rw [hv])
  have VA : Hid (v.A = Ak) := Lib.hid (by rw [hv])
  have VN : Hid (v.n = kids.length) := Lib.hid (by rw [hv])
  have VK : Hid (v.k = kk) := Lib.hid (by rw [hv])
  clear hv HTK
  obtain ⟨j, hj⟩ : ∃ j, w.heap.size = j := ⟨_, rfl⟩
  obtain ⟨W, hW⟩ : ∃ W, w.alloc (.cells (exCells v) 25) = W := ⟨_, rfl⟩
  have HF : Hid (Below w.heap.size w W) := by subst hW; exact Lib.hid ((Below.refl _ _).alloc (Nat.le_refl _) _)
  have HB : Hid (Box W j (exCells v) 25) := by subst hW; subst hj; exact Box.made _ _ _
  have HC : Hid (∀ w1, Below W.heap.size W w1 → Calls Tryz.prog 31 #[.slice Ak kids.length kk, .bool false] w1 (ListPost w1 (kids.map (tok 1)))) := Lib.hid (fun w1 hb => HLS.out w1 (hrow.keep (Nat.le_trans HF.out.size hb.size) (fun g h1 h2 => ⟨Same.trans (Same.of_below HF.out h2) (Same.of_below hb (Nat.lt_of_lt_of_le h2 HF.out.size)), h1⟩)) ((hall.below HF.out).below hb) hok.2.2.2 hpl hk8)
  have HJ := Lib.hid hj
  have HW := Lib.hid hW
  have HM : Hid ((kids.map (tok 1)).length = kids.length) := Lib.hid (by simp)
  clear hj hW HLS hT hrow hall hok hlen hpl hml h0
  have HLV : Hid (∀ w, Calls Tryz.prog 24 #[.string sCall] w fun e w' => e = .returned (.int .i64 0) ∧ w = w') := Lib.hid (fun w => levels_any sCall w)
  unfold sCall at HLV
  unfold Ev.val
  unfold exCells at HW
  obtain ⟨Ls, hLs⟩ : ∃ Ls, kids.map (tok 1) = Ls := ⟨_, rfl⟩
  rw [hLs] at HC HM HN ⊢
  clear hLs
  go_enter Tryz.func20, Tryz.ntmps20
  go_upto_region 1 with fail
  rw [HJ.out, HW.out]
  clear HJ HW
  obtain ⟨x0, x1, x2, x3, x4, x5, x6, x7, x8, x9, x10, x11, x12, x13⟩ := HB.out.ex
  rw [V0.out] at x0
  unfold sCall at x0
  go_wp2_with (go_at_call 24; refine (HLV.out _).mono ?_; rintro e w' ⟨rfl, rfl⟩)
  clear x0 x1 x2 x3 x4 x5 x6 x7 x8 x9 x10 x11 x12 x13
  have hS0 : (fun w' : World => Below W.heap.size W w') W.drew := (Below.refl _ _).drew
  refine wp_region_perml [0, 1, 2, 3, 4, 5, 6, 7] [true, true, true, true, true, false, false, false] (S := fun w' => Below W.heap.size W w') (by kernel_rfl) (by kernel_rfl) (by kernel_rfl) (fun d _ _ _ _ h => by cases d <;> exact h) hS0 ?_
  simp only [List.map_cons, List.map_nil, List.getD_cons_zero, List.getD_cons_succ]
  iterate 5
    refine seqT_take (v := ?_) (by rfl) ?_ ?_
    rotate_left
    · intro w' hSw
      obtain ⟨x0, x1, x2, x3, x4, x5, x6, x7, x8, x9, x10, x11, x12, x13⟩ := (HB.out.below hSw).ex
      clear hSw
      rw [V1.out] at x1
      rw [VA.out, VN.out, VK.out] at x13
      go_simp
      try (with_reducible rfl)
    try simp only [Act.put, List.setIfInBounds_toArray, List.set_cons_zero, List.set_cons_succ]
  refine seqT_solo (by rfl) (fun K hK => ?_)
  go_simp
  refine (HC.out _ hS0).mono ?_
  rintro e w5 ⟨A5, c5, vs5, rfl, hb5, hr5⟩
  have hbW : Below W.heap.size W w5 := hS0.trans (hb5.mono hS0.size)
  have HBW := Lib.hid hbW
  have hm9 : Ls.length ≤ 9000 := by rw [HM.out]; omega
  have HFN := Lib.hid (function_any t A5 c5 W.drew.heap.size Ls w5 hr5.rows HN.out hm9)
  refine hK.out _ _ (fun _ => hbW) ?_
  clear hK K hr5 hb5 hbW hS0 HC
  try simp only [Act.put, List.setIfInBounds_toArray, List.set_cons_zero, List.set_cons_succ]
  refine seqT_solo (by rfl) (fun K hK => ?_)
  go_simp
  refine HFN.out.mono ?_
  rintro e w6 ⟨A6, c6, rfl, hb6, hk6⟩
  have hbW6 : Below W.heap.size W w6 := HBW.out.trans (hb6.mono HBW.out.size)
  have HR := Lib.hid (show Below w.heap.size w w6 from HF.out.trans (hbW6.mono HF.out.size))
  have HK := Lib.hid (hk6.lower (Nat.le_trans HF.out.size HBW.out.size))
  refine hK.out _ _ (fun _ => hbW6) ?_
  clear hK K hb6 hk6 hbW6 HFN
  try simp only [Act.put, List.setIfInBounds_toArray, List.set_cons_zero, List.set_cons_succ]
  refine seqT_solo (by rfl) (fun K hK => ?_)
  go_simp
  refine hK.out _ _ (fun h => absurd rfl h) ?_
  clear hK K
  try simp only [Act.put, List.setIfInBounds_toArray, List.set_cons_zero, List.set_cons_succ]
  refine seqT_done ?_
  go_wp2
  go_ret
  exact ⟨A6, c6, by show Ending.returned (.slice A6 ((sepL Ls).length - 1 + 1 + 1) c6) = _; simp, HR.out, HK.out⟩

end Go.Proofs.YtfeffdjnjckjaaaGreatDoor.Rg

/- The tokens of an operator of two. -/
namespace Go.Proofs.YtfeffdjnjckjaaaGreatDoor.Rg
open Go.RowKit

/-- What the walk sees of an element of a row of trees. -/
structure SeeAt (w : World) (g p : Nat) (v : Ev) : Prop where
  c0 : w.cell? ⟨g, p, none⟩ = some (.string v.op)
  c1 : w.cell? ⟨g, p + 1, none⟩ = some (.string v.text)
  c2 : w.cell? ⟨g, p + 2, none⟩ = some (.bool v.is)
  c3 : w.cell? ⟨g, p + 3, none⟩ = some (.string v.sheet)
  c4 : w.cell? ⟨g, p + 4, none⟩ = some (.int .i64 v.c)
  c5 : w.cell? ⟨g, p + 5, none⟩ = some (.int .i64 v.r)
  c6 : w.cell? ⟨g, p + 6, none⟩ = some (.int .i64 v.c2)
  c7 : w.cell? ⟨g, p + 7, none⟩ = some (.int .i64 v.r2)
  c8 : w.cell? ⟨g, p + 8, none⟩ = some (.bool v.f0)
  c9 : w.cell? ⟨g, p + 9, none⟩ = some (.bool v.f1)
  c10 : w.cell? ⟨g, p + 10, none⟩ = some (.bool v.f2)
  c11 : w.cell? ⟨g, p + 11, none⟩ = some (.bool v.f3)
  c12 : w.cell? ⟨g, p + 12, none⟩ = some (.int .i64 v.wide)
  c13 : w.cell? ⟨g, p + 13, none⟩ = some (.slice v.A v.n v.k)
theorem SeeAt.below {w w' : World} {g p : Nat} {v : Ev} (h : SeeAt w g p v) (hb : Below w.heap.size w w') (hg : g < w.heap.size) : SeeAt w' g p v :=
  ⟨(hb.cell (p := ⟨g, _, none⟩) hg).trans h.c0, (hb.cell (p := ⟨g, _, none⟩) hg).trans h.c1, (hb.cell (p := ⟨g, _, none⟩) hg).trans h.c2, (hb.cell (p := ⟨g, _, none⟩) hg).trans h.c3, (hb.cell (p := ⟨g, _, none⟩) hg).trans h.c4, (hb.cell (p := ⟨g, _, none⟩) hg).trans h.c5, (hb.cell (p := ⟨g, _, none⟩) hg).trans h.c6, (hb.cell (p := ⟨g, _, none⟩) hg).trans h.c7, (hb.cell (p := ⟨g, _, none⟩) hg).trans h.c8, (hb.cell (p := ⟨g, _, none⟩) hg).trans h.c9, (hb.cell (p := ⟨g, _, none⟩) hg).trans h.c10, (hb.cell (p := ⟨g, _, none⟩) hg).trans h.c11, (hb.cell (p := ⟨g, _, none⟩) hg).trans h.c12, (hb.cell (p := ⟨g, _, none⟩) hg).trans h.c13⟩
theorem RowOf.see {w : World} {S : Nat → Prop} {A : Option Addr} {vs : List Ev} (h : RowOf w S A vs) (i : Nat) (v : Ev) (hi : vs[i]? = some v) : ∃ g, A = some ⟨g, 0, none⟩ ∧ g < w.heap.size ∧ SeeAt w g (i * 14) v := by
  obtain ⟨g, h1, h2, h3⟩ := RowOf.get h i v hi
  exact ⟨g, h1, h2, ⟨h3 0 _ (by omega) rfl, h3 1 _ (by omega) rfl, h3 2 _ (by omega) rfl, h3 3 _ (by omega) rfl, h3 4 _ (by omega) rfl, h3 5 _ (by omega) rfl, h3 6 _ (by omega) rfl, h3 7 _ (by omega) rfl, h3 8 _ (by omega) rfl, h3 9 _ (by omega) rfl, h3 10 _ (by omega) rfl, h3 11 _ (by omega) rfl, h3 12 _ (by omega) rfl, h3 13 _ (by omega) rfl⟩⟩

theorem prt_mono (x : Ex) (n : Nat) : ∀ m, n ≤ m → (prt n x).length ≤ (prt m x).length
  | 0, h => by
    obtain rfl : n = 0 := by omega
    exact Nat.le_refl _
  | m + 1, h => by
    by_cases e : n = m + 1
    · subst e
      exact Nat.le_refl _
    · exact Nat.le_trans (prt_mono x n m (by omega)) (prt_le x m)
/-- An operator of two is none of the other names. -/
theorem op_names {o : List UInt8} (h : o ∈ opsL) : ((bs o).toList == [110, 101, 103]) = false ∧ ((bs o).toList == [112, 108, 117, 115]) = false ∧ ((bs o).toList == [112, 101, 114, 99, 101, 110, 116]) = false := by
  refine ⟨bs_not ?_, bs_not ?_, bs_not ?_⟩ <;>
  · rintro rfl
    revert h
    decide

set_option maxHeartbeats 16000000 in
set_option maxRecDepth 100000 in
theorem tokOf_bin (o : List UInt8) (a b : Ex) (ha : TokOf a) (hb : TokOf b) : TokOf (.bin o a b) := by
  intro v S w hx hok hlen
  unfold okX at hok
  obtain ⟨Ak, va, vb, hv, hrow, hxa, hxb⟩ := hx
  have hlv := lev_ops hok.1
  have hla := tok_len a (lev o) hok.2.1
  have hlb := tok_len b (lev o + 1) hok.2.2
  have hpr := prt_bin 1 o a b
  rw [if_neg (by omega)] at hpr
  rw [hpr] at hlen
  simp only [List.length_append] at hlen
  have hpa : (prt 1 a).length ≤ (prt (lev o) a).length := prt_mono a 1 (lev o) hlv.1
  have hpb : (prt 1 b).length ≤ (prt (lev o + 1) b).length := prt_mono b 1 (lev o + 1) (by omega)
  obtain ⟨g, hA, hg, hs0⟩ := RowOf.see hrow 0 va rfl
  obtain ⟨g', hA', _, hs1⟩ := RowOf.see hrow 1 vb rfl
  obtain rfl : g = g' := by
    rw [hA] at hA'
    injection hA' with h1
    injection h1
  subst hA
  have HTK : Hid (tok 1 (.bin o a b) = tok (lev o) a ++ [kOp o] ++ tok (lev o + 1) b) := Lib.hid (by rw [tok_bin, if_neg (by omega)]; simp)
  rw [HTK.out]
  have hnm := op_names hok.1
  obtain ⟨n1, n2, n3⟩ := hnm
  have V0 : Hid (v.op = bs o) := Lib.hid (by rw [hv])
  have VA : Hid (v.A = some ⟨g, 0, none⟩) := Lib.hid (by rw [hv])
  have VN : Hid (v.n = 2) := Lib.hid (by rw [hv])
  have VK : Hid (v.k = 2) := Lib.hid (by rw [hv])
  obtain ⟨j, hj⟩ : ∃ j, w.heap.size = j := ⟨_, rfl⟩
  obtain ⟨W, hW⟩ : ∃ W, w.alloc (.cells (exCells v) 25) = W := ⟨_, rfl⟩
  have HF : Hid (Below w.heap.size w W) := by subst hW; exact Lib.hid ((Below.refl _ _).alloc (Nat.le_refl _) _)
  have HB : Hid (Box W j (exCells v) 25) := by subst hW; subst hj; exact Box.made _ _ _
  have HSA := Lib.hid (hs0.below HF.out hg)
  have HSB := Lib.hid (hs1.below HF.out hg)
  have HGW : Hid (g < W.heap.size) := Lib.hid (Nat.lt_of_lt_of_le hg HF.out.size)
  have HLV := Lib.hid (fun w => levels_any (bs o) w)
  have HIN := Lib.hid (fun w => infix_any o w)
  obtain ⟨L, hL⟩ : ∃ L, lev o = L := ⟨_, rfl⟩
  have e0 : (bs o).data.toList = o := rfl
  rw [e0] at HLV
  have HCA : Hid (∀ w1, Below W.heap.size W w1 → Calls Tryz.prog 26 #[va.val, .int .i64 (lev o), .bool false] w1 (TokPost w1 45 (tok (lev o) a))) := Lib.hid (fun w1 hbl => bracketed_any a ha (lev o) va S w1 ((hxa.below HF.out).below hbl) hok.2.1 (by omega))
  have HCB : Hid (∀ w1, Below W.heap.size W w1 → Calls Tryz.prog 26 #[vb.val, .int .i64 ((lev o : Int) + 1), .bool false] w1 (TokPost w1 45 (tok (lev o + 1) b))) := Lib.hid (fun w1 hbl => bracketed_any b hb (lev o + 1) vb S w1 ((hxb.below HF.out).below hbl) hok.2.2 (by omega))
  have HKO : Hid (kOp o = ⟨bs o, tInfix, infT (lev o)⟩) := Lib.hid rfl
  have hl1 : 1 ≤ L := by omega
  have hl5 : L ≤ 5 := by omega
  have hLA : (tok L a).length ≤ 8000 := by rw [← hL]; omega
  have hLB : (tok (L + 1) b).length ≤ 8000 := by rw [← hL]; omega
  rw [hL] at HLV HIN HCA HCB HKO ⊢
  have HJ := Lib.hid hj
  have HW := Lib.hid hW
  clear hj hW e0 hok hlen hv hrow hxa hxb ha hb hs0 hs1 hg hA' hpr hpa hpb hla hlb hlv hL HTK
  obtain ⟨O, hO⟩ : ∃ O, bs o = O := ⟨_, rfl⟩
  rw [hO] at HLV HIN HKO V0 n1 n2 n3
  obtain ⟨I, hI⟩ : ∃ I, infT L = I := ⟨_, rfl⟩
  rw [hI] at HIN HKO
  obtain ⟨LA, hLA2⟩ : ∃ LA, tok L a = LA := ⟨_, rfl⟩
  obtain ⟨LB, hLB2⟩ : ∃ LB, tok (L + 1) b = LB := ⟨_, rfl⟩
  rw [hLA2] at HCA hLA ⊢
  rw [hLB2] at HCB hLB ⊢
  obtain ⟨KO, hKO⟩ : ∃ KO, kOp o = KO := ⟨_, rfl⟩
  rw [hKO] at HKO ⊢
  clear hO hI hLA2 hLB2 hKO
  have hd : decide (0 < (L : Int)) = true := by simp; omega
  unfold Ev.val at HCA HCB ⊢
  unfold exCells at HW
  go_enter Tryz.func20, Tryz.ntmps20
  go_upto_region 1 with fail
  rw [HJ.out, HW.out]
  clear HJ HW
  obtain ⟨x0, x1, x2, x3, x4, x5, x6, x7, x8, x9, x10, x11, x12, x13⟩ := HB.out.ex
  rw [V0.out] at x0
  go_wp2_with (go_at_call 24; refine (HLV.out _).mono ?_; rintro e w' ⟨rfl, rfl⟩)
  clear x0 x1 x2 x3 x4 x5 x6 x7 x8 x9 x10 x11 x12 x13
  have hS0 : (fun w' : World => Below W.heap.size W w') W.drew := (Below.refl _ _).drew
  refine wp_region_perml [0, 1, 2, 3, 4, 5, 7, 8, 9, 10, 6, 11, 12, 13, 14, 15] [true, true, true, true, true, true, true, true, true, true, false, false, false, false, false, false] (S := fun w' => Below W.heap.size W w') (by kernel_rfl) (by kernel_rfl) (by kernel_rfl) (fun d _ _ _ _ h => by cases d <;> exact h) hS0 ?_
  simp only [List.map_cons, List.map_nil, List.getD_cons_zero, List.getD_cons_succ]
  iterate 10
    refine seqT_take (v := ?_) (by rfl) ?_ ?_
    rotate_left
    · intro w' hSw
      obtain ⟨z0, z1, z2, z3, z4, z5, z6, z7, z8, z9, z10, z11, z12, z13⟩ := (HB.out.below hSw).ex
      have y := HSA.out.below hSw HGW.out
      rw [V0.out] at z0
      rw [VA.out, VN.out, VK.out] at z13
      have x0 : w'.cell? ⟨g, 0, none⟩ = _ := y.c0
      have x1 : w'.cell? ⟨g, 1, none⟩ = _ := y.c1
      have x2 : w'.cell? ⟨g, 2, none⟩ = _ := y.c2
      have x3 : w'.cell? ⟨g, 3, none⟩ = _ := y.c3
      have x4 : w'.cell? ⟨g, 4, none⟩ = _ := y.c4
      have x5 : w'.cell? ⟨g, 5, none⟩ = _ := y.c5
      have x6 : w'.cell? ⟨g, 6, none⟩ = _ := y.c6
      have x7 : w'.cell? ⟨g, 7, none⟩ = _ := y.c7
      have x8 : w'.cell? ⟨g, 8, none⟩ = _ := y.c8
      have x9 : w'.cell? ⟨g, 9, none⟩ = _ := y.c9
      have x10 : w'.cell? ⟨g, 10, none⟩ = _ := y.c10
      have x11 : w'.cell? ⟨g, 11, none⟩ = _ := y.c11
      have x12 : w'.cell? ⟨g, 12, none⟩ = _ := y.c12
      have x13 : w'.cell? ⟨g, 13, none⟩ = _ := y.c13
      clear hSw y
      go_simp
      try (with_reducible rfl)
    try simp only [Act.put, List.setIfInBounds_toArray, List.set_cons_zero, List.set_cons_succ]
  refine seqT_solo (by rfl) (fun K hK => ?_)
  go_simp
  refine (HCA.out _ hS0).mono ?_
  rintro e w5 ⟨A5, c5, rfl, hb5, hk5⟩
  have hbW5 : Below W.heap.size W w5 := hS0.trans (hb5.mono hS0.size)
  have HW5 := Lib.hid hbW5
  have HK5 := Lib.hid (hk5.lower hS0.size)
  refine hK.out _ _ (fun _ => hbW5) ?_
  clear hK K hb5 hk5 hS0 hbW5 HCA
  try simp only [Act.put, List.setIfInBounds_toArray, List.set_cons_zero, List.set_cons_succ]
  refine seqT_solo (by rfl) (fun K hK => ?_)
  go_simp
  refine (HIN.out _).mono ?_
  rintro e w' ⟨rfl, rfl⟩
  refine hK.out _ _ (fun _ => HW5.out) ?_
  clear hK K
  try simp only [Act.put, List.setIfInBounds_toArray, List.set_cons_zero, List.set_cons_succ]
  refine seqT_solo (by rfl) (fun K hK => ?_)
  go_simp
  refine hK.out _ _ (fun _ => HW5.out) ?_
  clear hK K
  try simp only [Act.put, List.setIfInBounds_toArray, List.set_cons_zero, List.set_cons_succ]
  refine seqT_solo (by rfl) (fun K hK => ?_)
  go_simp
  have hbW6 : Below W.heap.size W (w5.alloc (.cells #[.string O, .string ⟨#[79, 112, 101, 114, 97, 116, 111, 114, 73, 110, 102, 105, 120]⟩, .string I] 45)) := HW5.out.alloc HW5.out.size _
  refine hK.out _ _ (fun _ => hbW6) ?_
  clear hK K
  try simp only [Act.put, List.setIfInBounds_toArray, List.set_cons_zero, List.set_cons_succ]
  refine seqT_solo (by rfl) (fun K hK => ?_)
  have h6 : Below w5.heap.size w5 (w5.alloc (.cells #[.string O, .string ⟨#[79, 112, 101, 114, 97, 116, 111, 114, 73, 110, 102, 105, 120]⟩, .string I] 45)) := (Below.refl _ _).alloc (Nat.le_refl _) _
  have h7 : Tks (w5.alloc (.cells #[.string O, .string ⟨#[79, 112, 101, 114, 97, 116, 111, 114, 73, 110, 102, 105, 120]⟩, .string I] 45)) w5.heap.size 45 (.slice (some ⟨w5.heap.size, 0, none⟩) 1 1) [KO] := by
    rw [HKO.out]
    exact Tks.made w5 ⟨O, tInfix, I⟩ 45
  obtain ⟨A8, c8, w8, happ8, hk8, hg8, _⟩ := join_tks tyS (w5.alloc (.cells #[.string O, .string ⟨#[79, 112, 101, 114, 97, 116, 111, 114, 73, 110, 102, 105, 120]⟩, .string I] 45)) W.heap.size w5.heap.size _ _ _ _ (HK5.out.below h6) h7 (by simp; omega) (Nat.le_trans HW5.out.size h6.size)
  have hbW8 : Below W.heap.size W w8 := below_grew hbW6 hg8 (fun k hk => ((HK5.out.below h6).lt k hk).1) hbW6.size
  have HK8 := Lib.hid hk8
  rw [List.length_append] at happ8
  refine wp_append _ _ _ (by rfl) (by rfl) (by rfl) happ8 ?_
  refine hK.out _ _ (fun _ => hbW8) ?_
  clear hK K happ8 hk8 hg8 h6 h7 hbW6
  try simp only [Act.put, List.setIfInBounds_toArray, List.set_cons_zero, List.set_cons_succ]
  refine seqT_solo (by rfl) (fun K hK => ?_)
  go_simp
  refine hK.out _ _ (fun h => absurd rfl h) ?_
  clear hK K
  try simp only [Act.put, List.setIfInBounds_toArray, List.set_cons_zero, List.set_cons_succ]
  refine seqT_done ?_
  have HW8 := Lib.hid hbW8
  have yb := HSB.out.below hbW8 HGW.out
  have x0 : w8.cell? ⟨g, 14, none⟩ = _ := yb.c0
  have x1 : w8.cell? ⟨g, 15, none⟩ = _ := yb.c1
  have x2 : w8.cell? ⟨g, 16, none⟩ = _ := yb.c2
  have x3 : w8.cell? ⟨g, 17, none⟩ = _ := yb.c3
  have x4 : w8.cell? ⟨g, 18, none⟩ = _ := yb.c4
  have x5 : w8.cell? ⟨g, 19, none⟩ = _ := yb.c5
  have x6 : w8.cell? ⟨g, 20, none⟩ = _ := yb.c6
  have x7 : w8.cell? ⟨g, 21, none⟩ = _ := yb.c7
  have x8 : w8.cell? ⟨g, 22, none⟩ = _ := yb.c8
  have x9 : w8.cell? ⟨g, 23, none⟩ = _ := yb.c9
  have x10 : w8.cell? ⟨g, 24, none⟩ = _ := yb.c10
  have x11 : w8.cell? ⟨g, 25, none⟩ = _ := yb.c11
  have x12 : w8.cell? ⟨g, 26, none⟩ = _ := yb.c12
  have x13 : w8.cell? ⟨g, 27, none⟩ = _ := yb.c13
  have z13 := (HB.out.below hbW8).ex.c13
  rw [VA.out, VN.out, VK.out] at z13
  clear yb hbW8
  go_wp2_with fail
  clear x0 x1 x2 x3 x4 x5 x6 x7 x8 x9 x10 x11 x12 x13 z13
  refine (HCB.out _ HW8.out).mono ?_
  rintro e w9 ⟨A9, c9, rfl, hb9, hk9⟩
  have hbW9 : Below W.heap.size W w9 := HW8.out.trans (hb9.mono HW8.out.size)
  have HK8b := HK8.out.below hb9
  obtain ⟨A10, c10, w10, happ10, hk10, hg10, _⟩ := join_tks tyS w9 W.heap.size w8.heap.size _ _ _ _ HK8b hk9 (by simp; omega) hbW9.size
  have hbW10 : Below W.heap.size W w10 := below_grew hbW9 hg10 (fun k hk => (HK8b.lt k hk).1) hbW9.size
  have HR := Lib.hid (show Below w.heap.size w w10 from HF.out.trans (hbW10.mono HF.out.size))
  have HK := Lib.hid (hk10.lower HF.out.size)
  rw [List.length_append, List.length_append] at happ10
  clear hbW9 HK8b hk10 hg10 hbW10 hb9 hk9 HK8
  go_wp2_with (at_builtin; refine wpList_append_eq rfl _ _ _ rfl rfl rfl happ10 ?_)
  go_ret
  exact ⟨A10, c10, by show Ending.returned (.slice A10 (LA.length + 1 + LB.length) c10) = _; rw [List.length_append, List.length_append]; rfl, HR.out, HK.out⟩

mutual
/-- The tokens of every tree. -/
theorem tokOf_all : ∀ x : Ex, TokOf x
  | .num t => tokOf_num t
  | .truth b => tokOf_truth b
  | .err t => tokOf_err t
  | .name t => tokOf_name t
  | .cell s c r a b => tokOf_cell s c r a b
  | .area s c r c2 r2 a b a2 b2 => tokOf_area s c r c2 r2 a b a2 b2
  | .call t kids => tokOf_call t kids (tokOf_list kids)
  | .bin o a b => tokOf_bin o a b (tokOf_all a) (tokOf_all b)
  | .odd => fun v S w _ hok _ => by
    unfold okX at hok
    exact hok.elim
theorem tokOf_list : ∀ l : List Ex, ∀ x ∈ l, TokOf x
  | [], x, h => by cases h
  | y :: l, x, h => by
    rcases List.mem_cons.1 h with h | h
    · rw [h]
      exact tokOf_all y
    · exact tokOf_list l x h
end

end Go.Proofs.YtfeffdjnjckjaaaGreatDoor.Rg
