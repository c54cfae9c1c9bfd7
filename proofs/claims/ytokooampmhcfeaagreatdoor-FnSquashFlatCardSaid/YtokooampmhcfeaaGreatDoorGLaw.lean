/- Flat of what Squash returns is the column with these rows: the statement's function, walked. -/
import Derived.Test.YtokooampmhcfeaaGreatDoorGSquash2
import Derived.Test.YtokooampmhcfeaaGreatDoorGFlat
import Derived.Test.YtokooampmhcfeaaGreatDoorFHas
namespace Go.Proofs.YtokooampmhcfeaaGreatDoor.Rg
open Go.RowKit Go.Maps

theorem ints_of {X : List Int} (h : ∀ x ∈ X, 1 ≤ x ∧ x ≤ 75) (hs : X.Pairwise (· < ·)) : ∃ Y : List Nat, X = ints Y ∧ (∀ y ∈ Y, 1 ≤ y ∧ y ≤ 99) ∧ Y.Pairwise (· < ·) := by
  refine ⟨X.map Int.toNat, ?_, fun y hy => ?_, ?_⟩
  · unfold ints
    rw [List.map_map]
    have : X.map ((fun n : Nat => (n : Int)) ∘ Int.toNat) = X.map id := List.map_congr_left (fun x hx => by
      have := h x hx
      show ((x.toNat : Nat) : Int) = x
      omega)
    rw [this, List.map_id]
  · obtain ⟨x, hx, rfl⟩ := List.mem_map.1 hy
    have := h x hx
    omega
  · rw [List.pairwise_map]
    refine hs.imp_of_mem (fun {a b} ha hb hab => ?_)
    have := h a ha
    have := h b hb
    omega

theorem ints_rise {Y : List Nat} (h : Y.Pairwise (· < ·)) : (ints Y).Pairwise (· ≤ ·) := by
  unfold ints
  rw [List.pairwise_map]
  exact h.imp (fun {a b} hab => by omega)

theorem cols_only {I : List Item} {col : Nat} (hI : ∀ i ∈ I, i.Ok ∧ i.a.p = col ∧ i.a.x = col) {d : Int} (h : cols (iareas I) d ≠ []) : d = col := by
  obtain ⟨r, hr⟩ := List.exists_mem_of_ne_nil _ h
  unfold cols iareas at hr
  obtain ⟨a, ha, hra⟩ := List.mem_flatMap.1 hr
  obtain ⟨i, hi, rfl⟩ := List.mem_map.1 ha
  obtain ⟨_, h1, h2⟩ := hI i hi
  unfold full at hra
  split at hra
  · omega
  · cases hra

/-- The columns are one, and its rows are Y. -/
theorem one_col {I : List Item} {col : Nat} {Y : List Nat} {K : List (Int × Value)} {R : Int → List Int} (hc : col ≤ 30) (hY : Y ≠ []) (hYs : Y.Pairwise (· < ·)) (hI : ∀ i ∈ I, i.Ok ∧ i.a.p = col ∧ i.a.x = col) (hcols : cols (iareas I) col = ints Y)
    (h1 : ∀ c, (ik c).wf = true → (R c).Perm (cols (iareas I) c) ∧ (R c).Pairwise (· ≤ ·)) (h2 : ∀ c, (ik c).wf = true → R c ≠ [] → c ∈ K.map Prod.fst) (h3 : ∀ p ∈ K, (ik p.1).wf = true ∧ R p.1 ≠ []) (h4 : (K.map Prod.fst).Pairwise (· < ·)) :
    ∃ v : Value, K = [((col : Int), v)] ∧ R col = ints Y := by
  have hw : (ik (col : Int)).wf = true := WalkArith.wf_i64 (by omega)
  have hR : R col = ints Y := by
    have hp := (h1 col hw).1
    rw [hcols] at hp
    exact List.Perm.eq_of_pairwise (le := fun a b : Int => a ≤ b) (fun a b _ _ hab hba => by omega) (h1 col hw).2 (ints_rise hYs) hp
  have hne : R col ≠ [] := by
    rw [hR]
    intro e
    unfold ints at e
    exact hY (List.map_eq_nil_iff.1 e)
  have hall : ∀ p ∈ K, p.1 = col := fun p hp => by
    obtain ⟨hwp, hnp⟩ := h3 p hp
    refine cols_only hI (fun e => hnp ?_)
    have := (h1 p.1 hwp).1
    rw [e] at this
    exact this.eq_nil
  have hmem := h2 col hw hne
  match K, h4, hall, hmem with
  | [], _, _, hmem => simp at hmem
  | [p], _, hall, _ =>
    have := hall p (by simp)
    exact ⟨p.2, by rw [← this], hR⟩
  | p :: q :: K', h4, hall, _ =>
    have e1 := hall p (by simp)
    have e2 := hall q (by simp)
    simp only [List.map_cons] at h4
    have := (List.pairwise_cons.1 h4).1 q.1 (by simp)
    omega

theorem cell_lives {w : World} {a : Addr} {v : Value} (h : w.cell? a = some v) : a.block < w.heap.size := by
  rcases Nat.lt_or_ge a.block w.heap.size with h' | h'
  · exact h'
  · simp [World.cell?, Array.getElem?_eq_none h'] at h

set_option maxHeartbeats 3200000 in
set_option maxRecDepth 100000 in
theorem squashflat_law (A : Option Addr) (n c : Nat) (cn : Int) (w : World) (hn : n ≤ 2147483647) (hA : ArgI w A n) (htab : Lib.TabIs Tryz.prog w "strings.asciiSpace" .u8 Lib.asciiSpaceTab) (hTab : Tab w) :
    Calls Tryz.prog 4 #[.int .i64 cn, .slice A n c] w fun e w' => e = .returned (.bool true) ∧ Below w.heap.size w w' := by
  obtain ⟨i1, hi1, hi1z, hi1s, hi1b⟩ := info_parts infoInt
  have GR := Lib.hid (grid_any cn 30 w (by decide) (by decide))
  have hg := gn_range cn 30 (by decide)
  have RW := Lib.hid (rows_any A n c w hn hA)
  have HT := Lib.hid htab
  have HTAB := Lib.hid hTab
  clear hA htab hTab
  go_enter Tryz.func4, Tryz.ntmps4
  go_wp2_with fail
  refine GR.out.mono ?_
  rintro e w0 ⟨rfl, rfl⟩
  clear GR
  generalize gn cn 30 = d at hg ⊢
  obtain ⟨col, rfl⟩ : ∃ col : Nat, d = col := ⟨d.toNat, by omega⟩
  go_wp2_with fail
  refine RW.out.mono ?_
  rintro e w1 ⟨A1, m, c1, X, rfl, hO, hXs, hXb, hm, hb1⟩
  obtain ⟨Y, rfl, hYb, hYs⟩ := ints_of hXb hXs
  have hmY : m = Y.length := by have := hO.len; unfold ints at this; rw [List.length_map] at this; exact this
  have HB1 := Lib.hid hb1
  clear RW hXs hXb hb1
  by_cases hm0 : m = 0
  · subst hm0
    clear hO hYb hYs hmY
    go_wp2_with fail
    refine (lives_any _).mono ?_
    rintro e w6 ⟨rfl, hb6⟩
    go_wp2
    go_ret
    exact ⟨rfl, HB1.out.trans (hb6.mono HB1.out.size)⟩
  · have HRD := Lib.hid hO.reads
    obtain ⟨g1, rfl, hg1, _⟩ := hO.reads (by omega)
    have hm0' : ((m : Int) == 0) = false := beq_false_of_ne (by omega)
    have HO := Lib.hid hO
    have HYB := Lib.hid hYb
    have HYS := Lib.hid hYs
    have HMY := Lib.hid hmY
    clear hO hYb hYs hmY
    have hal : Below w1.heap.size w1 (w1.alloc (.cells #[] 3)) := (Below.refl _ _).alloc (Nat.le_refl _) _
    have hcs : ∀ j u, ((ints Y).map (Value.int .i64))[j]? = some u → (w1.alloc (.cells #[] 3)).cell? ((⟨g1, 0, none⟩ : Addr).add j) = some u := by
      intro j u hu
      rw [addAt]
      have := HO.out.own.cells (g := g1) rfl j u hu
      rw [addAt] at this
      exact (hal.cell (p := ⟨g1, j, none⟩) hg1).trans this
    have hlen : ((ints Y).map (Value.int .i64)).length = m * 1 := by
      unfold ints
      rw [List.length_map, List.length_map, ← HMY.out, Nat.mul_one]
    have hone : ∀ u ∈ (ints Y).map (Value.int .i64), u.oneCell' = true := by
      intro u hu
      obtain ⟨z, _, rfl⟩ := List.mem_map.1 hu
      rfl
    go_wp2_with (at_builtin; refine wpList_append_own _ rfl _ _ 32 rfl w1.heap.size 3 i1 _ 1 8 Tryz.underlying32 hi1 hi1z hi1s hi1b rfl (by decide) _ 0 [] rfl ?c0 ⟨g1, 0, none⟩ m _ ((ints Y).map (Value.int .i64)) rfl hlen hcs hone ?c3 ?c4 ?c5 ?_)
    case c0 => exact World.ownsRow_made w1 #[] 0 (Nat.le_refl _) (by unfold maxLen; omega) (by simp)
    case c3 => unfold maxLen; omega
    case c4 => omega
    case c5 => simp
    intro v3 w2 hown hgw _
    have hb2 : Below w1.heap.size w1 w2 := hal.grown hgw (by simp) (fun j hj => by simp [Value.ownBlock] at hj; omega)
    obtain ⟨A3, c3, rfl⟩ := own_slice hown
    have hO3 : OwnsI w2 w1.heap.size A3 m c3 (ints Y) := ⟨hown, HO.out.len⟩
    have HB2 := Lib.hid (HB1.out.trans (hb2.mono HB1.out.size))
    have HRD2 := Lib.hid (HRD.out.later hb2)
    have SQ := Lib.hid (impl_squash A3 m c3 col Y w2 hO3.reads HMY.out HYS.out HYB.out (by omega) hm (by omega) (HTAB.out.stays HB2.out))
    clear hown hgw hO3 hcs hlen hone hal HRD HB1 hb2 HO
    go_wp2_with fail
    refine SQ.out.mono ?_
    rintro e w3 ⟨A4, m4, c4, I, rfl, hRS, hm4, hI, hcols, hIl, hb3⟩
    have HB3 := Lib.hid (HB2.out.trans (hb3.mono HB2.out.size))
    have HRD3 := Lib.hid (HRD2.out.later hb3)
    have HRS := Lib.hid hRS
    have HI := Lib.hid hI
    have HCOLS := Lib.hid hcols
    have hI25 : m4 ≤ 25 := by have := HMY.out; omega
    have HM4 := Lib.hid hm4
    clear SQ hRS hI hcols hIl hb3 HB2 HRD2 hm4
    go_wp2
    go_loopw [8, 9] (fun s i wr => ∃ k : Nat, k ≤ m4 ∧ i = .int .i64 k ∧ s = .string ⟨(joined ((itexts I).take k)).toArray⟩ ∧ Below w3.heap.size w3 wr) (fun _ i _ => m4 - (intOf i).toNat)
    case atStart => exact ⟨0, by omega, rfl, rfl, Below.refl _ _⟩
    case round =>
      obtain ⟨k, hk, rfl, rfl, hb⟩ := hrel
      by_cases hlt : k < m4
      · obtain ⟨it, hit⟩ : ∃ it, I[k]? = some it := ⟨_, List.getElem?_eq_getElem (by have := HM4.out; omega)⟩
        have hkT : (itexts I)[k]? = some it.t := by unfold itexts; rw [List.getElem?_map, hit]; rfl
        obtain ⟨g4, rfl, _, hc⟩ := (HRS.out.later hb) (by unfold itexts; rw [List.length_map]; have := HM4.out; omega)
        have ct := hc k it.t hkT
        have HJ := Lib.hid (joined_take (itexts I) k it.t hkT)
        have hok := (HI.out it (List.mem_of_getElem? hit)).1.len
        have hsz : (joined ((itexts I).take k)).length ≤ 26 * k := by
          have := joined_len ((itexts I).take k) (fun t ht => by
            have := List.mem_of_mem_take ht
            unfold itexts at this
            obtain ⟨a, ha, rfl⟩ := List.mem_map.1 this
            exact (HI.out a ha).1.len.2)
          rw [List.length_take] at this
          omega
        clear hc hit hkT
        have hs2 : (⟨it.t.toArray⟩ : ByteArray).size ≤ 25 := by show it.t.toArray.size ≤ 25; simpa using hok.2
        have hs1 : (⟨(joined ((itexts I).take k)).toArray⟩ : ByteArray).size ≤ 650 := by show (joined ((itexts I).take k)).toArray.size ≤ 650; simp; omega
        have i0' : (0 : Int) ≤ (k : Int) := by omega
        have i1' : (k : Int) < (m4 : Int) := by omega
        by_cases h0 : k = 0
        · have HS : Hid ((⟨(joined ((itexts I).take k)).toArray⟩ : ByteArray) ++ ⟨it.t.toArray⟩ = ⟨(joined ((itexts I).take (k + 1))).toArray⟩) := by
            show (⟨(joined ((itexts I).take k)).toArray⟩ : ByteArray) ++ ⟨it.t.toArray⟩ = ⟨(joined ((itexts I).take (k + 1))).toArray⟩
            rw [HJ.out, if_pos h0, h0]
            exact str_append _ _
          generalize (⟨(joined ((itexts I).take k)).toArray⟩ : ByteArray) = S at hs1 HS ⊢
          generalize (⟨it.t.toArray⟩ : ByteArray) = T at hs2 HS ct
          have ra : ∀ w, (Op.stringOp .add S T).run Tryz.prog w = .ok (.string (S ++ T)) w := fun w => run_string_add_sum _ _ _ (by omega)
          subst h0
          go_wp2
          go_roundw
          case rel => exact ⟨1, by omega, by go_num, by rw [HS.out], hb⟩
          case measure => simp [intOf]; omega
        · have HS : Hid ((⟨(joined ((itexts I).take k)).toArray⟩ : ByteArray) ++ ⟨#[32]⟩ ++ ⟨it.t.toArray⟩ = ⟨(joined ((itexts I).take (k + 1))).toArray⟩) := by
            show (⟨(joined ((itexts I).take k)).toArray⟩ : ByteArray) ++ ⟨#[32]⟩ ++ ⟨it.t.toArray⟩ = ⟨(joined ((itexts I).take (k + 1))).toArray⟩
            rw [HJ.out, if_neg h0]
            exact (congrArg (· ++ (⟨it.t.toArray⟩ : ByteArray)) (str_append (joined ((itexts I).take k)) [32])).trans ((str_append _ _).trans (by simp))
          generalize (⟨(joined ((itexts I).take k)).toArray⟩ : ByteArray) = S at hs1 HS ⊢
          generalize (⟨it.t.toArray⟩ : ByteArray) = T at hs2 HS ct
          have r0 : ∀ w, (Op.stringOp .add S ⟨#[32]⟩).run Tryz.prog w = .ok (.string (S ++ ⟨#[32]⟩)) w := fun w => run_string_add_sum _ _ _ (by have : (⟨#[32]⟩ : ByteArray).size = 1 := rfl; omega)
          have hs3 : (S ++ ⟨#[32]⟩ : ByteArray).size ≤ 651 := by
            rw [ByteArray.size_append]
            have : (⟨#[32]⟩ : ByteArray).size = 1 := rfl
            omega
          generalize (S ++ ⟨#[32]⟩ : ByteArray) = S1 at hs3 HS r0
          have ra : ∀ w, (Op.stringOp .add S1 T).run Tryz.prog w = .ok (.string (S1 ++ T)) w := fun w => run_string_add_sum _ _ _ (by omega)
          have hnot : (0 : Int) < (k : Int) := by omega
          go_wp2
          go_roundw
          case rel => exact ⟨k + 1, by omega, by go_num, by rw [HS.out], hb⟩
          case measure => simp [intOf]; omega
      · obtain rfl : k = m4 := by omega
        have hfull : (itexts I).take k = itexts I := List.take_of_length_le (by unfold itexts; rw [List.length_map]; have := HM4.out; omega)
        rw [hfull]
        have HB4 := Lib.hid (HB3.out.trans (hb.mono HB3.out.size))
        have HRD4 := Lib.hid (HRD3.out.later hb)
        have HIF := Lib.hid (iimpl_flat I wr (by have := HM4.out; omega) (fun i hi => (HI.out i hi).1) (tab_stays HT.out HB4.out))
        clear hb hfull HRD3 HB3 HRS
        go_wp2_with fail
        refine HIF.out.mono ?_
        rintro e w5 ⟨v, K, R, rfl, hC, q1, q2, q3, q4, hb5⟩
        have hYne : Y ≠ [] := by
          intro e
          have := HMY.out
          rw [e] at this
          exact hm0 this
        obtain ⟨vc, rfl, hRc⟩ := one_col (by omega) hYne HYS.out HI.out HCOLS.out q1 q2 q3 q4
        obtain ⟨A5, c5, rfl⟩ := own_slice hC.own
        obtain ⟨g5, Ap, cp, rfl, d0, d1, hrows⟩ := hC.at (k := 0) rfl
        simp only at d0 d1 hrows
        rw [hRc] at d1 hrows
        have hRl : (ints Y).length = m := by unfold ints; rw [List.length_map]; exact HMY.out.symm
        rw [hRl] at d1
        have hAp : RdI w5 Ap Y := by
          intro hn0
          obtain ⟨y0, hy0⟩ : ∃ y0, Y[0]? = some y0 := ⟨_, List.getElem?_eq_getElem hn0⟩
          obtain ⟨gp, rfl, cgp⟩ := hrows 0 (y0 : Int) (by unfold ints; rw [List.getElem?_map, hy0]; rfl)
          refine ⟨gp, rfl, cell_lives cgp, fun j y hj => ?_⟩
          obtain ⟨gp', e, cc⟩ := hrows j (y : Int) (by unfold ints; rw [List.getElem?_map, hj]; rfl)
          cases e
          exact cc
        have HSM := Lib.hid (sameints_any Ap (some ⟨g1, 0, none⟩) m cp c1 Y w5 HMY.out (by omega) hAp (HRD4.out.later hb5))
        have HB5 := Lib.hid (HB4.out.trans (hb5.mono HB4.out.size))
        clear hrows hRc hRl hAp hC q1 q2 q3 q4 hb5 HB4 HRD4 HIF hYne
        simp only [List.length_cons, List.length_nil, Nat.zero_mul, Nat.zero_add] at d0 d1 ⊢
        go_wp2_with fail
        refine HSM.out.mono ?_
        rintro e w6 ⟨rfl, hb6⟩
        have HB6 := Lib.hid (HB5.out.trans (hb6.mono HB5.out.size))
        clear hb6 HSM HB5 d0 d1
        go_wp2_with fail
        refine (lives_any _).mono ?_
        rintro e w7 ⟨rfl, hb7⟩
        go_wp2
        go_ret
        exact ⟨rfl, HB6.out.trans (hb7.mono HB6.out.size)⟩

set_option maxHeartbeats 1600000 in
set_option maxRecDepth 100000 in
theorem squashflat_big (A : Option Addr) (n c : Nat) (cn : Int) (w : World) (hn : 2147483647 < n) :
    Calls Tryz.prog 4 #[.int .i64 cn, .slice A n c] w fun e w' => e = .returned (.bool true) ∧ Below w.heap.size w w' := by
  have hi : (2147483647 : Int) < (n : Int) := by omega
  go_enter Tryz.func4, Tryz.ntmps4
  go_wp2
  go_ret
  exact ⟨rfl, Below.refl _ _⟩

theorem squashflat_all (A : Option Addr) (n c : Nat) (cn : Int) (w : World) (hA : ArgI w A n) (htab : Lib.TabIs Tryz.prog w "strings.asciiSpace" .u8 Lib.asciiSpaceTab) (hTab : Tab w) :
    Calls Tryz.prog 4 #[.int .i64 cn, .slice A n c] w fun e w' => e = .returned (.bool true) ∧ Below w.heap.size w w' := by
  by_cases hn : n ≤ 2147483647
  · exact squashflat_law A n c cn w hn hA htab hTab
  · exact squashflat_big A n c cn w (by omega)
end Go.Proofs.YtokooampmhcfeaaGreatDoor.Rg
