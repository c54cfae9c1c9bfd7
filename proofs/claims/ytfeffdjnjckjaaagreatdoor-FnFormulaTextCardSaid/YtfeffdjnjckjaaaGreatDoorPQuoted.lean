/- The reader reads a text between two marks. -/
import Derived.Test.YtfeffdjnjckjaaaGreatDoorPNumber
import Derived.Test.YtfeffdjnjckjaaaGreatDoorJIndex
namespace Go.Proofs.YtfeffdjnjckjaaaGreatDoor.Rg
open Go.RowKit

/-- The text up to a mark that stands alone, and what is left behind it. -/
def quoA (m : UInt8) : List UInt8 → List UInt8 → Option (List UInt8 × List UInt8)
  | _, [] => none
  | acc, [c] => if c = m then some (acc, []) else none
  | acc, c :: c2 :: t => if c = m then (if c2 = m then quoA m (acc ++ [m]) t else some (acc, c2 :: t)) else quoA m (acc ++ [c]) (c2 :: t)
def QuoPost (w : World) (g : Nat) (s : ByteArray) (d : Int) (m : UInt8) (r : List UInt8) (e : Ending) (w' : World) : Prop :=
  match quoA m [] r with
  | some (t, rest) => e = .returned (.string (bs t)) ∧ At w' g s rest d false ∧ Fr w w' g
  | none => ∃ r' : List UInt8, e = .returned (.string (bs [])) ∧ At w' g s r' d true ∧ Fr w w' g
theorem quoA_char {m c : UInt8} (h : c ≠ m) (acc t : List UInt8) : quoA m acc (c :: t) = quoA m (acc ++ [c]) t := by
  cases t with
  | nil => simp [quoA, h]
  | cons c2 t => rw [quoA, if_neg h]

theorem Fr.grow {w w1 w2 : World} {g : Nat} {row : Option Nat} (h : Fr w w1 g) (hg : w1.grownBy w2 row) (hr : ∀ k, row = some k → w.heap.size ≤ k) : Fr w w2 g :=
  ⟨hg.os.trans h.os, hg.tape.trans h.tape, hg.output.trans h.output, Nat.le_trans h.size hg.size, fun k hk hne => (hg.block k (Nat.lt_of_lt_of_le hk h.size) (fun e => by have := hr k e.symm; omega)).trans (h.block k hk hne)⟩
theorem Box.grow {w w' : World} {j : Nat} {cs : Array Value} {t : TypeId} {row : Option Nat} (h : Box w j cs t) (hg : w.grownBy w' row) (hr : row ≠ some j) : Box w' j cs t := h.same (Same.of_grown hg h.lt hr)
theorem At.grow {w w' : World} {g : Nat} {s : ByteArray} {r : List UInt8} {d : Int} {b : Bool} {row : Option Nat} (h : At w g s r d b) (hg : w.grownBy w' row) (hr : row ≠ some g) : At w' g s r d b := h.same (Same.of_grown hg h.lt hr)
theorem own_grow_ne {w : World} {B e size n g : Nat} {v : Value} {xs : List Value} (h : w.ownsRow B e size v n xs) (hg : g < B) : v.ownBlock ≠ some g := fun hv => by
  have := (h.lt g hv).1
  omega

theorem u8_eq {a b : UInt8} (h : a = b) : ((a.toNat : Int) == (b.toNat : Int)) = true := by subst h; simp
theorem u8_ne {a b : UInt8} (h : a ≠ b) : ((a.toNat : Int) == (b.toNat : Int)) = false := by
  rw [beq_eq_false_iff_ne]
  intro h2
  apply h
  have h' : a.toNat = b.toNat := by omega
  exact UInt8.toNat_inj.1 h'

theorem u8_neq {a b : UInt8} (h : a ≠ b) : ((a.toNat : Int) != (b.toNat : Int)) = true := by
  rw [bne, u8_ne h]
  rfl
theorem u8_nneq {a b : UInt8} (h : a = b) : ((a.toNat : Int) != (b.toNat : Int)) = false := by
  rw [bne, u8_eq h]
  rfl
/-- A reader that may be read: its text and its place. -/
def Rdr (w : World) (g : Nat) (s : ByteArray) (k : Nat) : Prop := w.cell? ⟨g, 0, none⟩ = some (.string s) ∧ w.cell? ⟨g, 1, none⟩ = some (.int .i64 k)
theorem Rdr.of {w w' : World} {g : Nat} {s : ByteArray} {k : Nat} (h : Rdr w g s k) (hs : Same w w' g) : Rdr w' g s k := ⟨hs.cell.trans h.1, hs.cell.trans h.2⟩

set_option maxHeartbeats 8000000 in
set_option maxRecDepth 100000 in
theorem quoted_any (g : Nat) (s : ByteArray) (a m : UInt8) (r : List UInt8) (d : Int) (w : World) (h : At w g s (a :: r) d false) :
    Calls Tryz.prog 45 #[.pointer (some ⟨g, 0, none⟩), .int .u8 m.toNat] w (QuoPost w g s d m r) := by
  obtain ⟨i0, hi, hz0, hz1, hz2⟩ := info_parts infoByte
  obtain ⟨q, q0, q1, HQ, c1, f1⟩ := h.see
  have HA := Lib.hid (h.step (q + 1) (by rw [HQ.out]))
  have HF := Lib.hid (Fr.set (w := w) g 1 (.int .i64 (q + 1)))
  have hgw := h.lt
  have hr8 : r.length ≤ 8192 := by
    have h1 := h.len
    have h2 := h.small
    rw [List.length_cons] at h1
    omega
  have HR8 := Lib.hid hr8
  clear h hr8
  go_enter Tryz.func45, Tryz.ntmps45
  go_upto_region 3 with (fail)
  clear c1 f1
  generalize w.setCell ⟨g, 1, none⟩ (.int .i64 (q + 1)) = w1 at HA HF ⊢
  go_loopw [5] (fun u wr => ∃ (o r' : List UInt8), Hid (quoA m o r' = quoA m [] r) ∧ Hid (At wr g s r' d false) ∧ Hid (wr.ownsRow w.heap.size 5 1 u o.length (o.map enc)) ∧ Hid (Fr w wr g) ∧ Hid (o.length + r'.length ≤ r.length)) (fun _ wr => left wr g)
  case atStart => exact ⟨[], r, Lib.hid rfl, HA, Lib.hid (World.ownsRow_nil _ _ _ _), HF, Lib.hid (by simp)⟩
  clear HA HF
  case round =>
    obtain ⟨o, r', HO, HA, HW, HF, HL⟩ := hrel
    have c0 := HA.out.c0
    cases r' with
    | nil =>
      obtain ⟨k, hk, hks, HK1, HK2, c1⟩ := HA.out.nat
      have hd : decide (k < s.size) = false := by
        have := HK1.out
        simp at this ⊢
        omega
      have b3 := HA.out.c3
      have bf := HA.out.free 3
      go_wp2_with fail
      go_quiet (fail)
      go_wp2
      go_ret
      unfold QuoPost
      rw [← HO.out]
      exact ⟨_, rfl, (HA.out.drewN _).setBad true, (HF.out.trans (Fr.drewN _ _ _)).trans (Fr.set _ _ _)⟩
    | cons c t =>
      obtain ⟨k, hk, hks, hka⟩ := HA.out.head
      have hk8 : (k : Int) ≤ 8191 := by
        have := HA.out.small
        omega
      have hk0 : (0 : Int) ≤ (k : Int) := by omega
      have HK := Lib.hid hk
      have c1 := HA.out.c1
      rw [hk] at c1
      have hd : decide (k < s.size) = true := by simpa using hks
      have HM := Lib.hid HA.out.left
      clear hk
      by_cases hcm : c = m
      · subst hcm
        have hne := u8_nneq (rfl : c = c)
        have hw0 : IntKind.i64.wrap ((k : Int) + 1) = (k : Int) + 1 := by rw [IntKind.wrap_i64]; omega
        have hw1 : (0 : Int) ≤ (k : Int) + 1 := by omega
        have hw2 : ((k : Int) + 1).toNat = k + 1 := by omega
        cases t with
        | nil =>
          have hd2 : decide ((s.size : Int) ≤ (k : Int) + 1) = true := by
            have := HK.out
            simp at this ⊢
            omega
          have HQ2 : Hid (quoA c o [c] = some (o, [])) := by
            show quoA c o [c] = some (o, [])
            simp [quoA]
          go_wp2_with fail
          go_quiet (fail)
          revert nq
          intro n1
          go_wp2_with fail
          go_quiet (fail)
          revert nq
          intro n2
          go_wp2_with fail
          go_quiet (fail)
          have f1 := HA.out.free 1
          go_upto_region 9 with (fail)
          have HA2 := Lib.hid ((HA.out.drewN (n1 + n2 + nq)).step ((k : Int) + 1) (by rw [HK.out]))
          have HF2 := Lib.hid ((HF.out.trans (Fr.drewN _ _ (n1 + n2 + nq))).trans (Fr.set g 1 (.int .i64 ((k : Int) + 1))))
          have HW2 := Lib.hid (own_same (own_below HW.out (below_drewN _ (n1 + n2 + nq))) (w' := (wr.drewN (n1 + n2 + nq)).setCell ⟨g, 1, none⟩ (.int .i64 ((k : Int) + 1))) fun b hb => Same.of_set _ _ (by
            have := (HW.out.lt b hb).1
            show b ≠ g
            omega))
          generalize (wr.drewN (n1 + n2 + nq)).setCell ⟨g, 1, none⟩ (.int .i64 ((k : Int) + 1)) = w4 at HA2 HF2 HW2 ⊢
          have hcv := run_convert_own (P := Tryz.prog) (l := o) HW2.out 75 5 9 Tryz.underlying75 Tryz.underlying5 Tryz.underlying9
          clear c0 c1 f1
          go_wp2
          go_ret
          unfold QuoPost
          rw [← HO.out, HQ2.out]
          exact ⟨rfl, HA2.out, HF2.out⟩
        | cons c2 t2 =>
          have hd2 : decide ((s.size : Int) ≤ (k : Int) + 1) = false := by
            have := HK.out
            simp at this ⊢
            omega
          obtain ⟨k2, hk2, hks2, hka2⟩ := (HA.out.step ((k : Int) + 1) (by rw [HK.out])).head
          obtain rfl : k2 = k + 1 := by
            have := HK.out
            simp at this hk2
            omega
          have hlt2 : (k : Int) + 1 < (s.size : Int) := by omega
          clear hk2
          by_cases hc2 : c2 = c
          · subst hc2
            have hne2 := u8_nneq (rfl : c2 = c2)
            have HO2 : Hid (quoA c2 (o ++ [c2]) t2 = quoA c2 [] r) := by
              rw [← HO.out]
              show quoA c2 (o ++ [c2]) t2 = quoA c2 o (c2 :: c2 :: t2)
              simp [quoA]
            have HL2 : Hid ((o ++ [c2]).length + t2.length ≤ r.length) := by
              have h1 := HL.out
              show (o ++ [c2]).length + t2.length ≤ r.length
              rw [List.length_append]
              simp at h1 ⊢
              omega
            go_wp2_with fail
            go_quiet (fail)
            revert nq
            intro n1
            go_wp2_with fail
            go_quiet (fail)
            revert nq
            intro n2
            go_wp2_with fail
            go_quiet (fail)
            have HA2 := Lib.hid (HA.out.drewN (n1 + n2 + nq))
            have HF2 := Lib.hid (HF.out.trans (Fr.drewN _ _ (n1 + n2 + nq)))
            have HW2 := Lib.hid (own_below HW.out (below_drewN _ (n1 + n2 + nq)))
            go_upto_region 10 with (fail)
            try simp only [World.drewN_drewN]
            generalize wr.drewN (n1 + n2 + nq) = w4 at HA2 HF2 HW2 ⊢
            clear c0 c1 hka2 hka hd hd2 hne hne2
            have hown := own_below HW2.out ((Below.refl w4.heap.size w4).alloc (Nat.le_refl _) (.cells #[.int .u8 c2.toNat] 5))
            have hAA := HA2.out.alloc (.cells #[.int .u8 c2.toNat] 5)
            have hFA := HF2.out.alloc (.cells #[.int .u8 c2.toNat] 5)
            have hsz : w.heap.size ≤ w4.heap.size := HF2.out.size
            go_wp2_with (at_builtin; refine wpList_append_own _ rfl _ _ 75 rfl w.heap.size 5 i0 _ 1 1 Tryz.underlying75 hi hz0 hz1 hz2 rfl (by decide) _ _ _ rfl hown ⟨w4.heap.size, 0, none⟩ 1 1 [.int .u8 c2.toNat] rfl rfl ?c1 ?c2 ?c3 ?c4 ?c5 ?_)
            case c1 => exact newAt w4 [.int .u8 c2.toNat] _ _ rfl
            case c2 =>
              intro u hu
              simp at hu
              subst hu
              rfl
            case c3 =>
              have h1 := HL.out
              have h2 := HR8.out
              simp at h1
              unfold maxLen
              omega
            case c4 =>
              have h1 := HL.out
              have h2 := HR8.out
              simp at h1
              omega
            case c5 => exact Nat.le_trans hsz (by simp)
            intro v' w3 hown' hgr _
            have HA3 := Lib.hid (hAA.grow hgr (own_grow_ne HW2.out hgw))
            have HF3 := Lib.hid (hFA.grow hgr (fun k hk => (hown.lt k hk).1))
            have HW3 : Hid (w3.ownsRow w.heap.size 5 1 v' (o ++ [c2]).length ((o ++ [c2]).map enc)) := by
              show w3.ownsRow w.heap.size 5 1 v' (o ++ [c2]).length ((o ++ [c2]).map enc)
              rw [List.length_append, List.map_append]
              exact hown'
            clear hown' hgr hAA hFA hown
            obtain ⟨p, p0, p1, HP, c1, f1⟩ := HA3.out.see
            have HA4 := Lib.hid (HA3.out.setAt t2 (p + 2) (by rw [HP.out]; simp; omega) (((List.suffix_cons _ _).trans (List.suffix_cons _ _)).trans HA3.out.suf))
            go_wp2
            go_roundw
            case rel => exact ⟨o ++ [c2], t2, HO2, HA4, Lib.hid (own_same HW3.out fun b hb => Same.of_set _ _ (by
              have := (HW3.out.lt b hb).1
              show b ≠ g
              omega)), Lib.hid (HF3.out.trans (Fr.set g 1 _)), HL2⟩
            case measure =>
              rw [HA4.out.left, HM.out]
              simp
              omega
          · have hne2 := u8_neq hc2
            have HQ2 : Hid (quoA c o (c :: c2 :: t2) = some (o, c2 :: t2)) := by
              show quoA c o (c :: c2 :: t2) = some (o, c2 :: t2)
              simp [quoA, hc2]
            clear hc2
            go_wp2_with fail
            go_quiet (fail)
            revert nq
            intro n1
            go_wp2_with fail
            go_quiet (fail)
            revert nq
            intro n2
            go_wp2_with fail
            go_quiet (fail)
            have f1 := HA.out.free 1
            go_upto_region 9 with (fail)
            have HA2 := Lib.hid ((HA.out.drewN (n1 + n2 + nq)).step ((k : Int) + 1) (by rw [HK.out]))
            have HF2 := Lib.hid ((HF.out.trans (Fr.drewN _ _ (n1 + n2 + nq))).trans (Fr.set g 1 (.int .i64 ((k : Int) + 1))))
            have HW2 := Lib.hid (own_same (own_below HW.out (below_drewN _ (n1 + n2 + nq))) (w' := (wr.drewN (n1 + n2 + nq)).setCell ⟨g, 1, none⟩ (.int .i64 ((k : Int) + 1))) fun b hb => Same.of_set _ _ (by
              have := (HW.out.lt b hb).1
              show b ≠ g
              omega))
            generalize (wr.drewN (n1 + n2 + nq)).setCell ⟨g, 1, none⟩ (.int .i64 ((k : Int) + 1)) = w4 at HA2 HF2 HW2 ⊢
            have hcv := run_convert_own (P := Tryz.prog) (l := o) HW2.out 75 5 9 Tryz.underlying75 Tryz.underlying5 Tryz.underlying9
            clear c0 c1 f1
            go_wp2
            go_ret
            unfold QuoPost
            rw [← HO.out, HQ2.out]
            exact ⟨rfl, HA2.out, HF2.out⟩
      · have hne := u8_neq hcm
        have HO2 := Lib.hid ((quoA_char hcm o t).symm.trans HO.out)
        clear hcm
        go_wp2_with fail
        go_quiet (fail)
        revert nq
        intro n1
        go_wp2_with fail
        go_quiet (fail)
        revert nq
        intro n2
        go_wp2_with fail
        have HA := Lib.hid ((HA.out.drewN n1).drewN n2)
        have HF := Lib.hid ((HF.out.trans (Fr.drewN _ _ n1)).trans (Fr.drewN _ _ n2))
        have HW := Lib.hid (own_below (own_below HW.out (below_drewN _ n1)) (below_drewN _ n2))
        have hR : Rdr ((wr.drewN n1).drewN n2) g s k := ⟨c0, c1⟩
        generalize (wr.drewN n1).drewN n2 = w2 at HA HF HW hR ⊢
        clear c0 c1 hd hne HO
        have hR0 : Rdr w2.drew g s k := hR
        have hgz := HA.out.lt
        have hsz : w.heap.size ≤ w2.heap.size := HF.out.size
        have hRA : Rdr (w2.drew.alloc (.cells #[.int .u8 c.toNat] 5)) g s k := hR.of (Same.of_below ((Below.refl _ _).drew.alloc (Nat.le_refl _) _) hgz)
        have hWA := own_below HW.out ((Below.refl w2.heap.size w2).drew.alloc (Nat.le_refl _) (.cells #[.int .u8 c.toNat] 5))
        have hAA := HA.out.drew.alloc (.cells #[.int .u8 c.toNat] 5)
        have hFA := HF.out.drew.alloc (.cells #[.int .u8 c.toNat] 5)
        refine wp_region_late (List.replicate 13 false) [true, true, true, true, true, true, true, true, true, true, false, false, false] (S := fun w' => Rdr w' g s k) (by kernel_rfl) (by kernel_rfl) (by kernel_rfl) (fun d _ _ _ _ h => by cases d <;> exact h) hR0 ?_
        simp only [List.replicate, swaps]
        iterate 10
          refine seqT_take (v := ?_) (by rfl) ?_ ?_
          rotate_left
          · intro w' hSw
            obtain ⟨s0, s1⟩ := hSw
            go_simp
            try (with_reducible rfl)
          try simp only [Act.put, List.setIfInBounds_toArray, List.set_cons_zero, List.set_cons_succ]
        refine seqT_solo (by rfl) (fun K hK => ?_)
        go_simp
        refine hK.out _ _ (fun _ => hRA) ?_
        clear hK K
        try simp only [Act.put, List.setIfInBounds_toArray, List.set_cons_zero, List.set_cons_succ]
        refine seqT_solo (by rfl) (fun K hK => ?_)
        refine wp_append_own _ (.tmp 34) (.tmp 44) 75 rfl w.heap.size 5 i0 _ 1 1 Tryz.underlying75 hi hz0 hz1 hz2 rfl (by decide) _ _ _ rfl hWA ⟨w2.heap.size, 0, none⟩ 1 1 [.int .u8 c.toNat] rfl rfl ?c1 ?c2 ?c3 ?c4 ?c5 (fun v' w3 hown' hgr _ => hK.out _ _ ?c6 ?c7)
        case c1 => exact newAt w2.drew [.int .u8 c.toNat] _ _ rfl
        case c2 =>
          intro u hu
          simp at hu
          subst hu
          rfl
        case c3 =>
          have h1 := HL.out
          have h2 := HR8.out
          rw [List.length_cons] at h1
          unfold maxLen
          omega
        case c4 =>
          have h1 := HL.out
          have h2 := HR8.out
          rw [List.length_cons] at h1
          omega
        case c5 => exact Nat.le_trans hsz (by simp)
        case c6 =>
          intro _
          refine hRA.of (Same.of_grown hgr (by simp; omega) ?_)
          exact own_grow_ne HW.out hgw
        case c7 =>
          clear hK K
          try simp only [Act.put, List.setIfInBounds_toArray, List.set_cons_zero, List.set_cons_succ]
          refine seqT_solo (by rfl) (fun K hK => ?_)
          go_simp
          refine hK.out _ _ (fun h => absurd rfl h) ?_
          clear hK K
          try simp only [Act.put, List.setIfInBounds_toArray, List.set_cons_zero, List.set_cons_succ]
          refine seqT_done ?_
          have HA3 := Lib.hid (hAA.grow hgr (own_grow_ne HW.out hgw))
          have HF3 := Lib.hid (hFA.grow hgr (fun k hk => (hWA.lt k hk).1))
          have HW3 : Hid (w3.ownsRow w.heap.size 5 1 v' (o ++ [c]).length ((o ++ [c]).map enc)) := by
            show w3.ownsRow w.heap.size 5 1 v' (o ++ [c]).length ((o ++ [c]).map enc)
            rw [List.length_append, List.map_append]
            exact hown'
          clear hown' hgr hAA hFA hWA hRA hR0 hR
          obtain ⟨p, p0, p1, HP, c1, f1⟩ := HA3.out.see
          have HL2 : Hid ((o ++ [c]).length + t.length ≤ r.length) := by
            have h1 := HL.out
            show (o ++ [c]).length + t.length ≤ r.length
            rw [List.length_append]
            simp at h1 ⊢
            omega
          have HA4 := Lib.hid (HA3.out.step (p + 1) (by rw [HP.out]))
          go_wp2
          go_roundw
          case rel => exact ⟨o ++ [c], t, HO2, HA4, Lib.hid (own_same HW3.out fun b hb => Same.of_set _ _ (by
            have := (HW3.out.lt b hb).1
            show b ≠ g
            omega)), Lib.hid (HF3.out.trans (Fr.set g 1 _)), HL2⟩
          case measure =>
            rw [HA4.out.left, HM.out, List.length_cons]
            omega

end Go.Proofs.YtfeffdjnjckjaaaGreatDoor.Rg
