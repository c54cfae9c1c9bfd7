/- The reader reads a number, a string, or an error. -/
import Derived.Test.YtfeffdjnjckjaaaGreatDoorPWord
namespace Go.Proofs.YtfeffdjnjckjaaaGreatDoor.Rg
open Go.RowKit

theorem u8_dec {a b : UInt8} {y : Bool} (h : ((a.toNat : Int) == (b.toNat : Int)) = y) : decide (a = b) = y := by
  by_cases hab : a = b
  · rw [u8_eq hab] at h
    rw [← h]
    simpa using hab
  · rw [u8_ne hab] at h
    rw [← h]
    simpa using hab
theorem quo_step {m : UInt8} {r : List UInt8} (h : pk r = m) (hm : m ≠ 0) : r = m :: r.tail := by
  have h2 := pk_cons (r := r) (by rw [h]; exact hm)
  rw [h] at h2
  exact h2

set_option maxHeartbeats 16000000 in
set_option maxRecDepth 100000 in
theorem lit_any (g : Nat) (s : ByteArray) (r : List UInt8) (d : Int) (w : World) (h : At w g s r d false) (hl : isLit (pk r) = true) :
    Calls Tryz.prog 34 #[.pointer (some ⟨g, 0, none⟩)] w (TreePost w g s d (litP r)) := by
  obtain ⟨j, hj⟩ : ∃ j, w.heap.size = j := ⟨_, rfl⟩
  have hgj : g < j := hj ▸ h.lt
  obtain ⟨W, hW⟩ : ∃ W, w.alloc (.cells (exCells Ev.zero) 25) = W := ⟨_, rfl⟩
  have HA : Hid (At W g s r d false) := by subst hW; exact h.alloc _
  have HF : Hid (Fr w W g) := by subst hW; exact (Fr.refl w g).alloc _
  have HB : Hid (Box W j (exCells Ev.zero) 25) := by subst hW; subst hj; exact Box.made _ _ _
  have HJ := Lib.hid hj
  have HW := Lib.hid hW
  clear h hj hW
  unfold exCells at HW
  simp only [Ev.zero] at HW
  go_enter Tryz.func34, Tryz.ntmps34
  go_wp2_with fail
  rw [HJ.out, HW.out]
  clear HW
  refine (peek_any g s r d false W HA.out).mono ?_
  rintro e w' ⟨rfl, m0, rfl⟩
  have HA := Lib.hid (HA.out.drewN m0)
  have HF := Lib.hid (HF.out.trans (Fr.drewN _ _ m0))
  have HB := Lib.hid (HB.out.drewN m0)
  generalize W.drewN m0 = w1 at HA HF HB ⊢
  have NM := Lib.hid (fun w => num_any (pk r) w)
  by_cases hn : isNum (pk r) = true
  · have HZ : Hid (litP r = numP r) := Lib.hid (if_pos hn)
    rw [hn] at NM
    clear hl hn
    go_wp2_with (first | (go_at_call 43; refine (NM.out _).mono ?_; rintro e w' ⟨rfl, rfl⟩))
    refine (number_any g s r d w1 HA.out).mono ?_
    intro e w9 hpost
    obtain ⟨v, rfl, hB, hT⟩ := relay hpost HF.out HB.out hgj (by have := HJ.out; omega)
    have HT9 := Lib.hid hT
    have HB9 := Lib.hid hB
    clear hpost hT hB
    obtain ⟨x0, x1, x2, x3, x4, x5, x6, x7, x8, x9, x10, x11, x12, x13⟩ := HB9.out.ex
    have ff := HB9.out.free
    unfold Ev.val
    go_wp2
    refine tree_put v rfl rfl HB9.out ?_
    rw [HZ.out]
    exact HT9.out
  · have hn2 : isNum (pk r) = false := by simpa using hn
    rw [hn2] at NM
    by_cases h34 : pk r = 34
    · have hq : (((pk r).toNat : Int) == 34) = true := u8_eq h34
      have HZ : Hid (litP r = match quoA 34 [] r.tail with
        | some (_, rest) => .ok .odd rest
        | none => .bad) := Lib.hid ((if_neg hn).trans (if_pos h34))
      have HC := Lib.hid (quo_step h34 (by decide))
      have hA2 := HA.out
      rw [HC.out] at hA2
      have QU := Lib.hid (quoted_any g s 34 34 r.tail d w1 hA2)
      clear hl hn hn2 h34 hA2
      go_wp2_with (first | (go_at_call 43; refine (NM.out _).mono ?_; rintro e w' ⟨rfl, rfl⟩))
      refine QU.out.mono ?_
      intro e w2 hpost
      unfold QuoPost at hpost
      have hz := HZ.out
      cases hqu : quoA 34 [] r.tail with
      | none =>
        rw [hqu] at hpost hz
        obtain ⟨r2, rfl, hA, hF⟩ := hpost
        have HZ2 := Lib.hid hz
        have HB2 := Lib.hid (HB.out.fr hF (by omega))
        have HF2 := Lib.hid (HF.out.trans hF)
        have HA2 := Lib.hid hA
        clear hqu hz hA hF QU
        obtain ⟨x0, x1, x2, x3, x4, x5, x6, x7, x8, x9, x10, x11, x12, x13⟩ := HB2.out.ex
        have ff := HB2.out.free
        go_wp2
        refine tree_put { Ev.zero with op := sText, text := bs [] } rfl rfl HB2.out ?_
        rw [HZ2.out]
        exact ⟨_, _, _, rfl, HA2.out.put _ (by omega), HF2.out.put _ (by have := HJ.out; omega)⟩
      | some x =>
        obtain ⟨t, rest⟩ := x
        rw [hqu] at hpost hz
        obtain ⟨rfl, hA, hF⟩ := hpost
        have HZ2 := Lib.hid hz
        have HB2 := Lib.hid (HB.out.fr hF (by omega))
        have HF2 := Lib.hid (HF.out.trans hF)
        have HA2 := Lib.hid hA
        clear hqu hz hA hF QU
        obtain ⟨x0, x1, x2, x3, x4, x5, x6, x7, x8, x9, x10, x11, x12, x13⟩ := HB2.out.ex
        have ff := HB2.out.free
        go_wp2
        refine tree_put { Ev.zero with op := sText, text := bs t } rfl rfl HB2.out ?_
        rw [HZ2.out]
        exact ⟨_, rfl, by show sText ∈ oddOps; simp [oddOps], HA2.out.put _ (by omega), HF2.out.put _ (by have := HJ.out; omega)⟩
    · have hq : (((pk r).toNat : Int) == 34) = false := u8_ne h34
      have h35 : pk r = 35 := by
        unfold isLit at hl
        rw [hn2] at hl
        simpa [h34] using hl
      have hq2 : (((pk r).toNat : Int) == 35) = true := u8_eq h35
      have HZ : Hid (litP r = failP r) := Lib.hid ((if_neg hn).trans (if_neg h34))
      clear hl hn hn2 h34 h35
      go_wp2_with (first | (go_at_call 43; refine (NM.out _).mono ?_; rintro e w' ⟨rfl, rfl⟩))
      refine (failure_any g s r d w1 HA.out).mono ?_
      intro e w9 hpost
      obtain ⟨v, rfl, hB, hT⟩ := relay hpost HF.out HB.out hgj (by have := HJ.out; omega)
      have HT9 := Lib.hid hT
      have HB9 := Lib.hid hB
      clear hpost hT hB
      obtain ⟨x0, x1, x2, x3, x4, x5, x6, x7, x8, x9, x10, x11, x12, x13⟩ := HB9.out.ex
      have ff := HB9.out.free
      unfold Ev.val
      go_wp2
      refine tree_put v rfl rfl HB9.out ?_
      rw [HZ.out]
      exact HT9.out

end Go.Proofs.YtfeffdjnjckjaaaGreatDoor.Rg
