/- The reader reads a cell. -/
import Derived.Test.YtfeffdjnjckjaaaGreatDoorPOperator
import Derived.Test.YtfeffdjnjckjaaaGreatDoorJPlan
namespace Go.Proofs.YtfeffdjnjckjaaaGreatDoor.Rg
open Go.RowKit

/-- The number of a letter, from 1. -/
def colOf (a : UInt8) : Nat := (up a).toNat - 65 + 1
def letsA : Nat → Nat → Nat → List UInt8 → Nat × Nat × List UInt8
  | 0, c, n, r => (c, n, r)
  | f + 1, c, n, r => if isAlpha (pk r) then letsA f (26 * c + colOf (pk r)) (n + 1) r.tail else (c, n, r)
def digsA : Nat → Nat → Nat → List UInt8 → Nat × Nat × List UInt8
  | 0, c, n, r => (c, n, r)
  | f + 1, c, n, r => if isNum (pk r) then digsA f (10 * c + ((pk r).toNat - 48)) (n + 1) r.tail else (c, n, r)
/-- What a dollar leaves. -/
def dol (r : List UInt8) : Bool × List UInt8 := if pk r = 36 then (true, r.tail) else (false, r)
structure CellR where
  col : Nat
  row : Nat
  fa : Bool
  fb : Bool
  ok : Bool
  rest : List UInt8
def cellP (r : List UInt8) : CellR :=
  let (fa, r1) := dol r
  let (col, n, r2) := letsA 4 0 0 r1
  if n = 0 ∨ col > 16384 then ⟨0, 0, fa, false, false, r2⟩ else
  let (fb, r3) := dol r2
  let (row, m, r4) := digsA 8 0 0 r3
  ⟨col, row, fa, fb, decide (0 < m) && decide (1 ≤ row) && decide (row ≤ 1048576), r4⟩

theorem pk_cons {r : List UInt8} (h : pk r ≠ 0) : r = pk r :: r.tail := by
  cases r with
  | nil => simp [pk] at h
  | cons a r => rfl
theorem alpha_pos {c : UInt8} (h : isAlpha c = true) : c ≠ 0 := by
  intro e
  subst e
  revert h
  decide
theorem num_pos {c : UInt8} (h : isNum c = true) : c ≠ 0 := by
  intro e
  subst e
  revert h
  decide
theorem up_range {c : UInt8} (h : isAlpha c = true) : 65 ≤ (up c).toNat ∧ (up c).toNat ≤ 90 := by
  unfold up
  by_cases h1 : 97 ≤ c.toNat ∧ c.toNat ≤ 122
  · have hc := c.toNat_lt
    rw [if_pos (by simp; exact h1), UInt8.toNat_sub]
    simp
    omega
  · rw [if_neg (by simp; omega)]
    simp [isAlpha] at h
    omega

/-- A block of two bools, and another that may be written. -/
def Twos (w : World) (j i : Nat) (x y : Bool) : Prop := Box w j #[.bool x, .bool y] 87 ∧ ∃ cs, Box w i cs 87 ∧ cs.size = 2
theorem Twos.stored {w : World} {j i : Nat} {x y : Bool} (h : Twos w j i x y) (hne : j ≠ i) (u v : Value) : Twos ((w.setCell ⟨i, 0, none⟩ u).setCell ⟨i, 1, none⟩ v) j i x y := by
  obtain ⟨h1, cs, h2, h3⟩ := h
  exact ⟨(h1.other _ _ hne).other _ _ hne, _, (h2.set _ _).set _ _, by simpa using h3⟩

theorem num_range {c : UInt8} (h : isNum c = true) : 48 ≤ c.toNat ∧ c.toNat ≤ 57 := by
  simpa [isNum] using h

/-- One dollar is taken, or none. -/
theorem dollar_any (g : Nat) (s : ByteArray) (r : List UInt8) (d : Int) (b : Bool) (w : World) (h : At w g s r d b) :
    Calls Tryz.prog 23 #[.pointer (some ⟨g, 0, none⟩), .string ⟨#[36]⟩] w fun e w' => e = .returned (.bool (dol r).1) ∧ At w' g s (dol r).2 d b ∧ Fr w w' g := by
  unfold dol
  by_cases hp : pk r = 36
  · rw [if_pos hp]
    obtain ⟨r2, rfl⟩ : ∃ r2, r = [36] ++ r2 := ⟨r.tail, by rw [pk_cons (r := r) (by rw [hp]; decide), hp]; rfl⟩
    exact takes_yes g s [36] r2 d b w h
  · rw [if_neg hp]
    refine (takes_no g s ⟨#[36]⟩ r d b w h ?_).mono ?_
    · intro hpre
      obtain ⟨t, ht⟩ := hpre
      apply hp
      rw [← ht]
      rfl
    · rintro e w' ⟨rfl, n, rfl⟩
      exact ⟨rfl, h.drewN n, Fr.drewN _ _ _⟩

def CellPost (w : World) (g : Nat) (s : ByteArray) (c : CellR) (d : Int) (b : Bool) (e : Ending) (w' : World) : Prop :=
  e = .returned (.tuple #[.int .i64 c.col, .int .i64 c.row, .agg #[.bool c.fa, .bool c.fb], .bool c.ok]) ∧ At w' g s c.rest d b ∧ Fr w w' g

set_option maxHeartbeats 16000000 in
set_option maxRecDepth 100000 in
theorem cell_any (g : Nat) (s : ByteArray) (r : List UInt8) (d : Int) (b : Bool) (w : World) (h : At w g s r d b) :
    Calls Tryz.prog 58 #[.pointer (some ⟨g, 0, none⟩)] w (CellPost w g s (cellP r) d b) := by
  obtain ⟨j4, hj4⟩ : ∃ j4, w.heap.size = j4 := ⟨_, rfl⟩
  have hgj : g < j4 := hj4 ▸ h.lt
  obtain ⟨W, hW⟩ : ∃ W, (w.alloc (.cells #[.bool false, .bool false] 87)).alloc (.cells #[.bool false, .bool false] 87) = W := ⟨_, rfl⟩
  have HA : Hid (At W g s r d b) := by subst hW; exact (h.alloc _).alloc _
  have HF : Hid (Fr w W g) := by subst hW; exact ((Fr.refl w g).alloc _).alloc _
  have HB4 : Hid (Box W j4 #[.bool false, .bool false] 87) := by subst hW; subst hj4; exact (Box.made _ _ _).alloc _
  have HB6 : Hid (Box W (j4 + 1) #[.bool false, .bool false] 87) := by
    show Box W (j4 + 1) #[.bool false, .bool false] 87
    subst hW
    subst hj4
    have := Box.made (w.alloc (.cells #[.bool false, .bool false] 87)) #[.bool false, .bool false] 87
    simpa using this
  have HJ := Lib.hid hj4
  have HW := Lib.hid hW
  clear h hj4 hW
  go_enter Tryz.func58, Tryz.ntmps58
  go_wp2_with fail
  rw [HJ.out, HW.out]
  clear HW
  have DL := Lib.hid (dollar_any g s r d b W HA.out)
  generalize hdr : dol r = dr at DL
  obtain ⟨fa, r1⟩ := dr
  have HD := Lib.hid hdr
  clear hdr
  refine DL.out.mono ?_
  rintro e w2 ⟨rfl, hA, hF⟩
  clear DL
  replace HB4 := Lib.hid (HB4.out.fr hF (by omega))
  replace HB6 := Lib.hid (HB6.out.fr hF (by omega))
  replace HF := Lib.hid (HF.out.trans hF)
  have f6 := HB6.out.free 0
  have c6 : w2.cell? ⟨j4 + 1, 0, none⟩ = some (.bool false) := HB6.out.cell 0
  have HA := Lib.hid hA
  clear hA hF
  go_wp2_with fail
  clear f6 c6
  replace HB4 := Lib.hid (HB4.out.other (k := j4 + 1) 0 (.bool fa) (by omega))
  replace HB6 : Hid (Box (w2.setCell ⟨j4 + 1, 0, none⟩ (.bool fa)) (j4 + 1) #[.bool fa, .bool false] 87) := HB6.out.set 0 (.bool fa)
  replace HA := Lib.hid (HA.out.other (k := j4 + 1) 0 (.bool fa) (by omega))
  replace HF := Lib.hid (HF.out.own (j := j4 + 1) 0 (.bool fa) (by have := HJ.out; omega))
  generalize w2.setCell ⟨j4 + 1, 0, none⟩ (.bool fa) = w3 at *
  have hW : Hid (letsA (4 - 0) 0 0 r1 = letsA 4 0 0 r1) := Lib.hid rfl
  go_loopw [7, 8] (fun c n wr => ∃ (cn nn : Nat) (r2 : List UInt8), nn ≤ 4 ∧ c = .int .i64 cn ∧ n = .int .i64 nn ∧ Hid (cn + 1 ≤ 27 ^ nn) ∧ Hid (letsA (4 - nn) cn nn r2 = letsA 4 0 0 r1) ∧ Hid (At wr g s r2 d b) ∧ Hid (Fr w wr g) ∧ Hid (Box wr j4 #[.bool false, .bool false] 87) ∧ Hid (Box wr (j4 + 1) #[.bool fa, .bool false] 87)) (fun _ n _ => 4 - (intOf n).toNat)
  case atStart => exact ⟨0, 0, r1, by omega, rfl, rfl, Lib.hid (by decide), hW, HA, HF, HB4, HB6⟩
  clear hW HA HF HB4 HB6
  case round =>
    obtain ⟨cn, nn, r2, hn, rfl, rfl, HN, HL, HA, HF, HB4, HB6⟩ := hrel
    have PK := Lib.hid (peek_any g s r2 d b wr HA.out)
    have AL := Lib.hid (fun w => alpha_any (pk r2) w)
    have hcn : cn + 1 ≤ 27 ^ 4 := Nat.le_trans HN.out (Nat.pow_le_pow_right (by decide) hn)
    have hcn : (cn : Int) ≤ 531440 := by omega
    have hcn0 : (0 : Int) ≤ (cn : Int) := by omega
    have hn0 : (0 : Int) ≤ (nn : Int) := by omega
    by_cases hgo : isAlpha (pk r2) = true ∧ nn < 4
    · obtain ⟨ha, h4⟩ := hgo
      rw [ha] at AL
      have PK2 := Lib.hid (fun n => peek_any g s r2 d b (wr.drewN n) (HA.out.drewN n))
      have UP := Lib.hid (fun w => upper_any (pk r2) w)
      obtain ⟨u1, u2⟩ := up_range ha
      have HU : Hid ((26 * cn + colOf (pk r2) : Nat) = 26 * (cn : Int) + (((up (pk r2)).toNat : Int) - 65) + 1) := by
        show ((26 * cn + colOf (pk r2) : Nat) : Int) = _
        unfold colOf
        omega
      have HL2 : Hid (letsA (4 - (nn + 1)) (26 * cn + colOf (pk r2)) (nn + 1) r2.tail = letsA 4 0 0 r1) := by
        show letsA (4 - (nn + 1)) (26 * cn + colOf (pk r2)) (nn + 1) r2.tail = letsA 4 0 0 r1
        rw [← HL.out]
        have e : 4 - nn = (4 - (nn + 1)) + 1 := by omega
        rw [e, letsA, if_pos ha]
      have HN2 : Hid (26 * cn + colOf (pk r2) + 1 ≤ 27 ^ (nn + 1)) := by
        show 26 * cn + colOf (pk r2) + 1 ≤ 27 ^ (nn + 1)
        have := HN.out
        have : 1 ≤ 27 ^ nn := Nat.one_le_pow _ _ (by decide)
        unfold colOf
        rw [Nat.pow_succ]
        omega
      have HR := Lib.hid (pk_cons (alpha_pos ha))
      obtain ⟨q, q0, q1, HQ, c1, f1⟩ := HA.out.see
      have hu0 : (65 : Int) ≤ ((up (pk r2)).toNat : Int) := by omega
      have hu1 : ((up (pk r2)).toNat : Int) ≤ 90 := by omega
      generalize hu : ((up (pk r2)).toNat : Int) = u at UP HU hu0 hu1
      clear u1 u2 hu ha HN HL
      go_wp2_with (first
        | (go_at_call 60; refine (AL.out _).mono ?_; rintro e w' ⟨rfl, rfl⟩)
        | (go_at_call 67; refine (UP.out _).mono ?_; rintro e w' ⟨rfl, rfl⟩)
        | (go_at_call 18; refine PK.out.mono ?_; rintro e w' ⟨rfl, m1, rfl⟩)
        | (go_at_call 18; refine (PK2.out _).mono ?_; rintro e w' ⟨rfl, m2, rfl⟩))
      go_roundw
      case rel =>
        refine ⟨26 * cn + colOf (pk r2), nn + 1, r2.tail, by omega, by rw [HU.out], by go_num, HN2, HL2, Lib.hid ?_, Lib.hid ?_, Lib.hid ?_, Lib.hid ?_⟩
        · have h1 := HA.out.drewN (m1 + m2)
          rw [HR.out] at h1
          exact h1.step _ (by rw [HQ.out, ← HR.out])
        · exact (HF.out.trans (Fr.drewN _ _ _)).trans (Fr.set _ _ _)
        · exact (HB4.out.drewN _).other _ _ (by omega)
        · exact (HB6.out.drewN _).other _ _ (by omega)
      case measure => simp [intOf]; omega
    · have HS : Hid (letsA 4 0 0 r1 = (cn, nn, r2)) := by
        show letsA 4 0 0 r1 = (cn, nn, r2)
        rw [← HL.out]
        by_cases h4 : nn < 4
        · have e : 4 - nn = (4 - (nn + 1)) + 1 := by omega
          rw [e, letsA, if_neg (fun h => hgo ⟨h, h4⟩)]
        · have e : 4 - nn = 0 := by omega
          rw [e, letsA]
      have hgo2 : isAlpha (pk r2) = false ∨ ¬ nn < 4 := by
        by_cases h4 : nn < 4
        · exact .inl (by rw [Bool.eq_false_iff]; exact fun h => hgo ⟨h, h4⟩)
        · exact .inr h4
      have hg : ∃ x, isAlpha (pk r2) = x ∧ (x = true → decide ((nn : Int) < 4) = false) := ⟨_, rfl, fun h => by
        rcases hgo2 with h1 | h1
        · rw [h1] at h
          cases h
        · simp
          omega⟩
      obtain ⟨x, hx, hx4⟩ := hg
      rw [hx] at AL
      clear hgo HL HN hgo2 hx
      have c60 : wr.cell? ⟨j4 + 1, 0, none⟩ = some (.bool fa) := HB6.out.cell 0
      have c61 : wr.cell? ⟨j4 + 1, 1, none⟩ = some (.bool false) := HB6.out.cell 1
      have c40 : wr.cell? ⟨j4, 0, none⟩ = some (.bool false) := HB4.out.cell 0
      have c41 : wr.cell? ⟨j4, 1, none⟩ = some (.bool false) := HB4.out.cell 1
      have f40 := HB4.out.free 0
      have f41 := HB4.out.free 1
      by_cases hz : nn = 0 ∨ 16384 < cn
      · have HZ : Hid (cellP r = ⟨0, 0, fa, false, false, r2⟩) := by
          show cellP r = ⟨0, 0, fa, false, false, r2⟩
          unfold cellP
          rw [HD.out]
          simp only
          rw [HS.out]
          exact if_pos hz
        have hz1 : ∃ y, ((nn : Int) == 0) = y ∧ (y = false → decide (16384 < (cn : Int)) = true) := ⟨_, rfl, fun h => by
          rcases hz with h1 | h1
          · subst h1
            cases h
          · simp
            omega⟩
        obtain ⟨y, hy, hy1⟩ := hz1
        cases x <;> cases y
        all_goals
          first | have d1 := hx4 rfl | skip
          first | have d2 := hy1 rfl | skip
          clear hx4 hy1 hz
          go_wp2_with (first
            | (go_at_call 60; refine (AL.out _).mono ?_; rintro e w' ⟨rfl, rfl⟩)
            | (go_at_call 18; refine PK.out.mono ?_; rintro e w' ⟨rfl, m1, rfl⟩))
          go_region
          have HB4 : Hid (Box (((wr.drewN (m1 + 1)).setCell ⟨j4, 0, none⟩ (.bool fa)).setCell ⟨j4, 1, none⟩ (.bool false)) j4 #[.bool fa, .bool false] 87) := ((HB4.out.drewN _).set 0 (.bool fa)).set 1 (.bool false)
          have HA := Lib.hid (((HA.out.drewN (m1 + 1)).other (k := j4) 0 (.bool fa) (by omega)).other (k := j4) 1 (.bool false) (by omega))
          have HF := Lib.hid (((HF.out.trans (Fr.drewN _ _ (m1 + 1))).own (j := j4) 0 (.bool fa) (by have := HJ.out; omega)).own (j := j4) 1 (.bool false) (by have := HJ.out; omega))
          generalize (((wr.drewN (m1 + 1)).setCell ⟨j4, 0, none⟩ (.bool fa)).setCell ⟨j4, 1, none⟩ (.bool false)) = we at HA HF HB4 ⊢
          clear c60 c61 c40 c41 f40 f41
          have c40 : we.cell? ⟨j4, 0, none⟩ = some (.bool fa) := HB4.out.cell 0
          have c41 : we.cell? ⟨j4, 1, none⟩ = some (.bool false) := HB4.out.cell 1
          go_wp2
          exact bodyPost_ret (v := .tuple #[.int .i64 0, .int .i64 0, .agg #[.bool fa, .bool false], .bool false]) (by simp [results, Tryz.results58, go_sem, c40, c41]) rfl (by unfold CellPost; rw [HZ.out]; exact ⟨rfl, HA.out, HF.out⟩)
      · have d1 : ((nn : Int) == 0) = false := by simp; omega
        have d2 : decide (16384 < (cn : Int)) = false := by simp; omega
        have DL := Lib.hid (fun m => dollar_any g s r2 d b (wr.drewN m) (HA.out.drewN m))
        obtain ⟨⟨fb, r3⟩, hdr⟩ : ∃ dr, dol r2 = dr := ⟨_, rfl⟩
        rw [hdr] at DL
        have HD2 := Lib.hid hdr
        have HNZ := Lib.hid hz
        clear hdr hz
        cases x
        all_goals
          first | have d3 := hx4 rfl | skip
          clear hx4
          go_wp2_with (first
            | (go_at_call 60; refine (AL.out _).mono ?_; rintro e w' ⟨rfl, rfl⟩)
            | (go_at_call 18; refine PK.out.mono ?_; rintro e w' ⟨rfl, m1, rfl⟩))
          refine (DL.out _).mono ?_
          rintro e w4 ⟨rfl, hA4, hF4⟩
          clear c60 c61 c40 c41 f40 f41 DL AL PK
          have hFF := HF.out.trans ((Fr.drewN wr g m1).trans hF4)
          have HB4 := Lib.hid ((HB4.out.drewN m1).fr hF4 (by omega))
          have HB6 := Lib.hid ((HB6.out.drewN m1).fr hF4 (by omega))
          have c61 : w4.cell? ⟨j4 + 1, 1, none⟩ = some (.bool false) := HB6.out.cell 1
          have f61 := HB6.out.free 1
          clear HA HF
          have HA := Lib.hid hA4
          have HF := Lib.hid hFF
          clear hA4 hF4 hFF
          go_wp2_with fail
          clear f61 c61
          have HB4 := Lib.hid (HB4.out.other (k := j4 + 1) 1 (.bool fb) (by omega))
          have HB6 : Hid (Box (w4.setCell ⟨j4 + 1, 1, none⟩ (.bool fb)) (j4 + 1) #[.bool fa, .bool fb] 87) := HB6.out.set 1 (.bool fb)
          have HA := Lib.hid (HA.out.other (k := j4 + 1) 1 (.bool fb) (by omega))
          have HF := Lib.hid (HF.out.own (j := j4 + 1) 1 (.bool fb) (by have := HJ.out; omega))
          generalize w4.setCell ⟨j4 + 1, 1, none⟩ (.bool fb) = w5 at HB4 HB6 HA HF ⊢
          have hW : Hid (digsA (8 - 0) 0 0 r3 = digsA 8 0 0 r3) := Lib.hid rfl
          go_loopw [9, 10] (fun c n wr => ∃ (rn mm : Nat) (r4 : List UInt8), mm ≤ 8 ∧ c = .int .i64 rn ∧ n = .int .i64 mm ∧ Hid (rn + 1 ≤ 10 ^ mm) ∧ Hid (digsA (8 - mm) rn mm r4 = digsA 8 0 0 r3) ∧ Hid (At wr g s r4 d b) ∧ Hid (Fr w wr g) ∧ Hid (Box wr j4 #[.bool false, .bool false] 87) ∧ Hid (Box wr (j4 + 1) #[.bool fa, .bool fb] 87)) (fun _ n _ => 8 - (intOf n).toNat)
          case atStart => exact ⟨0, 0, r3, by omega, rfl, rfl, Lib.hid (by decide), hW, HA, HF, HB4, HB6⟩
          clear hW HA HF HB4 HB6
          case round =>
            obtain ⟨rn, mm, r4, hm, rfl, rfl, HN, HL, HA, HF, HB4, HB6⟩ := hrel
            have PK := Lib.hid (peek_any g s r4 d b wr HA.out)
            have AL := Lib.hid (fun w => num_any (pk r4) w)
            have hrn : rn + 1 ≤ 10 ^ 8 := Nat.le_trans HN.out (Nat.pow_le_pow_right (by decide) hm)
            have hrn : (rn : Int) ≤ 100000000 := by omega
            have hrn0 : (0 : Int) ≤ (rn : Int) := by omega
            have hm0 : (0 : Int) ≤ (mm : Int) := by omega
            by_cases hgo : isNum (pk r4) = true ∧ mm < 8
            · obtain ⟨ha, h8⟩ := hgo
              rw [ha] at AL
              have PK2 := Lib.hid (fun n => peek_any g s r4 d b (wr.drewN n) (HA.out.drewN n))
              obtain ⟨u1, u2⟩ := num_range ha
              have HU : Hid ((10 * rn + ((pk r4).toNat - 48) : Nat) = 10 * (rn : Int) + (((pk r4).toNat : Int) - 48)) := by
                show ((10 * rn + ((pk r4).toNat - 48) : Nat) : Int) = _
                omega
              have HL2 : Hid (digsA (8 - (mm + 1)) (10 * rn + ((pk r4).toNat - 48)) (mm + 1) r4.tail = digsA 8 0 0 r3) := by
                show digsA (8 - (mm + 1)) (10 * rn + ((pk r4).toNat - 48)) (mm + 1) r4.tail = digsA 8 0 0 r3
                rw [← HL.out]
                have e : 8 - mm = (8 - (mm + 1)) + 1 := by omega
                rw [e, digsA, if_pos ha]
              have HN2 : Hid (10 * rn + ((pk r4).toNat - 48) + 1 ≤ 10 ^ (mm + 1)) := by
                show 10 * rn + ((pk r4).toNat - 48) + 1 ≤ 10 ^ (mm + 1)
                have := HN.out
                have : 1 ≤ 10 ^ mm := Nat.one_le_pow _ _ (by decide)
                rw [Nat.pow_succ]
                omega
              have HR := Lib.hid (pk_cons (num_pos ha))
              obtain ⟨q, q0, q1, HQ, c1, f1⟩ := HA.out.see
              have hu0 : (48 : Int) ≤ ((pk r4).toNat : Int) := by omega
              have hu1 : ((pk r4).toNat : Int) ≤ 57 := by omega
              generalize hu : ((pk r4).toNat : Int) = u at PK PK2 AL HU hu0 hu1
              clear u1 u2 hu ha HN HL
              go_wp2_with (first
                | (go_at_call 43; refine (AL.out _).mono ?_; rintro e w' ⟨rfl, rfl⟩)
                | (go_at_call 18; refine PK.out.mono ?_; rintro e w' ⟨rfl, m1, rfl⟩)
                | (go_at_call 18; refine (PK2.out _).mono ?_; rintro e w' ⟨rfl, m2, rfl⟩))
              go_roundw
              case rel =>
                refine ⟨10 * rn + ((pk r4).toNat - 48), mm + 1, r4.tail, by omega, by rw [HU.out], by go_num, HN2, HL2, Lib.hid ?_, Lib.hid ?_, Lib.hid ?_, Lib.hid ?_⟩
                · have h1 := HA.out.drewN (m1 + m2)
                  rw [HR.out] at h1
                  exact h1.step _ (by rw [HQ.out, ← HR.out])
                · exact (HF.out.trans (Fr.drewN _ _ _)).trans (Fr.set _ _ _)
                · exact (HB4.out.drewN _).other _ _ (by omega)
                · exact (HB6.out.drewN _).other _ _ (by omega)
              case measure => simp [intOf]; omega
            · have HS2 : Hid (digsA 8 0 0 r3 = (rn, mm, r4)) := by
                show digsA 8 0 0 r3 = (rn, mm, r4)
                rw [← HL.out]
                by_cases h8 : mm < 8
                · have e : 8 - mm = (8 - (mm + 1)) + 1 := by omega
                  rw [e, digsA, if_neg (fun h => hgo ⟨h, h8⟩)]
                · have e : 8 - mm = 0 := by omega
                  rw [e, digsA]
              have hg : ∃ x, isNum (pk r4) = x ∧ (x = true → decide ((mm : Int) < 8) = false) := ⟨_, rfl, fun h => by
                have : ¬ mm < 8 := fun h8 => hgo ⟨h, h8⟩
                simp
                omega⟩
              obtain ⟨x, hx, hx4⟩ := hg
              rw [hx] at AL
              have c60 : wr.cell? ⟨j4 + 1, 0, none⟩ = some (.bool fa) := HB6.out.cell 0
              have c61 : wr.cell? ⟨j4 + 1, 1, none⟩ = some (.bool fb) := HB6.out.cell 1
              have c40 : wr.cell? ⟨j4, 0, none⟩ = some (.bool false) := HB4.out.cell 0
              have c41 : wr.cell? ⟨j4, 1, none⟩ = some (.bool false) := HB4.out.cell 1
              have f40 := HB4.out.free 0
              have f41 := HB4.out.free 1
              obtain ⟨o1, ho1⟩ : ∃ o1, decide ((0 : Int) < (mm : Int)) = o1 := ⟨_, rfl⟩
              obtain ⟨o2, ho2⟩ : ∃ o2, decide ((1 : Int) ≤ (rn : Int)) = o2 := ⟨_, rfl⟩
              obtain ⟨o3, ho3⟩ : ∃ o3, decide ((rn : Int) ≤ 1048576) = o3 := ⟨_, rfl⟩
              have HZ : Hid (cellP r = ⟨cn, rn, fa, fb, o1 && o2 && o3, r4⟩) := by
                show cellP r = ⟨cn, rn, fa, fb, o1 && o2 && o3, r4⟩
                have e1 : decide (0 < mm) = o1 := by rw [← ho1]; congr 1; simp
                have e2 : decide (1 ≤ rn) = o2 := by rw [← ho2]; congr 1; simp; omega
                have e3 : decide (rn ≤ 1048576) = o3 := by rw [← ho3]; congr 1; simp; omega
                unfold cellP
                rw [HD.out]
                simp only
                rw [HS.out]
                simp only
                rw [if_neg HNZ.out, HD2.out]
                simp only
                rw [HS2.out]
                simp only
                rw [e1, e2, e3]
              have ho1' : decide (0 < mm) = o1 := by rw [← ho1]; congr 1; simp
              have ho2' : decide (1 ≤ rn) = o2 := by rw [← ho2]; congr 1; simp; omega
              have ho2'' : decide (0 < rn) = o2 := by rw [← ho2]; congr 1; simp; omega
              have ho3' : decide (rn ≤ 1048576) = o3 := by rw [← ho3]; congr 1; simp; omega
              have HZ2 : ∃ o, Hid ((o1 && o2 && o3) = o) := ⟨_, Lib.hid rfl⟩
              obtain ⟨o, HO⟩ := HZ2
              rw [HO.out] at HZ
              clear hgo HL HN hx HS HS2 HD HD2 HNZ
              cases x <;> cases o1 <;> cases o2 <;> cases o3
              all_goals
                first | have d3 := hx4 rfl | skip
                clear hx4
                go_wp2_with (first
                  | (go_at_call 43; refine (AL.out _).mono ?_; rintro e w' ⟨rfl, rfl⟩)
                  | (go_at_call 18; refine PK.out.mono ?_; rintro e w' ⟨rfl, m2, rfl⟩))
                have hTW : Twos (wr.drewN m2).drew (j4 + 1) j4 fa fb := ⟨HB6.out, _, HB4.out, rfl⟩
                refine wp_region_plan (List.replicate 17 false) [true, true, true, true, true, true, true, true, true, true, true, true, true, false, false, false, false] (S := fun w' => Twos w' (j4 + 1) j4 fa fb) (by kernel_rfl) (by kernel_rfl) (by kernel_rfl) (fun d _ _ _ _ h => by cases d <;> exact h) hTW ?_
                simp only [List.replicate, swaps]
                iterate 13
                  first
                  | (refine seq_skip (by rfl) ?_
                     try simp only [Act.put, List.setIfInBounds_toArray, List.set_cons_zero, List.set_cons_succ])
                  | (refine seq_take (v := ?_) (by rfl) ?_ ?_
                     rotate_left
                     · intro w' hSw
                       have e0 : w'.cell? ⟨j4 + 1, 0, none⟩ = some (.bool fa) := hSw.1.cell 0
                       have e1 : w'.cell? ⟨j4 + 1, 1, none⟩ = some (.bool fb) := hSw.1.cell 1
                       clear hSw
                       go_simp
                       try simp only [ho1, ho2, ho3, ho1', ho2', ho2'', ho3']
                       try (with_reducible rfl)
                     try simp only [Act.put, List.setIfInBounds_toArray, List.set_cons_zero, List.set_cons_succ])
                iterate 2
                  refine seq_solo (by rfl) (fun K hK => ?_)
                  go_simp
                  refine hK.out _ _ hTW (fun _ => ?_)
                  clear hK K
                  try simp only [Act.put, List.setIfInBounds_toArray, List.set_cons_zero, List.set_cons_succ]
                refine seq_solo (by rfl) (fun K hK => ?_)
                go_simp
                refine hK.out _ _ (hTW.stored (by omega) _ _) (fun _ => ?_)
                clear hK K
                try simp only [Act.put, List.setIfInBounds_toArray, List.set_cons_zero, List.set_cons_succ]
                refine seq_solo (by rfl) (fun K hK => ?_)
                go_simp
                refine hK.out _ _ (hTW.stored (by omega) _ _) (fun _ => ?_)
                clear hK K
                try simp only [Act.put, List.setIfInBounds_toArray, List.set_cons_zero, List.set_cons_succ]
                refine seq_done ?_
                have HB4 : Hid (Box (((wr.drewN (m2 + 1)).setCell ⟨j4, 0, none⟩ (.bool fa)).setCell ⟨j4, 1, none⟩ (.bool fb)) j4 #[.bool fa, .bool fb] 87) := ((HB4.out.drewN _).set 0 (.bool fa)).set 1 (.bool fb)
                have HA := Lib.hid (((HA.out.drewN (m2 + 1)).other (k := j4) 0 (.bool fa) (by omega)).other (k := j4) 1 (.bool fb) (by omega))
                have HF := Lib.hid (((HF.out.trans (Fr.drewN _ _ (m2 + 1))).own (j := j4) 0 (.bool fa) (by have := HJ.out; omega)).own (j := j4) 1 (.bool fb) (by have := HJ.out; omega))
                generalize (((wr.drewN (m2 + 1)).setCell ⟨j4, 0, none⟩ (.bool fa)).setCell ⟨j4, 1, none⟩ (.bool fb)) = we at HA HF HB4 ⊢
                clear c60 c61 c40 c41 f40 f41 hTW
                have c40 : we.cell? ⟨j4, 0, none⟩ = some (.bool fa) := HB4.out.cell 0
                have c41 : we.cell? ⟨j4, 1, none⟩ = some (.bool fb) := HB4.out.cell 1
                obtain rfl := HO.out
                go_wp2
                exact bodyPost_ret (v := .tuple #[.int .i64 cn, .int .i64 rn, .agg #[.bool fa, .bool fb], .bool _]) (by simp [results, Tryz.results58, go_sem, c40, c41]; rfl) rfl (by unfold CellPost; rw [HZ.out]; exact ⟨rfl, HA.out, HF.out⟩)

end Go.Proofs.YtfeffdjnjckjaaaGreatDoor.Rg
