/- The operator of a level that comes. -/
import Derived.Test.YtfeffdjnjckjaaaGreatDoorJSmall
namespace Go.Proofs.YtfeffdjnjckjaaaGreatDoor.Rg
open Go.RowKit

def opsL : List (List UInt8) := [[60, 61], [62, 61], [60, 62], [61], [60], [62], [38], [43], [45], [42], [47], [94]]
def opHit (n : Nat) (r : List UInt8) (o : List UInt8) : Bool := decide (lev o = n) && o.isPrefixOf r
/-- The operator of a level that comes. -/
def opAt (n : Nat) (r : List UInt8) : Option (List UInt8) := opsL.find? (opHit n r)

def OpPost (w : World) (g : Nat) (s : ByteArray) (n : Nat) (r : List UInt8) (d : Int) (b : Bool) (e : Ending) (w' : World) : Prop :=
  match opAt n r with
  | some o => e = .returned (.string (bs o)) ∧ At w' g s (r.drop o.length) d b ∧ Fr w w' g
  | none => e = .returned (.string (bs [])) ∧ At w' g s r d b ∧ Fr w w' g

def opCells : Array Value := #[.string ⟨#[60, 61]⟩, .string ⟨#[62, 61]⟩, .string ⟨#[60, 62]⟩, .string ⟨#[61]⟩, .string ⟨#[60]⟩, .string ⟨#[62]⟩, .string ⟨#[38]⟩, .string ⟨#[43]⟩, .string ⟨#[45]⟩, .string ⟨#[42]⟩, .string ⟨#[47]⟩, .string ⟨#[94]⟩]
theorem opCells_get (k : Nat) (o : List UInt8) (h : opsL[k]? = some o) : opCells[k]? = some (.string (bs o)) := by
  have hk : k < 12 := by
    have := (List.getElem?_eq_some_iff.1 h).1
    simpa [opsL] using this
  have e : opCells = (opsL.map fun o => Value.string (bs o)).toArray := rfl
  rw [e]
  simp [h]

set_option maxHeartbeats 2000000 in
theorem operator_any (g : Nat) (s : ByteArray) (r : List UInt8) (d : Int) (b : Bool) (n : Nat) (w : World) (h : At w g s r d b) :
    Calls Tryz.prog 17 #[.pointer (some ⟨g, 0, none⟩), .int .i64 n] w (OpPost w g s n (blk r) d b) := by
  have HB := Lib.hid (blanks_any g s r d b w h)
  clear h
  generalize blk r = r at HB ⊢
  go_enter Tryz.func17, Tryz.ntmps17
  go_wp2_with fail
  refine HB.out.mono ?_
  rintro e w1 ⟨rfl, hA, hF⟩
  clear HB
  have HA := Lib.hid hA
  have HF := Lib.hid hF
  clear hA hF
  go_wp2
  obtain ⟨g0, hg0⟩ : ∃ g0, w1.heap.size = g0 := ⟨_, rfl⟩
  have HC : Hid ((w1.alloc (.cells opCells 9)).heap[g0]? = some (.cells opCells 9 (0, 0))) := by
    subst hg0
    exact heap_alloc_new w1 _
  have HA2 : Hid (At (w1.alloc (.cells opCells 9)) g s r d b) := HA.out.below ((Below.refl _ _).alloc (Nat.le_refl _) _)
  have HF2 : Hid (Fr w (w1.alloc (.cells opCells 9)) g) := HF.out.trans (World.grownBy_alloc _ _ _)
  unfold opCells at HA2 HF2 HC
  generalize w1.alloc (.cells #[.string ⟨#[60, 61]⟩, .string ⟨#[62, 61]⟩, .string ⟨#[60, 62]⟩, .string ⟨#[61]⟩, .string ⟨#[60]⟩, .string ⟨#[62]⟩, .string ⟨#[38]⟩, .string ⟨#[43]⟩, .string ⟨#[45]⟩, .string ⟨#[42]⟩, .string ⟨#[47]⟩, .string ⟨#[94]⟩] 9) = w2 at *
  rw [hg0]
  clear HA HF hg0
  have HC : Hid (w2.heap[g0]? = some (.cells opCells 9 (0, 0))) := HC
  go_loopw [11] (fun i wr => ∃ k : Nat, k ≤ 12 ∧ i = .int .i64 k ∧ Hid (At wr g s r d b) ∧ Hid (Fr w wr g) ∧ Hid (wr.heap[g0]? = some (.cells opCells 9 (0, 0))) ∧ Hid (opAt n r = (opsL.drop k).find? (opHit n r))) (fun i _ => 12 - (intOf i).toNat)
  case atStart => exact ⟨0, by omega, rfl, HA2, HF2, HC, Lib.hid rfl⟩
  clear HA2 HF2 HC
  case round =>
    obtain ⟨k, hk, rfl, HA, HF, HC, HO⟩ := hrel
    by_cases hk12 : k < 12
    · obtain ⟨o, ho⟩ : ∃ o, opsL[k]? = some o := ⟨_, List.getElem?_eq_getElem (by simpa [opsL] using hk12)⟩
      have c0 : wr.cell? ⟨g0, k, none⟩ = some (.string (bs o)) := by
        rw [cell_of_row wr g0 k opCells 9 (0, 0) HC.out]
        exact opCells_get k o ho
      have hd : opsL.drop k = o :: opsL.drop (k + 1) := by
        rw [List.drop_eq_getElem_cons (by simpa [opsL] using hk12)]
        congr 1
        rw [List.getElem?_eq_getElem (by simpa [opsL] using hk12)] at ho
        exact Option.some.inj ho
      have HO2 : Hid (opHit n r o = false → opAt n r = (opsL.drop (k + 1)).find? (opHit n r)) := by
        show opHit n r o = false → opAt n r = (opsL.drop (k + 1)).find? (opHit n r)
        intro h
        rw [HO.out, hd, List.find?_cons, h]
      have i0 : (0 : Int) ≤ (k : Int) := by omega
      have i1 : (k : Int) < 12 := by omega
      by_cases hl : lev o = n
      · have LV := Lib.hid (fun w => levels_any (bs o) w)
        rw [bs_list, hl] at LV
        by_cases hp : o <+: r
        · have hw : opAt n r = some o := by
            rw [HO.out, hd, List.find?_cons]
            have : opHit n r o = true := by simp [opHit, hl, hp]
            rw [this]
          obtain ⟨r2, rfl⟩ := hp
          have HW := Lib.hid hw
          have TK := Lib.hid (fun w' h => takes_yes g s o r2 d b w' h)
          clear hw hd ho hl HO2 HO HC
          go_wp2_with (first
            | (go_at_call 24; refine (LV.out _).mono ?_; rintro e w' ⟨rfl, rfl⟩)
            | (go_at_call 23; refine (TK.out _ HA.out).mono ?_; rintro e w3 ⟨rfl, hA3, hF3⟩))
          go_ret
          unfold OpPost
          rw [HW.out]
          exact ⟨rfl, by rw [List.drop_left]; exact hA3, HF.out.trans hF3⟩
        · have HO3 := Lib.hid (HO2.out (by have : o.isPrefixOf r = false := (by rw [Bool.eq_false_iff]; simpa using hp); simp [opHit, this]))
          have TK := Lib.hid (takes_no g s (bs o) r d b _ HA.out hp)
          clear hd ho hl hp HO2 HO
          go_wp2_with (first
            | (go_at_call 24; refine (LV.out _).mono ?_; rintro e w' ⟨rfl, rfl⟩))
          refine TK.out.mono ?_
          rintro e w3 ⟨rfl, m, rfl⟩
          go_wp2
          go_roundw
          case rel => exact ⟨k + 1, by omega, by go_num, Lib.hid (HA.out.drewN _), Lib.hid (HF.out.trans (Fr.drewN _ _ _)), HC, HO3⟩
          case measure => simp [intOf]; omega
      · have HO3 := Lib.hid (HO2.out (by simp [opHit, hl]))
        have LV := Lib.hid (fun w => levels_any (bs o) w)
        rw [bs_list] at LV
        generalize lev o = m at hl LV
        have hl2 : ((m : Int) == (n : Int)) = false := by simp; omega
        clear hd ho hl HO2 HO
        go_wp2_with (first
          | (go_at_call 24; refine (LV.out _).mono ?_; rintro e w' ⟨rfl, rfl⟩))
        go_roundw
        case rel => exact ⟨k + 1, by omega, by go_num, HA, HF, HC, HO3⟩
        case measure => simp [intOf]; omega
    · obtain rfl : k = 12 := by omega
      have HW : Hid (opAt n r = none) := by
        show opAt n r = none
        rw [HO.out]
        rfl
      clear HO
      go_wp2
      go_ret
      unfold OpPost
      rw [HW.out]
      exact ⟨rfl, HA.out, HF.out⟩

end Go.Proofs.YtfeffdjnjckjaaaGreatDoor.Rg
