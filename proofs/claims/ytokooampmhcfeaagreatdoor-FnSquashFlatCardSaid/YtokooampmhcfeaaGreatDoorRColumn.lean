/- The number of a column by its name of one to three great letters, as the package computes it. -/
import Derived.Test.YtokooampmhcfeaaGreatDoorRSplit
namespace Go.Proofs.YtokooampmhcfeaaGreatDoor.Rg
open Go.RowKit

def Up (a : UInt8) : Prop := 65 ≤ a.toNat ∧ a.toNat ≤ 90

/-- The number of a column with a name of great letters. -/
def colNum : List UInt8 → Int
  | [] => 0
  | x :: t => ((x.toNat : Int) - 65 + 1) * ((26 ^ t.length : Nat) : Int) + colNum t

theorem colNum_nonneg : ∀ (l : List UInt8), (∀ a ∈ l, Up a) → 0 ≤ colNum l
  | [], _ => by simp [colNum]
  | x :: t, h => by
    have h1 := colNum_nonneg t (fun a ha => h a (by simp [ha]))
    have h2 := (h x (by simp)).1
    have h3 : 0 ≤ ((x.toNat : Int) - 65 + 1) * ((26 ^ t.length : Nat) : Int) := Int.mul_nonneg (by omega) (Int.natCast_nonneg _)
    rw [show colNum (x :: t) = ((x.toNat : Int) - 65 + 1) * ((26 ^ t.length : Nat) : Int) + colNum t from rfl]
    omega

theorem colNum_drop_le : ∀ (l : List UInt8) (k : Nat), (∀ a ∈ l, Up a) → colNum (l.drop k) ≤ colNum l
  | l, 0, _ => by simp
  | [], k + 1, _ => by simp
  | x :: t, k + 1, h => by
    have h1 := colNum_drop_le t k (fun a ha => h a (by simp [ha]))
    have h2 := (h x (by simp)).1
    have h3 : 0 ≤ ((x.toNat : Int) - 65 + 1) * ((26 ^ t.length : Nat) : Int) := Int.mul_nonneg (by omega) (Int.natCast_nonneg _)
    show colNum (t.drop k) ≤ colNum (x :: t)
    rw [show colNum (x :: t) = ((x.toNat : Int) - 65 + 1) * ((26 ^ t.length : Nat) : Int) + colNum t from rfl]
    omega

theorem colNum_step (l : List UInt8) (j : Nat) (hj : j < l.length) : colNum (l.drop j) = ((l[j].toNat : Int) - 65 + 1) * ((26 ^ (l.length - (j + 1)) : Nat) : Int) + colNum (l.drop (j + 1)) := by
  rw [List.drop_eq_getElem_cons hj]
  show ((l[j].toNat : Int) - 65 + 1) * ((26 ^ (l.drop (j + 1)).length : Nat) : Int) + colNum (l.drop (j + 1)) = _
  rw [List.length_drop]

theorem data_get (s : ByteArray) (j : Nat) (h : j < s.size) (h' : j < s.data.toList.length) : s[j] = s.data.toList[j] := by
  cases s
  rfl

set_option maxHeartbeats 800000 in
theorem column_any (s : ByteArray) (w : World) (h1 : 1 ≤ s.size) (h3 : s.size ≤ 3) (hup : ∀ a ∈ s.data.toList, Up a) (hmax : colNum s.data.toList ≤ 16384) :
    Calls Tryz.prog 52 #[.string s] w fun e w' => e = .returned (.tuple #[.int .i64 (colNum s.data.toList), .nilIface]) ∧ w = w' := by
  have hsl : s.data.toList.length = s.size := by simp
  have HSL := Lib.hid hsl; clear hsl
  have hne : ((s.size : Int) == 0) = false := by rw [beq_eq_false_iff_ne]; omega
  have hup' := Lib.hid hup; clear hup
  have hmax' := Lib.hid hmax; clear hmax
  go_enter Tryz.func52, Tryz.ntmps52
  go_wp2
  go_loop [4, 5, 6] (fun c m i => ∃ (x C M : Int) (e : Nat), -1 ≤ x ∧ x < s.size ∧ i = .int .i64 x ∧ c = .int .i64 C ∧ m = .int .i64 M ∧ Hid (C = colNum (s.data.toList.drop (x + 1).toNat)) ∧ Hid (M = ((26 ^ e : Nat) : Int)) ∧ 0 ≤ M ∧ M ≤ 17576 ∧ (e : Int) + (x + 1) = s.size) (fun _ _ i => (intOf i + 1).toNat)
  case atStart =>
    refine ⟨(s.size : Int) - 1, 0, 1, 0, by omega, by omega, rfl, rfl, rfl, ?_, rfl, by omega, by omega, ?_⟩
    rotate_left
    · show ((0 : Nat) : Int) + ((s.size : Int) - 1 + 1) = (s.size : Int); omega
    show (0 : Int) = _
    rw [List.drop_eq_nil_of_le (by rw [HSL.out]; omega)]
    rfl
  case round =>
    obtain ⟨x, C, M, e, hx1, hx2, rfl, rfl, rfl, HC, HM, hM0, hM1, he⟩ := hrel
    by_cases hx : 0 ≤ x
    · obtain ⟨j, rfl⟩ := Int.eq_ofNat_of_zero_le hx
      have hjs : j < s.size := by omega
      have hjl : j < s.data.toList.length := by rw [HSL.out]; exact hjs
      have hr := hup'.out s.data.toList[j] (List.getElem_mem hjl)
      have hg := data_get s j hjs hjl
      have hr' : Up s[j] := by rw [hg]; exact hr
      obtain ⟨r1, r2⟩ := hr'
      clear hr
      have b1 : (65 : Int) ≤ (s[j].toNat : Int) := by omega
      have b2 : (s[j].toNat : Int) ≤ 90 := by omega
      have hC := HC.out
      have hj1 : ((j : Int) + 1).toNat = j + 1 := by omega
      rw [hj1] at hC
      have hst := colNum_step s.data.toList j hjl
      have hle := colNum_drop_le s.data.toList j hup'.out
      have h0 := colNum_nonneg (s.data.toList.drop (j + 1)) (fun a ha => hup'.out a (List.mem_of_mem_drop ha))
      have hexp : s.data.toList.length - (j + 1) = e := by rw [HSL.out]; omega
      rw [hexp, ← HM.out, ← hC, ← hg] at hst
      rw [← hC] at h0
      have hmx := hmax'.out
      have hnew : C + ((s[j].toNat : Int) - 65 + 1) * M ≤ 16384 := by omega
      have HNEW : Hid (C + ((s[j].toNat : Int) - 65 + 1) * M = colNum (s.data.toList.drop j)) := by
        show C + ((s[j].toNat : Int) - 65 + 1) * M = colNum (s.data.toList.drop j)
        omega
      have hpos : 0 ≤ ((s[j].toNat : Int) - 65 + 1) * M := Int.mul_nonneg (by omega) hM0
      have hjI : (j : Int) < (s.size : Int) := by omega
      clear hst hle hC hj1 hg hexp hmx hx
      have hM2 : M ≤ 676 := by
        have h1 := HM.out
        have h2 : e ≤ 2 := by omega
        have h3 : (26 : Nat) ^ e ≤ 26 ^ 2 := Nat.pow_le_pow_right (by omega) h2
        omega
      have HN2 : Hid (C + ((s[j].toNat : Int) - 65 + 1) * M = colNum (s.data.toList.drop (((j : Int) - 1) + 1).toNat)) := by
        have e1 : (((j : Int) - 1) + 1).toNat = j := by omega
        show C + ((s[j].toNat : Int) - 65 + 1) * M = colNum (s.data.toList.drop (((j : Int) - 1) + 1).toNat)
        rw [e1]
        exact HNEW.out
      have HM2 : Hid (M * 26 = ((26 ^ (e + 1) : Nat) : Int)) := by
        show M * 26 = ((26 ^ (e + 1) : Nat) : Int)
        rw [Nat.pow_succ, HM.out]
        omega
      go_wp2
      refine ⟨⟨(j : Int) - 1, C + ((s[j].toNat : Int) - 65 + 1) * M, M * 26, e + 1, by omega, by omega, rfl, rfl, rfl, HN2, HM2, by omega, by omega, by omega⟩, ?_⟩
      simp only [intOf]
      omega
    · obtain rfl : x = -1 := by omega
      have HF : Hid (C = colNum s.data.toList) := by
        have h0 := HC.out
        have h1 : ((-1 : Int) + 1).toNat = 0 := by decide
        rw [h1, List.drop_zero] at h0
        exact h0
      go_wp2
      go_ret2
      exact ⟨by rw [← HF.out]; rfl, rfl⟩
end Go.Proofs.YtokooampmhcfeaaGreatDoor.Rg
