/- The first place of a byte in a string, as the package searches it: its index, or -1. -/
import Derived.Test.YtokooampmhcfeaaGreatDoorRows
import Derived.WalkKit
import Derived.WalkSpells
import Derived.WalkLawsBesides
import Derived.Lib.Hide
import Derived.Lib.Strings
import Derived.Lib.IndexBytes
namespace Go.Proofs.YtokooampmhcfeaaGreatDoor.Rg
open Go.RowKit

/-- The index of the first c in l, or -1. -/
def ix (c : UInt8) (l : List UInt8) : Int := match l.findIdx? (· == c) with | some i => (i : Int) | none => -1

theorem ix_hit {c : UInt8} {l : List UInt8} {k : Nat} (hk : l[k]? = some c) (hno : ∀ j, j < k → l[j]? ≠ some c) : ix c l = k := by
  obtain ⟨hkl, hc⟩ := List.getElem?_eq_some_iff.1 hk
  have e : l.findIdx? (· == c) = some k := by
    rw [List.findIdx?_eq_some_iff_getElem]
    refine ⟨hkl, by simp [hc], fun j hj => ?_⟩
    have := hno j hj
    rw [List.getElem?_eq_getElem (by omega)] at this
    simpa using this
  unfold ix
  rw [e]

theorem ix_miss {c : UInt8} {l : List UInt8} (hno : ∀ j, j < l.length → l[j]? ≠ some c) : ix c l = -1 := by
  have e : l.findIdx? (· == c) = none := by
    rw [List.findIdx?_eq_none_iff]
    intro x hx
    obtain ⟨j, hj⟩ := List.mem_iff_getElem?.1 hx
    have := hno j (List.getElem?_eq_some_iff.1 hj).1
    rw [hj] at this
    simpa using this
  unfold ix
  rw [e]

theorem cut_one (s : ByteArray) (k : Nat) (h : k < s.size) : (s.extract k (k + 1)).toList = (s.data.toList[k]?).toList := by
  rw [ByteArray.toList_eq, Lib.extract_data]
  have hl : k < s.data.toList.length := by simpa using h
  rw [List.drop_eq_getElem_cons hl, List.getElem?_eq_getElem hl]
  have e : k + 1 - k = 1 := by omega
  rw [e]
  simp

set_option maxHeartbeats 400000 in
theorem index_any (s : ByteArray) (c : UInt8) (w : World) (hs : s.size ≤ 1000000) :
    Calls Tryz.prog 49 #[.string s, .string ⟨#[c]⟩] w fun e w' => e = .returned (.int .i64 (ix c s.data.toList)) ∧ w = w' := by
  go_enter Tryz.func49, Tryz.ntmps49
  go_wp2
  go_loop [5] (fun i => ∃ k : Nat, k ≤ s.size ∧ i = .int .i64 k ∧ Hid (∀ j, j < k → s.data.toList[j]? ≠ some c)) (fun i => s.size - (intOf i).toNat)
  case atStart => exact ⟨0, Nat.zero_le _, rfl, fun j hj => absurd hj (by omega)⟩
  case round =>
    obtain ⟨k, hk, rfl, hno⟩ := hrel
    by_cases hlt : k < s.size
    · have hb := cut_one s k hlt
      by_cases hc : s.data.toList[k]? = some c
      · have HF := Lib.hid (ix_hit hc hno.out)
        have ht : ((s.extract k (k + 1)).toList == [c]) = true := by rw [hb, hc]; simp
        clear hc hb
        go_wp2
        go_ret
        exact ⟨by rw [HF.out]; rfl, rfl⟩
      · have HF : Hid (∀ j, j < k + 1 → s.data.toList[j]? ≠ some c) := fun j hj => by
          by_cases e : j = k
          · subst e; exact hc
          · exact hno.out j (by omega)
        have ht : ((s.extract k (k + 1)).toList == [c]) = false := by
          rw [hb, List.getElem?_eq_getElem (by simpa using hlt)]
          rw [List.getElem?_eq_getElem (by simpa using hlt)] at hc
          simpa using hc
        clear hc hb
        go_wp2
        go_round
        case rel => exact ⟨k + 1, by omega, by go_num, HF⟩
        case measure => simp [intOf]; omega
    · have hk' : k = s.size := by omega
      have HF := Lib.hid (ix_miss (c := c) (l := s.data.toList) (fun j hj => hno.out j (by
        have hsz : s.data.toList.length = s.size := by simp
        omega)))
      clear hk'
      go_wp2
      go_ret
      exact ⟨by rw [HF.out]; rfl, rfl⟩
end Go.Proofs.YtokooampmhcfeaaGreatDoor.Rg
