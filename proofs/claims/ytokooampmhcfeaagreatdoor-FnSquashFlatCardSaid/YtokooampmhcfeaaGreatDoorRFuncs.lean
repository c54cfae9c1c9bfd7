/- The letters of a cell's name: where the first and the last of them stand, as the package asks the library for it. -/
import Derived.Test.YtokooampmhcfeaaGreatDoorRColumn
namespace Go.Proofs.YtokooampmhcfeaaGreatDoor.Rg
open Go.RowKit

def Dig (a : UInt8) : Prop := 48 ≤ a.toNat ∧ a.toNat ≤ 57

set_option maxHeartbeats 400000 in
theorem alpha_yes (r : Int) (w : World) (h1 : 65 ≤ r) (h2 : r ≤ 90) :
    Calls Tryz.prog 78 #[.int .i32 r] w fun e w' => e = .returned (.bool true) ∧ w = w' := by
  go_enter Tryz.func78, Tryz.ntmps78
  go_wp2
  go_ret
  exact ⟨rfl, rfl⟩

set_option maxHeartbeats 400000 in
theorem alpha_no (r : Int) (w : World) (h1 : 48 ≤ r) (h2 : r ≤ 57) :
    Calls Tryz.prog 78 #[.int .i32 r] w fun e w' => e = .returned (.bool false) ∧ w = w' := by
  have h36 : (r == 36) = false := by rw [beq_eq_false_iff_ne]; omega
  go_enter Tryz.func78, Tryz.ntmps78
  go_wp2
  go_ret
  exact ⟨rfl, rfl⟩

set_option maxHeartbeats 400000 in
theorem lastRune_any (q : ByteArray) (w : World) (k : Nat) (hk : q.size = k + 1) (hm : k ≤ 1000000) (hk' : k < q.size) (hb : q[k].toNat < 128) :
    Calls Tryz.prog 100 #[.string q] w fun e w' => e = .returned (.tuple #[.int .i32 q[k].toNat, .int .i64 1]) ∧ w = w' := by
  have hne : ((q.size : Int) == 0) = false := by rw [beq_eq_false_iff_ne]; omega
  have h1 : IntKind.i64.wrap ((q.size : Int) - 1) = (k : Int) := by rw [hk, IntKind.wrap_i64]; omega
  have hb' : ((q[k].toNat : Nat) : Int) < 128 := by omega
  have HK := Lib.hid hk; clear hk
  go_enter Tryz.func100, Tryz.ntmps100
  go_wp2
  go_ret2
  exact ⟨rfl, rfl⟩

set_option maxHeartbeats 400000 in
theorem indexFunc_any (s : ByteArray) (w : World) (h0 : 0 < s.size) (h1 : 65 ≤ s[0].toNat) (h2 : s[0].toNat ≤ 90) :
    Calls Tryz.prog 94 #[.string s, .func (.func 78) #[] #[], .bool true] w fun e w' => e = .returned (.int .i64 0) ∧ Below w.heap.size w w' := by
  have hnx := fun ty => run_next_ascii (P := Tryz.prog) w s 0 ty h0 (by omega)
  have hal := alpha_yes (s[0].toNat : Int)
  have HA := Lib.hid hal; clear hal
  go_enter Tryz.func94, Tryz.ntmps94
  go_wp2
  refine wp_loop_rounds 1 ?_
  rw [rounds_succ]
  go_wp2_with fail
  refine (HA.out _ (by omega) (by omega)).mono ?_
  rintro e w' ⟨rfl, rfl⟩
  go_wp2
  go_ret
  exact ⟨rfl, (Below.refl _ _).alloc (Nat.le_refl _) _⟩

set_option maxHeartbeats 400000 in
theorem IndexFunc_any (s : ByteArray) (w : World) (h0 : 0 < s.size) (h1 : 65 ≤ s[0].toNat) (h2 : s[0].toNat ≤ 90) :
    Calls Tryz.prog 79 #[.string s, .func (.func 78) #[] #[]] w fun e w' => e = .returned (.int .i64 0) ∧ Below w.heap.size w w' := by
  go_enter Tryz.func79, Tryz.ntmps79
  go_wp2_with fail
  refine (indexFunc_any s w h0 h1 h2).mono ?_
  rintro e w1 ⟨rfl, hb⟩
  go_wp2
  go_ret
  exact ⟨rfl, hb⟩

/-- In s the bytes before n are great letters, the others digits. -/
structure CellName (s : ByteArray) (n : Nat) : Prop where
  pos : 1 ≤ n
  lt : n < s.size
  small : s.size ≤ 100
  letters : ∀ k (h : k < s.size), k < n → Up s[k]
  digits : ∀ k (h : k < s.size), n ≤ k → Dig s[k]

theorem extract_get (s : ByteArray) (i k : Nat) (h1 : k < (s.extract 0 i).size) (h2 : k < s.size) : (s.extract 0 i)[k] = s[k] := by
  simp [ByteArray.getElem_extract]

set_option maxHeartbeats 800000 in
theorem lastFunc_any (s : ByteArray) (n : Nat) (w : World) (h : CellName s n) :
    Calls Tryz.prog 95 #[.string s, .func (.func 78) #[] #[], .bool true] w fun e w' => e = .returned (.int .i64 ((n : Int) - 1)) ∧ w = w' := by
  obtain ⟨hp, hl, hsm, hL, hD⟩ := h
  have HL : Hid (∀ k (h : k < s.size), k < n → Up s[k]) := hL
  have HD : Hid (∀ k (h : k < s.size), n ≤ k → Dig s[k]) := hD
  clear hL hD
  go_enter Tryz.func95, Tryz.ntmps95
  go_wp2
  go_loop [7] (fun i => ∃ k : Nat, n ≤ k ∧ k ≤ s.size ∧ i = .int .i64 k) (fun i => (intOf i).toNat)
  case atStart => exact ⟨s.size, by omega, by omega, rfl⟩
  case round =>
    obtain ⟨k, hk1, hk2, rfl⟩ := hrel
    obtain ⟨j, rfl⟩ : ∃ j, k = j + 1 := ⟨k - 1, by omega⟩
    have hjs : j < s.size := by omega
    have hpos : (0 : Int) < ((j : Int) + 1) := by omega
    have hle : ((j : Int) + 1) ≤ (s.size : Int) := by omega
    have hes : (s.extract 0 (j + 1)).size = j + 1 := by rw [ByteArray.size_extract]; omega
    have hj' : j < (s.extract 0 (j + 1)).size := by omega
    have hge := extract_get s (j + 1) j hj' hjs
    by_cases hn : j < n
    · have hu := HL.out j hjs hn
      obtain ⟨u1, u2⟩ := hu
      have hc := lastRune_any (s.extract 0 (j + 1)) w j hes (by omega) hj' (by rw [hge]; omega)
      rw [hge] at hc
      have HC := Lib.hid hc
      have HA := Lib.hid (alpha_yes (s[j].toNat : Int) w (by omega) (by omega))
      clear hc hge hes
      have hjn : (j : Int) = (n : Int) - 1 := by omega
      have HJ := Lib.hid hjn; clear hjn
      go_wp2_with fail
      refine HC.out.mono ?_
      rintro e w' ⟨rfl, rfl⟩
      go_wp2_with fail
      refine HA.out.mono ?_
      rintro e w' ⟨rfl, rfl⟩
      go_wp2
      go_ret
      exact ⟨by rw [← HJ.out]; rfl, rfl⟩
    · have hu := HD.out j hjs (by omega)
      obtain ⟨u1, u2⟩ := hu
      have hc := lastRune_any (s.extract 0 (j + 1)) w j hes (by omega) hj' (by rw [hge]; omega)
      rw [hge] at hc
      have HC := Lib.hid hc
      have HA := Lib.hid (alpha_no (s[j].toNat : Int) w (by omega) (by omega))
      clear hc hge hes
      go_wp2_with fail
      refine HC.out.mono ?_
      rintro e w' ⟨rfl, rfl⟩
      go_wp2_with fail
      refine HA.out.mono ?_
      rintro e w' ⟨rfl, rfl⟩
      go_wp2
      go_round
      case rel => exact ⟨j, by omega, by omega, rfl⟩
      case measure => simp [intOf]

set_option maxHeartbeats 400000 in
theorem LastFunc_any (s : ByteArray) (n : Nat) (w : World) (h : CellName s n) :
    Calls Tryz.prog 80 #[.string s, .func (.func 78) #[] #[]] w fun e w' => e = .returned (.int .i64 ((n : Int) - 1)) ∧ w = w' := by
  go_enter Tryz.func80, Tryz.ntmps80
  go_wp2_with fail
  refine (lastFunc_any s n w h).mono ?_
  rintro e w' ⟨rfl, rfl⟩
  go_wp2
  go_ret
  exact ⟨rfl, rfl⟩
end Go.Proofs.YtokooampmhcfeaaGreatDoor.Rg
