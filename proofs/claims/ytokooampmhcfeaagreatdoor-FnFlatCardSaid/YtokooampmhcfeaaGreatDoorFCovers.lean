/- Columns that hold exactly the cells of areas cover them. -/
import Derived.Test.YtokooampmhcfeaaGreatDoorFHas
import Derived.Test.YtokooampmhcfeaaGreatDoorFText
namespace Go.Proofs.YtokooampmhcfeaaGreatDoor.Rg
open Go.RowKit Go.Maps

theorem any_succ {α : Type} (f : α → Bool) (L : List α) (k : Nat) (h : k < L.length) : (L.take (k + 1)).any f = ((L.take k).any f || f L[k]) := by
  rw [List.take_succ_eq_append_getElem h, List.any_append]
  simp

set_option maxHeartbeats 3200000 in
set_option maxRecDepth 100000 in
theorem covers_any {B : Nat} {A A2 : Option Addr} {c m c2 : Nat} {K : List (Int × Value)} {R : Int → List Int} {L : List Ar} (w : World) (h : Cols w B (.slice A K.length c) K R) (hn : K.length ≤ 1000000) (hr : ∀ p ∈ K, (R p.1).length ≤ 1000000) (hm : m = L.length) (hm5 : m ≤ 5) (hL : Rd4 w A2 L)
    (hall : ∀ c r : Int, 1 ≤ c → c ≤ 30 → 1 ≤ r → r ≤ 60 → hasIn K R c r = L.any fun a => within c r a) :
    Calls Tryz.prog 9 #[.slice A K.length c, .slice A2 m c2, .slice none 0 0] w fun e w' => e = .returned (.bool true) ∧ Below w.heap.size w w' := by
  have H := Lib.hid h
  have HL := Lib.hid hL
  have HM := Lib.hid hm
  have HALL := Lib.hid hall
  have HR := Lib.hid hr
  clear h hL hm hall hr
  go_enter Tryz.func9, Tryz.ntmps9
  go_wp2
  go_loopw [7] (fun i wr => ∃ z : Int, 1 ≤ z ∧ z ≤ 31 ∧ i = .int .i64 z ∧ Below w.heap.size w wr) (fun i _ => (31 - intOf i).toNat)
  case atStart => exact ⟨1, by omega, by omega, rfl, Below.refl _ _⟩
  case round =>
    obtain ⟨z, hz1, hz2, rfl, hb⟩ := hrel
    by_cases hz : z ≤ 30
    · have HB := Lib.hid hb
      clear hb
      go_wp2
      go_loopw [8] (fun i wr => ∃ y : Int, 1 ≤ y ∧ y ≤ 61 ∧ i = .int .i64 y ∧ Below w.heap.size w wr) (fun i _ => (61 - intOf i).toNat)
      case atStart => exact ⟨1, by omega, by omega, rfl, HB.out⟩
      case round =>
        obtain ⟨y, hy1, hy2, rfl, hb⟩ := hrel
        by_cases hy : y ≤ 60
        · have HB := Lib.hid hb
          clear hb
          have HA := Lib.hid (HALL.out z y hz1 hz hy1 hy)
          go_wp2
          go_loopw [9, 10] (fun t i wr => ∃ k : Nat, k ≤ m ∧ i = .int .i64 k ∧ t = .bool ((L.take k).any fun a => within z y a) ∧ Below w.heap.size w wr) (fun _ i _ => m - (intOf i).toNat)
          case atStart => exact ⟨0, by omega, rfl, rfl, HB.out⟩
          case round =>
            obtain ⟨k, hk, rfl, rfl, hb⟩ := hrel
            by_cases hkm : k < m
            · have hkL : k < L.length := by rw [← HM.out]; exact hkm
              have HS := Lib.hid (any_succ (fun a => within z y a) L k hkL)
              have k0' : (0 : Int) ≤ (k : Int) := by omega
              have k1' : (k : Int) < (m : Int) := by omega
              cases ht : (L.take k).any fun a => within z y a with
              | true =>
                have HS2 : Hid (((L.take (k + 1)).any fun a => within z y a) = true) := by
                  show ((L.take (k + 1)).any fun a => within z y a) = true
                  rw [HS.out, ht]
                  rfl
                clear ht
                go_wp2
                go_roundw
                case rel => exact ⟨k + 1, by omega, by go_num, by rw [HS2.out], hb⟩
                case measure => simp [intOf]; omega
              | false =>
                have HS2 : Hid (((L.take (k + 1)).any fun a => within z y a) = within z y L[k]) := by
                  show ((L.take (k + 1)).any fun a => within z y a) = within z y L[k]
                  rw [HS.out, ht]
                  rfl
                clear ht HS
                obtain ⟨g, rfl, hg, hc⟩ := (HL.out.later hb).at k hkL
                obtain ⟨c0, c1, c2', c3⟩ := hc k hkL
                have HW := Lib.hid (fun w => within_any z y L[k] w)
                simp only [Ar.val] at HW
                generalize L[k] = a at c0 c1 c2' c3 HW HS2
                clear hc hkL
                go_wp2_with fail
                refine (HW.out _).mono ?_
                rintro e w1 ⟨rfl, hb1⟩
                have hB := hb.trans (hb1.mono hb.size)
                clear c0 c1 c2' c3
                go_wp2
                go_roundw
                case rel => exact ⟨k + 1, by omega, by go_num, by rw [HS2.out], hB⟩
                case measure => simp [intOf]; omega
            · obtain rfl : k = m := by omega
              have hfull : L.take k = L := List.take_of_length_le (by have := HM.out; omega)
              rw [hfull]
              rw [← HA.out]
              generalize ht : hasIn K R z y = t at *
              have HC := Lib.hid (has_any z y wr (H.out.keep hb) hn HR.out)
              rw [ht] at HC
              clear hfull ht
              go_wp2
              go_loopw [9, 11] (fun q i wq => q = .bool t ∧ i = .int .i64 0 ∧ wq = wr) (fun _ i _ => 0)
              case atStart => exact ⟨rfl, rfl, rfl⟩
              case round =>
                obtain ⟨rfl, rfl, rfl⟩ := hrel
                go_wp2_with fail
                refine (HC.out).mono ?_
                rintro e w1 ⟨rfl, rfl⟩
                cases t <;> (go_wp2; go_roundw)
                case rel => exact ⟨y + 1, by omega, by omega, by go_num, hb⟩
                case measure => simp [intOf]; omega
                case rel => exact ⟨y + 1, by omega, by omega, by go_num, hb⟩
                case measure => simp [intOf]; omega
        · obtain rfl : y = 61 := by omega
          go_wp2
          go_roundw
          case rel => exact ⟨z + 1, by omega, by omega, by go_num, hb⟩
          case measure => simp [intOf]; omega
    · obtain rfl : z = 31 := by omega
      go_wp2
      go_ret
      exact ⟨rfl, hb⟩
end Go.Proofs.YtokooampmhcfeaaGreatDoor.Rg
