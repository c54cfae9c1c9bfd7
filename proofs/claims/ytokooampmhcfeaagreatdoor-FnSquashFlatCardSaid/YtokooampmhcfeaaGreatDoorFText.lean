/- The specification's text of a list of areas. -/
import Derived.Test.YtokooampmhcfeaaGreatDoorFAreas
namespace Go.Proofs.YtokooampmhcfeaaGreatDoor.Rg
open Go.RowKit

set_option maxHeartbeats 1600000 in
set_option maxRecDepth 100000 in
theorem areas_any (A : Option Addr) (n c : Nat) (L : List Ar) (w : World) (hn : n = L.length) (hn2 : n ≤ 5) (hG : ∀ a ∈ L, Good a) (hA : Rd4 w A L) :
    Calls Tryz.prog 7 #[.slice A n c] w fun e w' => e = .returned (.string ⟨(joined (texts L)).toArray⟩) ∧ Below w.heap.size w w' := by
  have HN := Lib.hid hn
  clear hn
  have HA := Lib.hid hA
  have HG := Lib.hid hG
  clear hA hG
  go_enter Tryz.func7, Tryz.ntmps7
  go_wp2
  go_loopw [3, 4] (fun s i wr => ∃ k : Nat, k ≤ n ∧ i = .int .i64 k ∧ s = .string ⟨(joined ((texts L).take k)).toArray⟩ ∧ Below w.heap.size w wr) (fun _ i _ => n - (intOf i).toNat)
  case atStart => exact ⟨0, by omega, rfl, rfl, Below.refl _ _⟩
  case round =>
    obtain ⟨k, hk, rfl, rfl, hb⟩ := hrel
    by_cases hlt : k < n
    · have hkL : k < L.length := by rw [← HN.out]; exact hlt
      obtain ⟨g, rfl, hg, hc⟩ := (HA.out.later hb).at k hkL
      have hkT : (texts L)[k]? = some L[k].text := by simp [texts, hkL]
      have HJ := Lib.hid (joined_take (texts L) k L[k].text hkT)
      have hgood := HG.out L[k] (List.getElem_mem hkL)
      have hat := hc k hkL
      have hsz : (joined ((texts L).take k)).length ≤ 26 * k := by
        have := joined_len ((texts L).take k) (fun t ht => by
          have := List.mem_of_mem_take ht
          unfold texts at this
          obtain ⟨a, ha, rfl⟩ := List.mem_map.1 this
          exact (HG.out a ha).text_len.2)
        rw [List.length_take] at this
        omega
      clear hc
      generalize L[k] = a at hgood hat HJ hkT
      clear hkT hkL
      have hl := hgood.text_len
      have TX := text_any a
      have hs2 : (⟨a.text.toArray⟩ : ByteArray).size ≤ 25 := by show a.text.toArray.size ≤ 25; simpa using hl.2
      have hs1 : (⟨(joined ((texts L).take k)).toArray⟩ : ByteArray).size ≤ 130 := by show (joined ((texts L).take k)).toArray.size ≤ 130; simp; omega
      have i0' : (0 : Int) ≤ (k : Int) := by omega
      have i1' : (k : Int) < (n : Int) := by omega
      obtain ⟨c0, c1, c2, c3⟩ := hat
      by_cases h0 : k = 0
      · have HS : Hid ((⟨(joined ((texts L).take k)).toArray⟩ : ByteArray) ++ ⟨a.text.toArray⟩ = ⟨(joined ((texts L).take (k + 1))).toArray⟩) := by
          show (⟨(joined ((texts L).take k)).toArray⟩ : ByteArray) ++ ⟨a.text.toArray⟩ = ⟨(joined ((texts L).take (k + 1))).toArray⟩
          rw [HJ.out, if_pos h0, h0]
          exact str_append _ _
        generalize (⟨(joined ((texts L).take k)).toArray⟩ : ByteArray) = S at hs1 HS ⊢
        have ra : ∀ w, (Op.stringOp .add S ⟨a.text.toArray⟩).run Tryz.prog w = .ok (.string (S ++ ⟨a.text.toArray⟩)) w := fun w => run_string_add_sum _ _ _ (by omega)
        subst h0
        simp only [Nat.zero_mul, Nat.zero_add] at c0 c1 c2 c3
        go_wp2_with fail
        refine (TX _ hgood).mono ?_
        rintro e w1 ⟨rfl, hb1⟩
        go_wp2
        go_roundw
        case rel => exact ⟨1, by omega, by go_num, by rw [HS.out], hb.trans (hb1.mono hb.size)⟩
        case measure => simp [intOf]; omega
      · have HS : Hid ((⟨(joined ((texts L).take k)).toArray⟩ : ByteArray) ++ ⟨#[32]⟩ ++ ⟨a.text.toArray⟩ = ⟨(joined ((texts L).take (k + 1))).toArray⟩) := by
          show (⟨(joined ((texts L).take k)).toArray⟩ : ByteArray) ++ ⟨#[32]⟩ ++ ⟨a.text.toArray⟩ = ⟨(joined ((texts L).take (k + 1))).toArray⟩
          rw [HJ.out, if_neg h0]
          exact (congrArg (· ++ (⟨a.text.toArray⟩ : ByteArray)) (str_append (joined ((texts L).take k)) [32])).trans ((str_append _ _).trans (by simp))
        generalize (⟨(joined ((texts L).take k)).toArray⟩ : ByteArray) = S at hs1 HS ⊢
        have r0 : ∀ w, (Op.stringOp .add S ⟨#[32]⟩).run Tryz.prog w = .ok (.string (S ++ ⟨#[32]⟩)) w := fun w => run_string_add_sum _ _ _ (by have : (⟨#[32]⟩ : ByteArray).size = 1 := rfl; omega)
        have hs3 : (S ++ ⟨#[32]⟩ : ByteArray).size ≤ 131 := by
          rw [ByteArray.size_append]
          have : (⟨#[32]⟩ : ByteArray).size = 1 := rfl
          omega
        generalize (S ++ ⟨#[32]⟩ : ByteArray) = S1 at hs3 HS r0
        have ra : ∀ w, (Op.stringOp .add S1 ⟨a.text.toArray⟩).run Tryz.prog w = .ok (.string (S1 ++ ⟨a.text.toArray⟩)) w := fun w => run_string_add_sum _ _ _ (by omega)
        have hnot : (0 : Int) < (k : Int) := by omega
        go_wp2_with fail
        refine (TX _ hgood).mono ?_
        rintro e w1 ⟨rfl, hb1⟩
        go_wp2
        go_roundw
        case rel => exact ⟨k + 1, by omega, by go_num, by rw [HS.out], hb.trans (hb1.mono hb.size)⟩
        case measure => simp [intOf]; omega
    · obtain rfl : k = n := by omega
      have hfull : (texts L).take k = texts L := List.take_of_length_le (by unfold texts; rw [List.length_map]; have := HN.out; omega)
      rw [hfull]
      have hnot : ¬ (k : Int) < (k : Int) := by omega
      go_wp2
      go_ret
      exact ⟨rfl, hb⟩
end Go.Proofs.YtokooampmhcfeaaGreatDoor.Rg
