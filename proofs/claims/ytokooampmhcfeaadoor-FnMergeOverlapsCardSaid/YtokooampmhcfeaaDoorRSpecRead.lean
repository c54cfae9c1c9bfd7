/- The specification's own reading of a column's name and of a cell's name. -/
import Derived.Test.YtokooampmhcfeaaDoorRText
import Derived.Handy
namespace Go.Proofs.YtokooampmhcfeaaDoor.Rg
open Go.RowKit

/-- The number that digits write. -/
def decVal (l : List UInt8) : Nat := l.foldl (fun a b => 10 * a + (b.toNat - 48)) 0

theorem decVal_snoc (l : List UInt8) (x : UInt8) : decVal (l ++ [x]) = 10 * decVal l + (x.toNat - 48) := by
  unfold decVal
  rw [List.foldl_append]
  rfl

theorem decVal_digits : ∀ u, decVal (Lib.decDigits u) = u := by
  intro u
  induction u using Nat.strongRecOn with
  | _ u ih =>
    by_cases h : u < 10
    · rw [digits_small h]
      show 10 * 0 + ((UInt8.ofNat (48 + u)).toNat - 48) = u
      rw [dig_nat u h]
      omega
    · rw [digits_more h, decVal_snoc, ih (u / 10) (by omega), dig_nat _ (by omega)]
      omega

theorem decVal_take_succ (l : List UInt8) (k : Nat) (h : k < l.length) : decVal (l.take (k + 1)) = 10 * decVal (l.take k) + (l[k].toNat - 48) := by
  rw [List.take_succ_eq_append_getElem h, decVal_snoc]

theorem decVal_take_le (l : List UInt8) (k : Nat) : decVal (l.take k) ≤ decVal l := by
  have h : ∀ (d k : Nat), l.length - k = d → decVal (l.take k) ≤ decVal l := by
    intro d
    induction d with
    | zero => intro k hd; rw [List.take_of_length_le (by omega)]; exact Nat.le_refl _
    | succ d ih =>
      intro k hd
      have h1 := ih (k + 1) (by omega)
      rw [decVal_take_succ l k (by omega)] at h1
      omega
  exact h _ k rfl

theorem digits_head : ∀ u, 1 ≤ u → ∀ b, (Lib.decDigits u)[0]? = some b → b.toNat ≠ 48 := by
  intro u
  induction u using Nat.strongRecOn with
  | _ u ih =>
    intro hu b hb
    by_cases h : u < 10
    · rw [digits_small h] at hb
      have hb' : b = UInt8.ofNat (48 + u) := by
        have h1 : some (UInt8.ofNat (48 + u)) = some b := hb
        injection h1 with h1
        exact h1.symm
      rw [hb', dig_nat u h]
      omega
    · rw [digits_more h] at hb
      have hne : 0 < (Lib.decDigits (u / 10)).length := by
        by_cases h' : u / 10 < 10
        · rw [digits_small h']; simp
        · rw [digits_more h']; simp
      rw [List.getElem?_append_left hne] at hb
      exact ih (u / 10) (by omega) (by omega) b hb

theorem colNum_take_succ (l : List UInt8) (k : Nat) (h : k < l.length) : colNum (l.take (k + 1)) = colNum (l.take k) * 26 + ((l[k].toNat : Int) - 65 + 1) := by
  rw [List.take_succ_eq_append_getElem h, colNum_snoc]

theorem colNum_take_le (l : List UInt8) (hup : ∀ a ∈ l, Up a) (k : Nat) : colNum (l.take k) ≤ colNum l := by
  have h : ∀ (d k : Nat), l.length - k = d → colNum (l.take k) ≤ colNum l := by
    intro d
    induction d with
    | zero => intro k hd; rw [List.take_of_length_le (by omega)]; exact Int.le_refl _
    | succ d ih =>
      intro k hd
      have h1 := ih (k + 1) (by omega)
      have h2 := hup l[k] (List.getElem_mem (by omega))
      have h3 := colNum_nonneg (l.take k) (fun a ha => hup a (List.mem_of_mem_take ha))
      unfold Up at h2
      rw [colNum_take_succ l k (by omega)] at h1
      omega
  exact h _ k rfl

set_option maxHeartbeats 800000 in
theorem spec_number (s : ByteArray) (w : World) (h1 : 1 ≤ s.size) (h3 : s.size ≤ 3) (hup : ∀ a ∈ s.data.toList, Up a) (hpos : 1 ≤ colNum s.data.toList) (hmax : colNum s.data.toList ≤ 16384) :
    Calls Tryd.prog 58 #[.string s] w fun e w' => e = .returned (.tuple #[.int .i64 (colNum s.data.toList), .bool true]) ∧ w = w' := by
  have hsl : s.data.toList.length = s.size := by simp
  have HSL := Lib.hid hsl; clear hsl
  have hup' := Lib.hid hup; clear hup
  have hmax' := Lib.hid hmax; clear hmax
  have hpos' := Lib.hid hpos; clear hpos
  go_enter Tryd.func58, Tryd.ntmps58
  go_wp2
  go_loop [4, 5] (fun c i => ∃ (k : Nat) (C : Int), k ≤ s.size ∧ i = .int .i64 k ∧ c = .int .i64 C ∧ Hid (C = colNum (s.data.toList.take k)) ∧ 0 ≤ C ∧ C ≤ 16384) (fun _ i => s.size - (intOf i).toNat)
  case atStart => exact ⟨0, 0, by omega, rfl, rfl, rfl, by omega, by omega⟩
  case round =>
    obtain ⟨k, C, hk, rfl, rfl, HC, hC0, hC1⟩ := hrel
    by_cases hlt : k < s.size
    · have hjl : k < s.data.toList.length := by rw [HSL.out]; exact hlt
      have hr := hup'.out s.data.toList[k] (List.getElem_mem hjl)
      have hg := data_get s k hlt hjl
      have hr' : Up s[k] := by rw [hg]; exact hr
      obtain ⟨r1, r2⟩ := hr'
      clear hr
      have b1 : (65 : Int) ≤ (s[k].toNat : Int) := by omega
      have b2 : (s[k].toNat : Int) ≤ 90 := by omega
      have hst := colNum_take_succ s.data.toList k hjl
      have hle := colNum_take_le s.data.toList hup'.out (k + 1)
      have hmx := hmax'.out
      have hC := HC.out
      rw [← hC, ← hg] at hst
      have HN : Hid (26 * C + ((s[k].toNat : Int) - 65) + 1 = colNum (s.data.toList.take (k + 1))) := by
        show 26 * C + ((s[k].toNat : Int) - 65) + 1 = colNum (s.data.toList.take (k + 1))
        omega
      have hn2 : 26 * C + ((s[k].toNat : Int) - 65) + 1 ≤ 16384 := by omega
      clear hst hle hmx hC hg
      go_wp2
      go_round
      case rel => exact ⟨k + 1, 26 * C + ((s[k].toNat : Int) - 65) + 1, by omega, by go_num, rfl, HN, by omega, hn2⟩
      case measure => simp [intOf]; omega
    · have e : k = s.size := by omega
      subst e
      have HF : Hid (C = colNum s.data.toList) := by
        have h0 := HC.out
        rw [List.take_of_length_le (by rw [HSL.out]; omega)] at h0
        exact h0
      have hp : (0 : Int) < C := by have := hpos'.out; rw [← HF.out] at this; omega
      go_wp2
      go_ret2
      exact ⟨by rw [← HF.out]; rfl, rfl⟩

/-- The string is the name of a cell, without dollars, its row written without a nought ahead. -/
structure SCell (s : ByteArray) (n : Nat) (col row : Int) : Prop where
  name : CellName s n
  three : n ≤ 3
  col_eq : colNum (s.data.toList.take n) = col
  col_pos : 1 ≤ col
  col_le : col ≤ 16384
  row_eq : (decVal (s.data.toList.drop n) : Int) = row
  row_pos : 1 ≤ row
  row_le : row ≤ 1048576
  first : ∀ h : n < s.size, s[n].toNat ≠ 48

set_option maxHeartbeats 3200000 in
set_option maxRecDepth 100000 in
theorem spec_read (s : ByteArray) (n : Nat) (col row : Int) (w : World) (h : SCell s n col row) :
    Calls Tryd.prog 50 #[.string s] w fun e w' => e = .returned (.tuple #[.int .i64 col, .int .i64 row, .bool true, .bool true]) ∧ w = w' := by
  have hsl : s.data.toList.length = s.size := by simp
  have HSL := Lib.hid hsl; clear hsl
  have hp := h.name.pos
  have hl := h.name.lt
  have hsm := h.name.small
  have HL := Lib.hid h.name.letters
  have HD := Lib.hid h.name.digits
  have hc1 := h.col_pos
  have hc2 := h.col_le
  have hr1 := h.row_pos
  have hr2 := h.row_le
  have HR := Lib.hid h.row_eq
  have HU := Lib.hid h.name.take_up
  have h3 := h.three
  have HCE := Lib.hid h.col_eq
  have hf48 : ((s[n].toNat : Int) == 48) = false := by rw [beq_eq_false_iff_ne]; have := h.first hl; omega
  have hf := HD.out n hl (Nat.le_refl _)
  obtain ⟨f1, f2⟩ := hf
  have g1 : (48 : Int) ≤ (s[n].toNat : Int) := by omega
  have g2 : (s[n].toNat : Int) ≤ 57 := by omega
  have hf36 : ((s[n].toNat : Int) == 36) = false := by rw [beq_eq_false_iff_ne]; omega
  have HN := fun w => spec_number (s.extract 0 n) w (by rw [ByteArray.size_extract]; omega) (by rw [ByteArray.size_extract]; omega) (by rw [Lib.extract_data]; simpa using HU.out) (by rw [Lib.extract_data]; simp only [List.drop_zero, Nat.sub_zero]; rw [HCE.out]; exact hc1) (by rw [Lib.extract_data]; simp only [List.drop_zero, Nat.sub_zero]; rw [HCE.out]; exact hc2)
  have hce : colNum (s.extract 0 n).data.toList = col := by rw [Lib.extract_data]; simp only [List.drop_zero, Nat.sub_zero]; exact HCE.out
  rw [hce] at HN
  have HNH := Lib.hid HN
  clear HN hce h
  go_enter Tryd.func50, Tryd.ntmps50
  go_wp2
  go_loop [2, 3, 6, 7] (fun c r d i => ∃ k : Nat, k ≤ s.size ∧ i = .int .i64 k ∧ d = .int .i64 0 ∧ c = .int .i64 0 ∧ r = .int .i64 0) (fun _ _ _ i => s.size - (intOf i).toNat)
  case atStart => exact ⟨0, by omega, rfl, rfl, rfl, rfl⟩
  case round =>
    obtain ⟨k, hk, rfl, rfl, rfl, rfl⟩ := hrel
    by_cases hlt : k < s.size
    · have hb : ((s[k].toNat : Int) == 36) = false ∧ ((s[k].toNat : Int) == 43) = false := by
        rw [beq_eq_false_iff_ne, beq_eq_false_iff_ne]
        by_cases hkn : k < n
        · have := HL.out k hlt hkn
          unfold Up at this
          omega
        · have := HD.out k hlt (by omega)
          unfold Dig at this
          omega
      obtain ⟨b1, b2⟩ := hb
      go_wp2
      go_round
      case rel => exact ⟨k + 1, by omega, by go_num, rfl, rfl, rfl⟩
      case measure => simp [intOf]; omega
    · have hs0 : (0 : Int) < (s.size : Int) := by omega
      have hu := HL.out 0 (by omega) (by omega)
      obtain ⟨u1, u2⟩ := hu
      have v1 : ((s[0].toNat : Int) == 36) = false := by rw [beq_eq_false_iff_ne]; omega
      go_wp2
      go_loop [8] (fun i => ∃ k : Nat, k ≤ n ∧ i = .int .i64 k) (fun i => n - (intOf i).toNat)
      case atStart => exact ⟨0, by omega, rfl⟩
      case round =>
        obtain ⟨j, hj, rfl⟩ := hrel
        by_cases hjn : j < n
        · have hjs : j < s.size := by omega
          have hu := HL.out j hjs hjn
          obtain ⟨u1, u2⟩ := hu
          have b1 : (65 : Int) ≤ (s[j].toNat : Int) := by omega
          have b2 : (s[j].toNat : Int) ≤ 90 := by omega
          have v2 : ((s[j].toNat : Int) != 36) = true := by rw [bne_iff_ne]; omega
          have v3 : ((s[j].toNat : Int) == 36) = false := by rw [beq_eq_false_iff_ne]; omega
          have v4 : decide ((s[j].toNat : Int) ≤ 57) = false := by simp; omega
          go_wp2
          go_round
          case rel => exact ⟨j + 1, by omega, by go_num⟩
          case measure => simp [intOf]; omega
        · obtain rfl : j = n := by omega
          clear hjn v1
          go_wp2_with fail
          refine (HNH.out _).mono ?_
          rintro e w' ⟨rfl, rfl⟩
          by_cases hn1 : j + 1 < s.size
          all_goals
            go_wp2
            go_loop [2, 3, 11] (fun c r i => ∃ (k : Nat) (V : Int), c = .int .i64 col ∧ j ≤ k ∧ k ≤ s.size ∧ i = .int .i64 k ∧ r = .int .i64 V ∧ Hid (V = (decVal ((s.data.toList.drop j).take (k - j)) : Int)) ∧ 0 ≤ V ∧ V ≤ 1048576) (fun _ _ i => s.size - (intOf i).toNat)
            case atStart => exact ⟨j, 0, rfl, by omega, by omega, rfl, rfl, by show (0 : Int) = _; rw [Nat.sub_self, List.take_zero]; rfl, by omega, by omega⟩
            case round =>
              obtain ⟨k, V, rfl, hk1, hk2, rfl, rfl, HV, hV0, hV1⟩ := hrel
              by_cases hlt : k < s.size
              · have hjl : k < s.data.toList.length := by rw [HSL.out]; exact hlt
                have hd := HD.out k hlt hk1
                obtain ⟨d1, d2⟩ := hd
                have e1 : (48 : Int) ≤ (s[k].toNat : Int) := by omega
                have e2 : (s[k].toNat : Int) ≤ 57 := by omega
                have hg := data_get s k hlt hjl
                have hst := decVal_take_succ (s.data.toList.drop j) (k - j) (by rw [List.length_drop, HSL.out]; omega)
                have hgd : (s.data.toList.drop j)[k - j]'(by rw [List.length_drop, HSL.out]; omega) = s[k] := by
                  rw [List.getElem_drop, hg]
                  congr 1
                  omega
                rw [hgd] at hst
                have hle := decVal_take_le (s.data.toList.drop j) (k - j + 1)
                have hRR := HR.out
                have hVV := HV.out
                have hkk : k + 1 - j = k - j + 1 := by omega
                have HN2 : Hid (10 * V + ((s[k].toNat : Int) - 48) = (decVal ((s.data.toList.drop j).take (k + 1 - j)) : Int)) := by
                  show 10 * V + ((s[k].toNat : Int) - 48) = (decVal ((s.data.toList.drop j).take (k + 1 - j)) : Int)
                  rw [hkk]
                  omega
                have hb : 10 * V + ((s[k].toNat : Int) - 48) ≤ 1048576 := by have := HN2.out; rw [hkk] at this; omega
                have hb0 : 0 ≤ 10 * V + ((s[k].toNat : Int) - 48) := by omega
                clear hst hle hRR hVV hkk hgd hg
                go_wp2
                go_round
                case rel => exact ⟨k + 1, 10 * V + ((s[k].toNat : Int) - 48), rfl, by omega, by omega, by go_num, rfl, HN2, hb0, hb⟩
                case measure => simp [intOf]; omega
              · have HE : Hid (V = row) := by
                  show V = row
                  rw [← HR.out, HV.out, List.take_of_length_le (by rw [List.length_drop, HSL.out]; omega)]
                obtain rfl : V = row := HE.out
                go_wp2
                go_returns
                exact ⟨rfl, rfl⟩
end Go.Proofs.YtokooampmhcfeaaDoor.Rg
