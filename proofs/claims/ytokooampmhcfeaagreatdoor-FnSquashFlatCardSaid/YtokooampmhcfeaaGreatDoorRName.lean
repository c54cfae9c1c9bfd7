/- A column's name by its number, as the package makes it: the letters of a number written in twenty-six letters without a zero. -/
import Derived.Test.YtokooampmhcfeaaGreatDoorRCell
namespace Go.Proofs.YtokooampmhcfeaaGreatDoor.Rg
open Go.RowKit

/-- The letters of a column's number. -/
def colName (n : Nat) : List UInt8 :=
  if _h : n = 0 then [] else colName ((n - 1) / 26) ++ [UInt8.ofNat (65 + (n - 1) % 26)]
termination_by n
decreasing_by omega

theorem colName_zero : colName 0 = [] := by rw [colName]; simp
theorem colName_succ (m : Nat) : colName (m + 1) = colName (m / 26) ++ [UInt8.ofNat (65 + m % 26)] := by
  rw [colName, dif_neg (by omega)]
  simp

theorem letter_nat (m : Nat) : (UInt8.ofNat (65 + m % 26)).toNat = 65 + m % 26 := by
  show (65 + m % 26) % 256 = 65 + m % 26
  omega

theorem colName_up : ∀ (n : Nat), ∀ a ∈ colName n, Up a := by
  intro n
  induction n using Nat.strongRecOn with
  | _ n ih =>
    cases n with
    | zero => intro a ha; rw [colName_zero] at ha; simp at ha
    | succ m =>
      intro a ha
      rw [colName_succ] at ha
      rcases List.mem_append.1 ha with h | h
      · exact ih (m / 26) (by omega) a h
      · simp only [List.mem_singleton] at h
        subst h
        unfold Up
        rw [letter_nat]
        omega

theorem colNum_snoc : ∀ (l : List UInt8) (x : UInt8), colNum (l ++ [x]) = colNum l * 26 + ((x.toNat : Int) - 65 + 1)
  | [], x => by simp [colNum]
  | y :: l, x => by
    have ih := colNum_snoc l x
    show ((y.toNat : Int) - 65 + 1) * ((26 ^ (l ++ [x]).length : Nat) : Int) + colNum (l ++ [x]) = (((y.toNat : Int) - 65 + 1) * ((26 ^ l.length : Nat) : Int) + colNum l) * 26 + ((x.toNat : Int) - 65 + 1)
    rw [ih, List.length_append, List.length_singleton, Nat.pow_succ]
    push_cast
    rw [Int.add_mul (_ * _) _ 26, Int.mul_assoc]
    omega

theorem colNum_name : ∀ (n : Nat), colNum (colName n) = n := by
  intro n
  induction n using Nat.strongRecOn with
  | _ n ih =>
    cases n with
    | zero => rw [colName_zero]; rfl
    | succ m =>
      rw [colName_succ, colNum_snoc, ih (m / 26) (by omega), letter_nat]
      omega

theorem colName_len (n : Nat) (h : 1 ≤ n) (h2 : n ≤ 16384) : 1 ≤ (colName n).length ∧ (colName n).length ≤ 3 := by
  obtain ⟨a, rfl⟩ : ∃ a, n = a + 1 := ⟨n - 1, by omega⟩
  rw [colName_succ, List.length_append, List.length_singleton]
  refine ⟨by omega, ?_⟩
  rcases Nat.eq_zero_or_pos (a / 26) with h0 | h0
  · rw [h0, colName_zero]
    simp
  · obtain ⟨b, hb⟩ : ∃ b, a / 26 = b + 1 := ⟨a / 26 - 1, by omega⟩
    rw [hb, colName_succ, List.length_append, List.length_singleton]
    rcases Nat.eq_zero_or_pos (b / 26) with h1 | h1
    · rw [h1, colName_zero]
      simp
    · obtain ⟨c, hc⟩ : ∃ c, b / 26 = c + 1 := ⟨b / 26 - 1, by omega⟩
      rw [hc, colName_succ, List.length_append, List.length_singleton]
      have : c / 26 = 0 := by omega
      rw [this, colName_zero]
      simp

set_option maxHeartbeats 800000 in
set_option maxRecDepth 100000 in
theorem name_any (n : Nat) (w : World) (h1 : 1 ≤ n) (h2 : n ≤ 16384) :
    Calls Tryz.prog 90 #[.int .i64 n] w fun e w' => e = .returned (.string ⟨(colName n).toArray⟩) ∧ Below w.heap.size w w' := by
  obtain ⟨i0, hi, hz0, hz1, hz2⟩ := info_parts infoByte
  obtain ⟨L, hL⟩ : ∃ L, L = (colName n).length := ⟨_, rfl⟩
  have hl := colName_len n h1 h2
  rw [← hL] at hl
  obtain ⟨wm, hmk, hown, hg⟩ := run_make_full (P := Tryz.prog) (w := w) w.heap.size 114 5 i0 _ 1 Tryz.underlying114 hi hz0 hz1 .i64 .i64 L (by rw [hz2]; omega) (by unfold maxLen; omega) (Nat.le_refl _)
  have hbm : Below w.heap.size w wm := (Below.refl _ _).grown hg (Nat.le_refl _) (fun _ hj => by cases hj)
  have HL := Lib.hid hL; clear hL
  clear hg
  go_enter Tryz.func90, Tryz.ntmps90
  go_wp2
  go_loop [3, 4] (fun k i => ∃ (u v : Nat), k = .int .i64 u ∧ i = .int .i64 v ∧ u ≤ L ∧ v ≤ n ∧ Hid (u + (colName v).length = L)) (fun _ i => match i with | .int _ x => x.toNat | _ => 0)
  case atStart => exact ⟨0, n, rfl, rfl, by omega, Nat.le_refl _, by show 0 + (colName n).length = L; rw [HL.out]; omega⟩
  case round =>
    obtain ⟨u, v, rfl, rfl, hu, hv, HC⟩ := hrel
    cases v with
    | zero =>
      have HU : Hid (u = L) := by
        have := HC.out
        rw [colName_zero] at this
        exact this
      obtain rfl : u = L := HU.out
      clear HC HU hv hu
      go_wp2
      go_loopw [0, 3] (fun c k wr => ∃ (v j : Nat) (pre : List UInt8), c = .int .i64 v ∧ k = .int .i64 j ∧ v ≤ n ∧ j ≤ u ∧ Hid (pre.length = j) ∧ Hid ((colName n).take j = colName v) ∧ wr.ownsRow w.heap.size 5 1 (.slice (some ⟨w.heap.size, 0, none⟩) u u) u ((pre ++ (colName n).drop j).map enc) ∧ Below w.heap.size w wr) (fun c _ _ => match c with | .int _ x => x.toNat | _ => 0)
      case atStart => exact ⟨n, u, List.replicate u 0, rfl, rfl, Nat.le_refl _, Nat.le_refl _, by simp [Hid], by show (colName n).take u = colName n; rw [HL.out, List.take_length], by
        have e : (madeCells (Value.int IntKind.u8 0).cells (u * 1)).toList = (List.replicate u (0 : UInt8) ++ (colName n).drop u).map enc := by
          have e1 : (colName n).drop u = [] := by rw [HL.out, List.drop_length]
          rw [e1, List.append_nil, List.map_replicate]
          rw [Nat.mul_one]
          exact toList_madeCells_one _ _
        rw [← e]
        exact hown, hbm⟩
      case round =>
        obtain ⟨v, j, pre, rfl, rfl, hv, hj, HP, HT, ho, hb⟩ := hrel
        cases v with
        | zero =>
          have HJ : Hid (j = 0) := by
            show j = 0
            have h := congrArg List.length HT.out
            rw [colName_zero, List.length_take, List.length_nil, ← HL.out] at h
            omega
          obtain rfl : j = 0 := HJ.out
          have HPN : Hid (pre = []) := List.eq_nil_of_length_eq_zero HP.out
          obtain rfl : pre = [] := HPN.out
          have hcv := run_convert_own (P := Tryz.prog) (l := colName n) (by simpa using ho) 114 5 9 Tryz.underlying114 Tryz.underlying5 Tryz.underlying9
          clear ho HT HP
          go_wp2
          go_ret
          exact ⟨rfl, hb⟩
        | succ m =>
          have HJ : Hid (1 ≤ j) := by
            show 1 ≤ j
            rcases Nat.eq_zero_or_pos j with h0 | h0
            · have h := HT.out
              rw [h0, List.take_zero, colName_succ] at h
              simp at h
            · exact h0
          obtain ⟨t, rfl⟩ : ∃ t, j = t + 1 := ⟨j - 1, by have := HJ.out; omega⟩
          have ht : t < u := by omega
          have f0 := ho.frozenAt t
          have hlen : ((pre ++ (colName n).drop (t + 1)).map enc).length = u := by have := ho.1; omega
          have c0 := ho.cells (g := w.heap.size) rfl t _ (List.getElem?_eq_getElem (by omega))
          rw [addAt] at c0
          generalize ((pre ++ (colName n).drop (t + 1)).map enc)[t] = old at c0
          clear hlen HJ
          have i0' : (0 : Int) ≤ (t : Int) := by omega
          have i1' : (t : Int) < (u : Int) := by omega
          go_wp2
          go_roundw
          case rel =>
            have hlt : t < (colName n).length := by have := HL.out; omega
            have h1 := HT.out
            rw [List.take_succ_eq_append_getElem hlt, colName_succ] at h1
            obtain ⟨h2, h3⟩ := List.append_inj' h1 rfl
            have h4 : (colName n)[t] = UInt8.ofNat (65 + m % 26) := by simpa using h3
            refine ⟨m / 26, t, pre.take t, by go_num, by go_num, by omega, by omega, ?_, h2, ?_, hb.setCell (Nat.le_refl _) _⟩
            · show (pre.take t).length = t
              have := HP.out
              rw [List.length_take]
              omega
            · have e1 : Value.int IntKind.u8 ((m : Int) % 26 + 65) = enc (colName n)[t] := by
                unfold enc
                rw [h4, letter_nat]
                congr 1
                omega
              have e2 : (pre.take t ++ (colName n).drop t).map enc = ((pre ++ (colName n).drop (t + 1)).map enc).set t (enc (colName n)[t]) := by
                have hp := HP.out
                rw [← List.map_set, List.set_append_left _ _ (by omega), List.set_eq_take_append_cons_drop, if_pos (by omega), List.drop_eq_getElem_cons hlt]
                have : pre.drop (t + 1) = [] := List.drop_eq_nil_of_le (by omega)
                rw [this]
                simp
              rw [e1, e2]
              exact (ho.stored t _).1
          case measure => simp; omega
    | succ m =>
      go_wp2
      go_round
      case rel => exact ⟨u + 1, m / 26, by go_num, by go_num, by have h := HC.out; rw [colName_succ, List.length_append, List.length_singleton] at h; omega, by omega, by
        show u + 1 + (colName (m / 26)).length = L
        have h := HC.out
        rw [colName_succ, List.length_append, List.length_singleton] at h
        omega⟩
      case measure => simp; omega
end Go.Proofs.YtokooampmhcfeaaGreatDoor.Rg
