/- The text of a cell and of an area, absolute or not, is read back as the very numbers: the plain law. -/
import Derived.Test.YtokooampmhcfeaaGreatDoorRName
import Derived.Test.YtokooampmhcfeaaGreatDoorRRange
import Derived.Lib.Atoi
import Derived.Lib.ItoaNum
namespace Go.Proofs.YtokooampmhcfeaaGreatDoor.Rg
open Go.RowKit

theorem dig_nat (d : Nat) (h : d < 10) : (UInt8.ofNat (48 + d)).toNat = 48 + d := by
  show (48 + d) % 256 = 48 + d
  omega

theorem digitVal_dig (d : Nat) (h : d < 10) : Lib.digitVal (UInt8.ofNat (48 + d)) = some d := by
  have : d = 0 ∨ d = 1 ∨ d = 2 ∨ d = 3 ∨ d = 4 ∨ d = 5 ∨ d = 6 ∨ d = 7 ∨ d = 8 ∨ d = 9 := by omega
  rcases this with rfl | rfl | rfl | rfl | rfl | rfl | rfl | rfl | rfl | rfl <;> rfl

theorem digits_small {u : Nat} (h : u < 10) : Lib.decDigits u = [UInt8.ofNat (48 + u)] := by rw [Lib.decDigits, dif_pos h]
theorem digits_more {u : Nat} (h : ¬ u < 10) : Lib.decDigits u = Lib.decDigits (u / 10) ++ [UInt8.ofNat (48 + u % 10)] := by rw [Lib.decDigits, dif_neg h]

theorem digits_dig : ∀ (u : Nat), ∀ a ∈ Lib.decDigits u, Dig a := by
  intro u
  induction u using Nat.strongRecOn with
  | _ u ih =>
    intro a ha
    by_cases h : u < 10
    · rw [digits_small h] at ha
      simp only [List.mem_singleton] at ha
      subst ha
      unfold Dig
      rw [dig_nat u h]
      omega
    · rw [digits_more h] at ha
      rcases List.mem_append.1 ha with h1 | h1
      · exact ih (u / 10) (by omega) a h1
      · simp only [List.mem_singleton] at h1
        subst h1
        unfold Dig
        rw [dig_nat _ (by omega)]
        omega

theorem digits_pos (u : Nat) : 1 ≤ (Lib.decDigits u).length := by
  by_cases h : u < 10
  · rw [digits_small h]; simp
  · rw [digits_more h]; simp

theorem digits_short : ∀ (k u : Nat), u < 10 ^ (k + 1) → (Lib.decDigits u).length ≤ k + 1
  | 0, u, h => by
    rw [digits_small (by omega)]
    simp
  | k + 1, u, h => by
    by_cases h1 : u < 10
    · rw [digits_small h1]; simp
    · rw [digits_more h1, List.length_append, List.length_singleton]
      have := digits_short k (u / 10) (by rw [Nat.pow_succ] at h; omega)
      omega

theorem digits_read : ∀ (u : Nat), Lib.decFrom 0 (Lib.decDigits u) = some u := by
  intro u
  induction u using Nat.strongRecOn with
  | _ u ih =>
    by_cases h : u < 10
    · rw [digits_small h]
      have := Lib.decFrom_take [UInt8.ofNat (48 + u)] 0 0 0 _ u rfl rfl (digitVal_dig u h)
      simpa using this
    · rw [digits_more h]
      have h1 := ih (u / 10) (by omega)
      have := Lib.decFrom_take (Lib.decDigits (u / 10) ++ [UInt8.ofNat (48 + u % 10)]) (Lib.decDigits (u / 10)).length 0 (u / 10) _ (u % 10) (by simpa using h1) (by simp) (digitVal_dig _ (by omega))
      rw [List.take_of_length_le (by simp)] at this
      rw [this]
      congr 1
      omega

theorem digits_atoi (u : Nat) : Lib.atoi (Lib.decDigits u) = some (u : Int) := by
  have hr := digits_read u
  have hp := digits_pos u
  have hd := digits_dig u
  cases hl : Lib.decDigits u with
  | nil => rw [hl] at hp; simp at hp
  | cons b r =>
    rw [hl] at hr hd
    have hb := hd b (by simp)
    unfold Dig at hb
    have n1 : (b == 45) = false := by
      rw [beq_eq_false_iff_ne]
      intro e
      subst e
      have := hb.1
      simp at this
    have n2 : (b == 43) = false := by
      rw [beq_eq_false_iff_ne]
      intro e
      subst e
      have := hb.1
      simp at this
    have hn : Lib.decNat (b :: r) = some u := hr
    show (if (b == 45) = true then (Lib.decNat r).map fun (m : Nat) => -(m : Int) else if (b == 43) = true then (Lib.decNat r).map fun (m : Nat) => (m : Int) else (Lib.decNat (b :: r)).map fun (m : Nat) => (m : Int)) = _
    rw [n1, n2, hn]
    rfl

/-- The text of a cell, with '$' ahead of both parts or without. -/
def cellText (ab : Bool) (c r : Nat) : List UInt8 := if ab then 36 :: (colName c ++ 36 :: Lib.decDigits r) else colName c ++ Lib.decDigits r

theorem cellText_filter (ab : Bool) (c r : Nat) : (cellText ab c r).filter (· != 36) = colName c ++ Lib.decDigits r := by
  have h1 : (colName c).filter (· != 36) = colName c := filter_up (colName_up c)
  have h2 : (Lib.decDigits r).filter (· != 36) = Lib.decDigits r := by
    rw [List.filter_eq_self]
    intro a ha
    have := digits_dig r a ha
    unfold Dig at this
    rw [bne_iff_ne]
    intro e
    subst e
    have h3 := this.1
    simp at h3
  unfold cellText
  cases ab
  · simp [List.filter_append, h1, h2]
  · simp [List.filter_append, h1, h2]

theorem cellText_cell (c r : Nat) (h1 : 1 ≤ c) (h2 : c ≤ 16384) (h3 : 1 ≤ r) (h4 : r ≤ 1048576) : IsCell ⟨(colName c ++ Lib.decDigits r).toArray⟩ (colName c).length c r := by
  obtain ⟨l1, l2⟩ := colName_len c h1 h2
  have d1 := digits_pos r
  have d2 := digits_short 6 r (by omega)
  have hsz : (⟨(colName c ++ Lib.decDigits r).toArray⟩ : ByteArray).size = (colName c).length + (Lib.decDigits r).length := by
    show (colName c ++ Lib.decDigits r).toArray.size = _
    simp
  refine ⟨⟨l1, by omega, by omega, ?_, ?_⟩, l2, ?_, by omega, ?_, by omega, by omega, by omega⟩
  · intro k hk hkn
    rw [data_get _ k hk (by simpa using (show k < (colName c).length + (Lib.decDigits r).length by omega))]
    have e : (⟨(colName c ++ Lib.decDigits r).toArray⟩ : ByteArray).data.toList[k]'(by simpa using (show k < (colName c).length + (Lib.decDigits r).length by omega)) = (colName c)[k] := by
      simp [List.getElem_append_left hkn]
    rw [e]
    exact colName_up c _ (List.getElem_mem _)
  · intro k hk hkn
    have hk' : k < (colName c).length + (Lib.decDigits r).length := by omega
    rw [data_get _ k hk (by simpa using hk')]
    have e : (⟨(colName c ++ Lib.decDigits r).toArray⟩ : ByteArray).data.toList[k]'(by simpa using hk') = (Lib.decDigits r)[k - (colName c).length]'(by omega) := by
      simp [List.getElem_append_right hkn]
    rw [e]
    exact digits_dig r _ (List.getElem_mem _)
  · show colNum ((colName c ++ Lib.decDigits r).take (colName c).length) = c
    rw [List.take_left]
    exact colNum_name c
  · show Lib.atoi ((colName c ++ Lib.decDigits r).drop (colName c).length) = some (r : Int)
    rw [List.drop_left]
    exact digits_atoi r

/-- The text of an area. -/
def areaText (ab : Bool) (p q x y : Nat) : List UInt8 := cellText ab p q ++ 58 :: cellText ab x y

theorem cellText_len (ab : Bool) (c r : Nat) (h1 : 1 ≤ c) (h2 : c ≤ 16384) (h4 : r ≤ 1048576) : (cellText ab c r).length ≤ 12 := by
  obtain ⟨l1, l2⟩ := colName_len c h1 h2
  have d2 := digits_short 6 r (by omega)
  unfold cellText
  cases ab <;> simp <;> omega

theorem areaText_range (ab : Bool) (p q x y : Nat) (hp : 1 ≤ p ∧ p ≤ 16384) (hq : 1 ≤ q ∧ q ≤ 1048576) (hx : 1 ≤ x ∧ x ≤ 16384) (hy : 1 ≤ y ∧ y ≤ 1048576) : IsRange ⟨(areaText ab p q x y).toArray⟩ p q x y := by
  refine ⟨_, _, _, _, ?_, cellText_cell p q hp.1 hp.2 hq.1 hq.2, cellText_cell x y hx.1 hx.2 hy.1 hy.2, ?_⟩
  · show (areaText ab p q x y).filter (· != 36) = _
    unfold areaText
    rw [List.filter_append, List.filter_cons, cellText_filter, cellText_filter]
    simp
  · show (areaText ab p q x y).toArray.size ≤ 1000
    have h1 := cellText_len ab p q hp.1 hp.2 hq.2
    have h2 := cellText_len ab x y hx.1 hx.2 hy.2
    unfold areaText
    simp
    omega
end Go.Proofs.YtokooampmhcfeaaGreatDoor.Rg
