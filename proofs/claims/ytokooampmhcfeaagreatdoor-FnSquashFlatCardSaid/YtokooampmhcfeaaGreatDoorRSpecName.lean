/- The specification's own text of a column, of a number, of a cell and of an area: the same letters and digits. -/
import Derived.Test.YtokooampmhcfeaaGreatDoorRGood
import Derived.Test.YtokooampmhcfeaaGreatDoorRRef
namespace Go.Proofs.YtokooampmhcfeaaGreatDoor.Rg
open Go.RowKit

set_option maxHeartbeats 1600000 in
set_option maxRecDepth 100000 in
theorem spec_column (n : Nat) (w : World) (h1 : 1 ≤ n) (h2 : n ≤ 16384) :
    Calls Tryz.prog 43 #[.int .i64 n] w fun e w' => e = .returned (.tuple #[.string ⟨(colName n).toArray⟩, .bool true]) ∧ Below w.heap.size w w' := by
  have hl := colName_len n h1 h2
  go_enter Tryz.func43, Tryz.ntmps43
  go_wp2
  go_loopw [0, 4] (fun i s wr => ∃ (v : Nat) (t : List UInt8), i = .int .i64 v ∧ s = .string ⟨t.toArray⟩ ∧ v ≤ n ∧ Hid (colName v ++ t = colName n) ∧ Below w.heap.size w wr) (fun i _ _ => match i with | .int _ x => x.toNat | _ => 0)
  case atStart => exact ⟨n, [], rfl, rfl, Nat.le_refl _, by show colName n ++ [] = colName n; simp, Below.refl _ _⟩
  case round =>
    obtain ⟨v, t, rfl, rfl, hv, HC, hb⟩ := hrel
    cases v with
    | zero =>
      have HT : Hid (t = colName n) := by
        have h := HC.out
        rw [colName_zero] at h
        exact h
      obtain rfl : t = colName n := HT.out
      go_wp2
      go_ret2
      exact ⟨rfl, hb⟩
    | succ m =>
      have HL : Hid (t.length ≤ 2) := by
        show t.length ≤ 2
        have h := congrArg List.length HC.out
        rw [colName_succ] at h
        simp only [List.length_append, List.length_singleton] at h
        omega
      have hcv := run_convert_bytes_arg (P := Tryz.prog) (wr.alloc (.cells #[.int .u8 (65 + (m : Int) % 26)] 5)) 114 5 Tryz.underlying114 Tryz.underlying5 wr.heap.size 0 1 1 [65 + (m : Int) % 26] rfl (by
        intro i hi
        obtain rfl : i = 0 := by omega
        simp [go_sem]) 9 Tryz.underlying9
      have hB : strOfNums [65 + (m : Int) % 26] = ⟨[UInt8.ofNat (65 + m % 26)].toArray⟩ := by
        unfold strOfNums
        simp only [List.map_cons, List.map_nil]
        congr 3
      rw [hB] at hcv
      have HS : Hid ((⟨[UInt8.ofNat (65 + m % 26)].toArray⟩ : ByteArray) ++ ⟨t.toArray⟩ = ⟨(UInt8.ofNat (65 + m % 26) :: t).toArray⟩) := str_append [UInt8.ofNat (65 + m % 26)] t
      have hz1 : (⟨[UInt8.ofNat (65 + m % 26)].toArray⟩ : ByteArray).size = 1 := rfl
      have hz2 : (⟨t.toArray⟩ : ByteArray).size ≤ 2 := by
        show t.toArray.size ≤ 2
        simpa using HL.out
      have HD : Hid ((m : Int) - (m : Int) % 26 = 26 * ((m / 26 : Nat) : Int)) := by
        show (m : Int) - (m : Int) % 26 = 26 * ((m / 26 : Nat) : Int)
        omega
      generalize (⟨[UInt8.ofNat (65 + m % 26)].toArray⟩ : ByteArray) = B at *
      have hTT : (⟨t.toArray⟩ : ByteArray) = ⟨t.toArray⟩ := rfl
      generalize hT : (⟨t.toArray⟩ : ByteArray) = T at HS hz2 ⊢
      clear hTT
      have ra : ∀ w, (Op.stringOp .add B T).run Tryz.prog w = .ok (.string (B ++ T)) w := fun w => run_string_add_sum _ _ _ (by omega)
      go_wp2
      have HQ : Hid (((m : Int) - (m : Int) % 26) / 26 = ((m / 26 : Nat) : Int)) := by
        show ((m : Int) - (m : Int) % 26) / 26 = ((m / 26 : Nat) : Int)
        omega
      go_roundw
      case rel =>
        refine ⟨m / 26, UInt8.ofNat (65 + m % 26) :: t, by rw [HQ.out], by rw [HS.out], by omega, ?_, hb.alloc hb.size _⟩
        show colName (m / 26) ++ (UInt8.ofNat (65 + m % 26) :: t) = colName n
        have h := HC.out
        rw [colName_succ] at h
        rw [← h]
        simp
      case measure =>
        rw [HQ.out]
        simp
        omega

/-- The digits' alphabet. -/
def alpha36 : ByteArray := ⟨#[48, 49, 50, 51, 52, 53, 54, 55, 56, 57, 65, 66, 67, 68, 69, 70, 71, 72, 73, 74, 75, 76, 77, 78, 79, 80, 81, 82, 83, 84, 85, 86, 87, 88, 89, 90]⟩

theorem alpha_piece (u : Nat) (h : u < 10) : alpha36.extract u (u + 1) = ⟨[UInt8.ofNat (48 + u)].toArray⟩ := by
  have : u = 0 ∨ u = 1 ∨ u = 2 ∨ u = 3 ∨ u = 4 ∨ u = 5 ∨ u = 6 ∨ u = 7 ∨ u = 8 ∨ u = 9 := by omega
  rcases this with rfl | rfl | rfl | rfl | rfl | rfl | rfl | rfl | rfl | rfl <;> rfl

set_option maxHeartbeats 1600000 in
set_option maxRecDepth 100000 in
theorem spec_digits : ∀ (n : Nat) (w : World), n ≤ 9999999 →
    Calls Tryz.prog 44 #[.int .i64 n, .int .i64 10] w fun e w' => e = .returned (.string ⟨(Lib.decDigits n).toArray⟩) ∧ Below w.heap.size w w' := by
  intro n
  induction n using Nat.strongRecOn with
  | _ n ih =>
    intro w hn
    by_cases h : n < 10
    · have HE : Hid (alpha36.extract (n % 10) (n % 10 + 1) = ⟨(Lib.decDigits n).toArray⟩) := by
        show alpha36.extract (n % 10) (n % 10 + 1) = ⟨(Lib.decDigits n).toArray⟩
        rw [alpha_piece (n % 10) (by omega), digits_small h, Nat.mod_eq_of_lt h]
      have h' : (n : Int) < 10 := by omega
      go_enter Tryz.func44, Tryz.ntmps44
      go_wp2_with fail
      go_quiet (fail)
      go_wp2
      go_ret
      exact ⟨by rw [← HE.out]; rfl, below_drewN w nq⟩
    · have HE : Hid ((⟨(Lib.decDigits (n / 10)).toArray⟩ : ByteArray) ++ alpha36.extract (n % 10) (n % 10 + 1) = ⟨(Lib.decDigits n).toArray⟩) := by
        show (⟨(Lib.decDigits (n / 10)).toArray⟩ : ByteArray) ++ alpha36.extract (n % 10) (n % 10 + 1) = ⟨(Lib.decDigits n).toArray⟩
        rw [alpha_piece (n % 10) (by omega), digits_more h]
        exact str_append _ _
      have hs1 : (alpha36.extract (n % 10) (n % 10 + 1)).size ≤ 1 := by rw [alpha_piece (n % 10) (by omega)]; exact Nat.le_refl _
      have hs2 : (⟨(Lib.decDigits (n / 10)).toArray⟩ : ByteArray).size ≤ 7 := by
        show (Lib.decDigits (n / 10)).toArray.size ≤ 7
        have := digits_short 6 (n / 10) (by omega)
        simpa using this
      have e : ((n / 10 : Nat) : Int) = (n : Int) / 10 := by omega
      have IH := fun w => ih (n / 10) (by omega) w (by omega)
      rw [e] at IH
      clear ih e
      generalize (⟨(Lib.decDigits (n / 10)).toArray⟩ : ByteArray) = D at *
      have ra : ∀ w, (Op.stringOp .add D (alpha36.extract (n % 10) (n % 10 + 1))).run Tryz.prog w = .ok (.string (D ++ alpha36.extract (n % 10) (n % 10 + 1))) w := fun w => run_string_add_sum _ _ _ (by omega)
      unfold alpha36 at ra
      have h' : ¬ (n : Int) < 10 := by omega
      go_enter Tryz.func44, Tryz.ntmps44
      go_wp2_with fail
      go_quiet (fail)
      go_wp2_with fail
      refine (IH _).mono ?_
      rintro e w1 ⟨rfl, hb⟩
      go_wp2
      go_ret
      exact ⟨by rw [← HE.out]; rfl, (below_drewN w nq).trans hb⟩

set_option maxHeartbeats 1600000 in
set_option maxRecDepth 100000 in
theorem spec_cell (c r : Nat) (w : World) (h1 : 1 ≤ c ∧ c ≤ 16384) (h3 : 1 ≤ r ∧ r ≤ 1048576) :
    Calls Tryz.prog 29 #[.int .i64 c, .int .i64 r, .bool false] w fun e w' => e = .returned (.tuple #[.string ⟨(cellText false c r).toArray⟩, .bool true]) ∧ Below w.heap.size w w' := by
  obtain ⟨h1, h2⟩ := h1
  obtain ⟨h3, h4⟩ := h3
  have hSz : (⟨(colName c).toArray⟩ : ByteArray).size ≤ 3 := by
    show (colName c).toArray.size ≤ 3
    have := (colName_len c h1 h2).2
    simpa using this
  have hDz : (⟨(Lib.decDigits r).toArray⟩ : ByteArray).size ≤ 7 := by
    show (Lib.decDigits r).toArray.size ≤ 7
    have := digits_short 6 r (by omega)
    simpa using this
  have hcat : (⟨(colName c).toArray⟩ : ByteArray) ++ ⟨(Lib.decDigits r).toArray⟩ = ⟨(cellText false c r).toArray⟩ := str_append _ _
  have HN := fun w => spec_column c w h1 h2
  have HI := fun w => spec_digits r w (by omega)
  generalize (⟨(colName c).toArray⟩ : ByteArray) = S at *
  generalize (⟨(Lib.decDigits r).toArray⟩ : ByteArray) = D at *
  have ra : ∀ w, (Op.stringOp .add S D).run Tryz.prog w = .ok (.string (S ++ D)) w := fun w => run_string_add_sum _ _ _ (by omega)
  go_enter Tryz.func29, Tryz.ntmps29
  go_wp2_with fail
  refine (HN _).mono ?_
  rintro e w1 ⟨rfl, hb⟩
  go_wp2_with fail
  refine (HI _).mono ?_
  rintro e w2 ⟨rfl, hb2⟩
  go_wp2
  go_ret2
  exact ⟨by rw [← hcat]; rfl, hb.trans (hb2.mono hb.size)⟩

/-- An area of whole numbers in its limits. -/
def Nat4 (p q x y : Nat) : Ar := ⟨p, q, x, y⟩

set_option maxHeartbeats 1600000 in
set_option maxRecDepth 100000 in
theorem spec_area (p q x y : Nat) (w : World) (hp : 1 ≤ p ∧ p ≤ 16384) (hq : 1 ≤ q ∧ q ≤ 1048576) (hx : 1 ≤ x ∧ x ≤ 16384) (hy : 1 ≤ y ∧ y ≤ 1048576) :
    Calls Tryz.prog 19 #[(Nat4 p q x y).val] w fun e w' => e = .returned (.string ⟨(areaText false p q x y).toArray⟩) ∧ Below w.heap.size w w' := by
  simp only [Ar.val, Nat4]
  have hX : (⟨(cellText false p q).toArray⟩ : ByteArray).size ≤ 12 := by
    show (cellText false p q).toArray.size ≤ 12
    simpa using cellText_len false p q hp.1 hp.2 hq.2
  have hY : (⟨(cellText false x y).toArray⟩ : ByteArray).size ≤ 12 := by
    show (cellText false x y).toArray.size ≤ 12
    simpa using cellText_len false x y hx.1 hx.2 hy.2
  have hcat : (⟨(cellText false p q).toArray⟩ ++ ⟨#[58]⟩ : ByteArray) ++ ⟨(cellText false x y).toArray⟩ = ⟨(areaText false p q x y).toArray⟩ := by
    have e0 : (⟨#[58]⟩ : ByteArray) = ⟨[58].toArray⟩ := rfl
    rw [e0, str_append, str_append]
    unfold areaText
    simp
  have H1 := fun w => spec_cell p q w hp hq
  have H2 := fun w => spec_cell x y w hx hy
  generalize (⟨(cellText false p q).toArray⟩ : ByteArray) = X at *
  generalize (⟨(cellText false x y).toArray⟩ : ByteArray) = Y at *
  have s58 : (⟨#[58]⟩ : ByteArray).size = 1 := rfl
  have ra : ∀ w, (Op.stringOp .add X ⟨#[58]⟩).run Tryz.prog w = .ok (.string (X ++ ⟨#[58]⟩)) w := fun w => run_string_add_sum _ _ _ (by omega)
  have rb : ∀ w, (Op.stringOp .add (X ++ ⟨#[58]⟩) Y).run Tryz.prog w = .ok (.string (X ++ ⟨#[58]⟩ ++ Y)) w := fun w => run_string_add_sum _ _ _ (by rw [ByteArray.size_append]; omega)
  clear s58 hX hY hp hq hx hy
  have FA := Four.made w p q x y 41
  obtain ⟨wA, hA⟩ : ∃ wA, wA = w.alloc (.cells #[.int .i64 p, .int .i64 q, .int .i64 x, .int .i64 y] 41) := ⟨_, rfl⟩
  rw [← hA] at FA
  go_enter Tryz.func19, Tryz.ntmps19
  go_upto_region 1 with fail
  rw [← hA]
  generalize w.heap.size = g at FA ⊢
  clear hA
  have c0 := FA.c0
  have c1 := FA.c1
  go_wp2_with fail
  refine (H1 _).mono ?_
  rintro e w1 ⟨rfl, hb1⟩
  replace FA := FA.later hb1
  clear c0 c1 hb1 H1
  have c2 := FA.c2
  have c3 := FA.c3
  go_wp2_with fail
  refine (H2 _).mono ?_
  rintro e w2 ⟨rfl, hb2⟩
  replace FA := FA.later hb2
  have hB := FA.below
  clear c2 c3 hb2 H2 FA
  go_wp2
  go_ret
  exact ⟨by rw [← hcat]; rfl, hB⟩
end Go.Proofs.YtokooampmhcfeaaGreatDoor.Rg
