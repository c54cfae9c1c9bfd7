/- Texts between marks, and cells as texts. -/
import Derived.Test.YtfeffdjnjckjaaaGreatDoorJList
import Derived.Laws.BytesArg
/- A text between marks, every mark in it twice. -/
namespace Go.Proofs.YtfeffdjnjckjaaaGreatDoor.Rg
open Go.RowKit

theorem bs_get {s : List UInt8} {k : Nat} {a : UInt8} (ha : s[k]? = some a) (hk : k < (bs s).size) : (bs s)[k] = a := by
  have h : (bs s).data[k]? = some a := by
    show s.toArray[k]? = some a
    simpa using ha
  exact (Array.getElem?_eq_some_iff.1 h).2
theorem dbl_app (m : UInt8) : ∀ a b : List UInt8, dbl m (a ++ b) = dbl m a ++ dbl m b
  | [], b => rfl
  | c :: a, b => by
    show dbl m (c :: (a ++ b)) = dbl m (c :: a) ++ dbl m b
    rw [dbl, dbl, dbl_app m a b]
    split <;> rfl
/-- Bytes of the call's own. -/
def Bys (w : World) (B : Nat) (V : Value) (o : List UInt8) : Prop := w.ownsRow B 5 1 V o.length (o.map enc)
theorem Bys.below {w w' : World} {B : Nat} {V : Value} {o : List UInt8} (h : Bys w B V o) (hb : Below w.heap.size w w') : Bys w' B V o := own_below h hb
theorem push_byte (w : World) (B c : Nat) (A : Option Addr) (o : List UInt8) (x : UInt8) (h : Bys w B (.slice A o.length c) o) (hn : o.length ≤ 10000) (hB : B ≤ w.heap.size) (g1 : Nat) (hg1 : Box w g1 #[enc x] 5) :
    ∃ A' c' w', (Builtin.append_ #[75, 75] 75 #[.slice A o.length c, .slice (some ⟨g1, 0, none⟩) 1 1]).run Tryz.prog w = .ok (.slice A' (o ++ [x]).length c') w' ∧
      Bys w' B (.slice A' (o ++ [x]).length c') (o ++ [x]) ∧ w.grownBy w' (Value.slice A o.length c).ownBlock := by
  obtain ⟨i0, hi, hz0, hz1, hz2⟩ := info_parts infoByte
  obtain ⟨v', w', happ, hown, hgr, _, _⟩ := run_append_own_at (P := Tryz.prog) w B 75 75 5 i0 _ 1 1 Tryz.underlying75 hi hz0 hz1 hz2 rfl (by decide) (.slice A o.length c) o.length _ h ⟨g1, 0, none⟩ 1 1 [enc x] rfl (fun j u hj => by
    rw [addAt, hg1.cell]
    simpa using hj) (fun u hu => by
      simp only [List.mem_cons, List.not_mem_nil, or_false] at hu
      subst hu
      rfl) (by unfold maxLen; omega) (by omega) hB
  have hown2 : Bys w' B v' (o ++ [x]) := by
    unfold Bys
    rw [List.length_append, List.map_append]
    exact hown
  obtain ⟨A', c', rfl⟩ := own_slice hown2
  exact ⟨A', c', w', happ, hown2, hgr⟩

set_option maxHeartbeats 16000000 in
set_option maxRecDepth 100000 in
theorem doubled_any (s : List UInt8) (w : World) (hs : s.length ≤ 500) :
    Calls Tryz.prog 52 #[.string (bs s), .int .u8 39] w fun e w' => e = .returned (.string (bs (39 :: (dbl 39 s ++ [39])))) ∧ Below w.heap.size w w' := by
  have hsz : (bs s).size = s.length := bs_size s
  have HSZ := Lib.hid hsz
  obtain ⟨T, hT⟩ : ∃ T, bs s = T := ⟨_, rfl⟩
  have HT := Lib.hid hT
  rw [hT] at hsz ⊢
  have hTS : T.size ≤ 500 := by omega
  clear hT
  go_enter Tryz.func52, Tryz.ntmps52
  go_upto_region 3 with fail
  go_loopw [6, 5] (fun i u wr => ∃ (k : Nat) (Ax : Option Addr) (nx cx : Nat), i = .int .i64 k ∧ u = .slice Ax nx cx ∧ k ≤ s.length ∧ Hid (nx = (39 :: dbl 39 (s.take k)).length) ∧ Hid (Bys wr w.heap.size (.slice Ax (39 :: dbl 39 (s.take k)).length cx) (39 :: dbl 39 (s.take k))) ∧ Hid (Below w.heap.size w wr)) (fun i _ _ => s.length - (intOf i).toNat)
  case atStart =>
    refine ⟨0, _, 1, _, rfl, rfl, Nat.zero_le _, Lib.hid (by simp [dbl]), ?_, Lib.hid ((Below.refl _ _).alloc (Nat.le_refl _) _)⟩
    refine Lib.hid ?_
    show Bys _ _ (.slice _ (39 :: dbl 39 []).length 1) (39 :: dbl 39 [])
    exact ⟨rfl, .inr ⟨w.heap.size, 1, #[.int .u8 39], rfl, Nat.le_refl _, Box.made w _ _, Nat.le_refl _, by unfold maxLen; omega, rfl, rfl⟩⟩
  case round =>
    obtain ⟨k, Ax, nx, cx, rfl, rfl, hk, HNX, HO, HB⟩ := hrel
    obtain rfl := HNX.out
    have hdl : (39 :: dbl 39 (s.take k)).length ≤ 1001 := by
      have := dbl_len 39 (s.take k)
      have h2 := List.length_take_le k s
      simp only [List.length_cons]
      omega
    by_cases hlt : k < s.length
    · obtain ⟨a, ha⟩ : ∃ a, s[k]? = some a := ⟨_, List.getElem?_eq_getElem hlt⟩
      have hks : k < T.size := by omega
      have hka : T[k] = a := by
        have h2 := HT.out
        subst h2
        exact bs_get ha hks
      have HTK : Hid (39 :: dbl 39 (s.take (k + 1)) = (39 :: dbl 39 (s.take k)) ++ dbl 39 [a]) := Lib.hid (by rw [take_snoc s k a ha, dbl_app]; rfl)
      clear ha hsz
      generalize hg : (39 :: dbl 39 (s.take k)) = o at *
      clear hg
      by_cases h39 : a = 39
      · subst h39
        have hE := HTK.out
        rw [show dbl 39 [39] = [39] ++ [39] from rfl, ← List.append_assoc] at hE
        have HE := Lib.hid hE
        clear hE HTK
        have H2 : Hid (Below wr.heap.size wr (wr.alloc (.cells #[.int .u8 39] 5))) := Lib.hid ((Below.refl _ _).alloc (Nat.le_refl _) _)
        obtain ⟨A3, c3, w3, happ3, hk3, hg3⟩ := push_byte (wr.alloc (.cells #[.int .u8 39] 5)) w.heap.size cx Ax o 39 (HO.out.below H2.out) (by omega) (Nat.le_trans HB.out.size H2.out.size) wr.heap.size (Box.made _ _ _)
        have HF3 := Lib.hid (below_grew (HB.out.trans (H2.out.mono HB.out.size)) hg3 (fun k hk => ((HO.out.below H2.out).lt k hk).1) (Nat.le_trans HB.out.size H2.out.size))
        have HK3 := Lib.hid hk3
        have H4 : Hid (Below w3.heap.size w3 (w3.alloc (.cells #[.int .u8 39] 5))) := Lib.hid ((Below.refl _ _).alloc (Nat.le_refl _) _)
        obtain ⟨A5, c5, w5, happ5, hk5, hg5⟩ := push_byte (w3.alloc (.cells #[.int .u8 39] 5)) w.heap.size c3 A3 (o ++ [39]) 39 (HK3.out.below H4.out) (by simp; omega) (Nat.le_trans HF3.out.size H4.out.size) w3.heap.size (Box.made _ _ _)
        have HF5 := Lib.hid (below_grew (HF3.out.trans (H4.out.mono HF3.out.size)) hg5 (fun k hk => ((HK3.out.below H4.out).lt k hk).1) (Nat.le_trans HF3.out.size H4.out.size))
        have HK5 := Lib.hid hk5
        clear hk3 hg3 hk5 hg5 H2 H4 HK3
        have e1 : (((39 : UInt8).toNat : Int) == 39) = true := by decide
        rw [List.length_append] at happ3 happ5
        rw [List.length_append] at happ5
        go_upto_region 7 with (at_builtin; refine wpList_append_eq rfl _ _ _ rfl rfl rfl happ3 ?_)
        clear happ3
        go_wp2_with (at_builtin; refine wpList_append_eq rfl _ _ _ rfl rfl rfl happ5 ?_)
        clear happ5
        go_roundw
        case rel =>
          refine ⟨k + 1, A5, _, c5, by go_num, rfl, by omega, ?_, ?_, HF5⟩
          · rw [HE.out]
            exact Lib.hid (by simp)
          · rw [HE.out]
            exact HK5
        case measure => simp [intOf]; omega
      · have e1 : ((a.toNat : Int) == 39) = false := u8_ne h39
        have hE := HTK.out
        rw [show dbl 39 [a] = [a] by simp [dbl, h39]] at hE
        have HE := Lib.hid hE
        clear hE HTK
        have H2 : Hid (Below wr.heap.size wr (wr.alloc (.cells #[.int .u8 a.toNat] 5))) := Lib.hid ((Below.refl _ _).alloc (Nat.le_refl _) _)
        obtain ⟨A3, c3, w3, happ3, hk3, hg3⟩ := push_byte (wr.alloc (.cells #[.int .u8 a.toNat] 5)) w.heap.size cx Ax o a (HO.out.below H2.out) (by omega) (Nat.le_trans HB.out.size H2.out.size) wr.heap.size (Box.made _ _ _)
        have HF3 := Lib.hid (below_grew (HB.out.trans (H2.out.mono HB.out.size)) hg3 (fun k hk => ((HO.out.below H2.out).lt k hk).1) (Nat.le_trans HB.out.size H2.out.size))
        have HK3 := Lib.hid hk3
        clear hk3 hg3 H2
        rw [List.length_append] at happ3
        go_wp2_with (at_builtin; refine wpList_append_eq rfl _ _ _ rfl rfl rfl happ3 ?_)
        clear happ3
        go_roundw
        case rel =>
          refine ⟨k + 1, A3, _, c3, by go_num, rfl, by omega, ?_, ?_, HF3⟩
          · rw [HE.out]
            exact Lib.hid (by simp)
          · rw [HE.out]
            exact HK3
        case measure => simp [intOf]; omega
    · obtain rfl : k = s.length := by omega
      have hE : (39 :: (dbl 39 s ++ [39]) : List UInt8) = (39 :: dbl 39 (s.take s.length)) ++ [39] := by rw [List.take_length]; simp
      have HE := Lib.hid hE
      clear hE
      generalize hg : (39 :: dbl 39 (s.take s.length)) = o at *
      clear hg
      have H2 : Hid (Below wr.heap.size wr (wr.alloc (.cells #[.int .u8 39] 5))) := Lib.hid ((Below.refl _ _).alloc (Nat.le_refl _) _)
      obtain ⟨A3, c3, w3, happ3, hk3, hg3⟩ := push_byte (wr.alloc (.cells #[.int .u8 39] 5)) w.heap.size cx Ax o 39 (HO.out.below H2.out) (by omega) (Nat.le_trans HB.out.size H2.out.size) wr.heap.size (Box.made _ _ _)
      have HF3 := Lib.hid (below_grew (HB.out.trans (H2.out.mono HB.out.size)) hg3 (fun k hk => ((HO.out.below H2.out).lt k hk).1) (Nat.le_trans HB.out.size H2.out.size))
      have hcv := run_convert_own (P := Tryz.prog) (l := o ++ [39]) hk3 75 5 9 Tryz.underlying75 Tryz.underlying5 Tryz.underlying9
      rw [List.length_append] at happ3 hcv
      simp only [List.length_singleton] at hcv
      have hd : decide (s.length < T.size) = false := by simp; omega
      clear hk3 hg3 H2 hsz
      go_wp2_with (at_builtin; refine wpList_append_eq rfl _ _ _ rfl rfl rfl happ3 ?_)
      go_ret
      exact ⟨by rw [HE.out]; rfl, HF3.out⟩

end Go.Proofs.YtfeffdjnjckjaaaGreatDoor.Rg

/- A column's letters, a number's digits, and a cell as a text, as the program makes them. -/
namespace Go.Proofs.YtfeffdjnjckjaaaGreatDoor.Rg
open Go.RowKit

theorem str_append (a b : List UInt8) : (⟨a.toArray⟩ : ByteArray) ++ ⟨b.toArray⟩ = ⟨(a ++ b).toArray⟩ := by
  apply ByteArray.ext
  apply Array.ext'
  simp

set_option maxHeartbeats 1600000 in
set_option maxRecDepth 100000 in
theorem spec_column (n : Nat) (w : World) (h1 : 1 ≤ n) (h2 : n ≤ 16384) :
    Calls Tryz.prog 75 #[.int .i64 n] w fun e w' => e = .returned (.tuple #[.string ⟨(colName n).toArray⟩, .bool true]) ∧ Below w.heap.size w w' := by
  have hl := colName_len n h1 h2
  go_enter Tryz.func75, Tryz.ntmps75
  go_wp2
  go_loopw [0, 4] (fun i s wr => ∃ (v : Nat) (t : List UInt8), i = .int .i64 v ∧ s = .string ⟨t.toArray⟩ ∧ v ≤ n ∧ Hid (colName v ++ t = colName n) ∧ Below w.heap.size w wr) (fun i _ _ => match i with | .int _ x => x.toNat | _ => 0)
  case atStart => exact ⟨n, [], rfl, rfl, Nat.le_refl _, by show colName n ++ [] = colName n; simp, Below.refl _ _⟩
  case round =>
    obtain ⟨v, t, rfl, rfl, hv, HC, hb⟩ := hrel
    cases v with
    | zero =>
      have HT : Hid (t = colName n) := by
        have h := HC.out
        rw [colName_zero] at h
        exact h
      obtain rfl : t = colName n := HT.out
      go_wp2
      go_ret2
      exact ⟨rfl, hb⟩
    | succ m =>
      have HL : Hid (t.length ≤ 2) := by
        show t.length ≤ 2
        have h := congrArg List.length HC.out
        rw [colName_succ] at h
        simp only [List.length_append, List.length_singleton] at h
        omega
      have hcv := run_convert_bytes_arg (P := Tryz.prog) (wr.alloc (.cells #[.int .u8 (65 + (m : Int) % 26)] 5)) 75 5 Tryz.underlying75 Tryz.underlying5 wr.heap.size 0 1 1 [65 + (m : Int) % 26] rfl (by
        intro i hi
        obtain rfl : i = 0 := by omega
        simp [go_sem]) 9 Tryz.underlying9
      have hB : strOfNums [65 + (m : Int) % 26] = ⟨[UInt8.ofNat (65 + m % 26)].toArray⟩ := by
        unfold strOfNums
        simp only [List.map_cons, List.map_nil]
        congr 3
      rw [hB] at hcv
      have HS : Hid ((⟨[UInt8.ofNat (65 + m % 26)].toArray⟩ : ByteArray) ++ ⟨t.toArray⟩ = ⟨(UInt8.ofNat (65 + m % 26) :: t).toArray⟩) := str_append [UInt8.ofNat (65 + m % 26)] t
      have hz1 : (⟨[UInt8.ofNat (65 + m % 26)].toArray⟩ : ByteArray).size = 1 := rfl
      have hz2 : (⟨t.toArray⟩ : ByteArray).size ≤ 2 := by
        show t.toArray.size ≤ 2
        simpa using HL.out
      have HD : Hid ((m : Int) - (m : Int) % 26 = 26 * ((m / 26 : Nat) : Int)) := by
        show (m : Int) - (m : Int) % 26 = 26 * ((m / 26 : Nat) : Int)
        omega
      generalize (⟨[UInt8.ofNat (65 + m % 26)].toArray⟩ : ByteArray) = B at *
      have hTT : (⟨t.toArray⟩ : ByteArray) = ⟨t.toArray⟩ := rfl
      generalize hT : (⟨t.toArray⟩ : ByteArray) = T at HS hz2 ⊢
      clear hTT
      have ra : ∀ w, (Op.stringOp .add B T).run Tryz.prog w = .ok (.string (B ++ T)) w := fun w => run_string_add_sum _ _ _ (by omega)
      go_wp2
      have HQ : Hid (((m : Int) - (m : Int) % 26) / 26 = ((m / 26 : Nat) : Int)) := by
        show ((m : Int) - (m : Int) % 26) / 26 = ((m / 26 : Nat) : Int)
        omega
      go_roundw
      case rel =>
        refine ⟨m / 26, UInt8.ofNat (65 + m % 26) :: t, by rw [HQ.out], by rw [HS.out], by omega, ?_, hb.alloc hb.size _⟩
        show colName (m / 26) ++ (UInt8.ofNat (65 + m % 26) :: t) = colName n
        have h := HC.out
        rw [colName_succ] at h
        rw [← h]
        simp
      case measure =>
        rw [HQ.out]
        simp
        omega

/-- The digits' alphabet. -/
def alpha36 : ByteArray := ⟨#[48, 49, 50, 51, 52, 53, 54, 55, 56, 57, 65, 66, 67, 68, 69, 70, 71, 72, 73, 74, 75, 76, 77, 78, 79, 80, 81, 82, 83, 84, 85, 86, 87, 88, 89, 90]⟩

theorem alpha_piece (u : Nat) (h : u < 10) : alpha36.extract u (u + 1) = ⟨[UInt8.ofNat (48 + u)].toArray⟩ := by
  have : u = 0 ∨ u = 1 ∨ u = 2 ∨ u = 3 ∨ u = 4 ∨ u = 5 ∨ u = 6 ∨ u = 7 ∨ u = 8 ∨ u = 9 := by omega
  rcases this with rfl | rfl | rfl | rfl | rfl | rfl | rfl | rfl | rfl | rfl <;> rfl

set_option maxHeartbeats 1600000 in
set_option maxRecDepth 100000 in
theorem spec_digits : ∀ (n : Nat) (w : World), n ≤ 9999999 →
    Calls Tryz.prog 76 #[.int .i64 n, .int .i64 10] w fun e w' => e = .returned (.string ⟨(Lib.decDigits n).toArray⟩) ∧ Below w.heap.size w w' := by
  intro n
  induction n using Nat.strongRecOn with
  | _ n ih =>
    intro w hn
    by_cases h : n < 10
    · have HE : Hid (alpha36.extract (n % 10) (n % 10 + 1) = ⟨(Lib.decDigits n).toArray⟩) := by
        show alpha36.extract (n % 10) (n % 10 + 1) = ⟨(Lib.decDigits n).toArray⟩
        rw [alpha_piece (n % 10) (by omega), digits_small h, Nat.mod_eq_of_lt h]
      have h' : (n : Int) < 10 := by omega
      go_enter Tryz.func76, Tryz.ntmps76
      go_wp2_with fail
      go_quiet (fail)
      go_wp2
      go_ret
      exact ⟨by rw [← HE.out]; rfl, below_drewN w nq⟩
    · have HE : Hid ((⟨(Lib.decDigits (n / 10)).toArray⟩ : ByteArray) ++ alpha36.extract (n % 10) (n % 10 + 1) = ⟨(Lib.decDigits n).toArray⟩) := by
        show (⟨(Lib.decDigits (n / 10)).toArray⟩ : ByteArray) ++ alpha36.extract (n % 10) (n % 10 + 1) = ⟨(Lib.decDigits n).toArray⟩
        rw [alpha_piece (n % 10) (by omega), digits_more h]
        exact str_append _ _
      have hs1 : (alpha36.extract (n % 10) (n % 10 + 1)).size ≤ 1 := by rw [alpha_piece (n % 10) (by omega)]; exact Nat.le_refl _
      have hs2 : (⟨(Lib.decDigits (n / 10)).toArray⟩ : ByteArray).size ≤ 7 := by
        show (Lib.decDigits (n / 10)).toArray.size ≤ 7
        have := digits_short 6 (n / 10) (by omega)
        simpa using this
      have e : ((n / 10 : Nat) : Int) = (n : Int) / 10 := by omega
      have IH := fun w => ih (n / 10) (by omega) w (by omega)
      rw [e] at IH
      clear ih e
      generalize (⟨(Lib.decDigits (n / 10)).toArray⟩ : ByteArray) = D at *
      have ra : ∀ w, (Op.stringOp .add D (alpha36.extract (n % 10) (n % 10 + 1))).run Tryz.prog w = .ok (.string (D ++ alpha36.extract (n % 10) (n % 10 + 1))) w := fun w => run_string_add_sum _ _ _ (by omega)
      unfold alpha36 at ra
      have h' : ¬ (n : Int) < 10 := by omega
      go_enter Tryz.func76, Tryz.ntmps76
      go_wp2_with fail
      go_quiet (fail)
      go_wp2_with fail
      refine (IH _).mono ?_
      rintro e w1 ⟨rfl, hb⟩
      go_wp2
      go_ret
      exact ⟨by rw [← HE.out]; rfl, (below_drewN w nq).trans hb⟩


theorem bs_app (a b : List UInt8) : bs a ++ bs b = bs (a ++ b) := str_append a b

set_option maxHeartbeats 1600000 in
set_option maxRecDepth 100000 in
theorem corner_any (c r : Nat) (a b : Bool) (w : World) (h1 : 1 ≤ c) (h2 : c ≤ 16384) (h4 : r ≤ 1048576) :
    Calls Tryz.prog 66 #[.int .i64 c, .int .i64 r, .bool a, .bool b] w fun e w' => e = .returned (.string (bs (cornerT c r a b))) ∧ Below w.heap.size w w' := by
  have hSz : (bs (colName c)).size ≤ 3 := by
    rw [bs_size]
    exact (colName_len c h1 h2).2
  have hDz : (bs (Lib.decDigits r)).size ≤ 7 := by
    rw [bs_size]
    exact digits_short 6 r (by omega)
  have HN := fun w => spec_column c w h1 h2
  have HI := fun w => spec_digits r w (by omega)
  have HE : Hid (bs (cornerT c r a b) = (if a then ⟨#[36]⟩ ++ bs (colName c) else ⟨#[]⟩ ++ bs (colName c)) ++ (if b then ⟨#[36]⟩ ++ bs (Lib.decDigits r) else bs (Lib.decDigits r))) := by
    have e0 : (⟨#[36]⟩ : ByteArray) = bs [36] := rfl
    have e1 : (⟨#[]⟩ : ByteArray) = bs [] := rfl
    refine Lib.hid ?_
    rw [e0, e1]
    unfold cornerT
    cases a <;> cases b <;> simp only [dolT, if_true, if_false, Bool.false_eq_true, bs_app] <;> rfl
  have e2 : ∀ l : List UInt8, (⟨l.toArray⟩ : ByteArray) = bs l := fun l => rfl
  simp only [e2] at HN HI
  rw [HE.out]
  clear HE e2
  generalize bs (colName c) = S at *
  generalize bs (Lib.decDigits r) = D at *
  have s36 : (⟨#[36]⟩ : ByteArray).size = 1 := rfl
  have s0 : (⟨#[]⟩ : ByteArray).size = 0 := rfl
  have ra : ∀ w, (Op.stringOp .add ⟨#[36]⟩ S).run Tryz.prog w = .ok (.string (⟨#[36]⟩ ++ S)) w := fun w => run_string_add_sum _ _ _ (by omega)
  have rb : ∀ w, (Op.stringOp .add ⟨#[]⟩ S).run Tryz.prog w = .ok (.string (⟨#[]⟩ ++ S)) w := fun w => run_string_add_sum _ _ _ (by omega)
  have rc : ∀ w, (Op.stringOp .add (⟨#[36]⟩ ++ S) ⟨#[36]⟩).run Tryz.prog w = .ok (.string (⟨#[36]⟩ ++ S ++ ⟨#[36]⟩)) w := fun w => run_string_add_sum _ _ _ (by rw [ByteArray.size_append]; omega)
  have rd : ∀ w, (Op.stringOp .add (⟨#[]⟩ ++ S) ⟨#[36]⟩).run Tryz.prog w = .ok (.string (⟨#[]⟩ ++ S ++ ⟨#[36]⟩)) w := fun w => run_string_add_sum _ _ _ (by rw [ByteArray.size_append]; omega)
  have re : ∀ w, (Op.stringOp .add (⟨#[36]⟩ ++ S) D).run Tryz.prog w = .ok (.string (⟨#[36]⟩ ++ S ++ D)) w := fun w => run_string_add_sum _ _ _ (by rw [ByteArray.size_append]; omega)
  have rf : ∀ w, (Op.stringOp .add (⟨#[]⟩ ++ S) D).run Tryz.prog w = .ok (.string (⟨#[]⟩ ++ S ++ D)) w := fun w => run_string_add_sum _ _ _ (by rw [ByteArray.size_append]; omega)
  have rg : ∀ w, (Op.stringOp .add (⟨#[36]⟩ ++ S ++ ⟨#[36]⟩) D).run Tryz.prog w = .ok (.string (⟨#[36]⟩ ++ S ++ ⟨#[36]⟩ ++ D)) w := fun w => run_string_add_sum _ _ _ (by rw [ByteArray.size_append, ByteArray.size_append]; omega)
  have rh : ∀ w, (Op.stringOp .add (⟨#[]⟩ ++ S ++ ⟨#[36]⟩) D).run Tryz.prog w = .ok (.string (⟨#[]⟩ ++ S ++ ⟨#[36]⟩ ++ D)) w := fun w => run_string_add_sum _ _ _ (by rw [ByteArray.size_append, ByteArray.size_append]; omega)
  have ass : ∀ X Y Z : ByteArray, X ++ Y ++ Z = X ++ (Y ++ Z) := fun X Y Z => ByteArray.append_assoc
  have HA := Lib.hid ass
  clear s36 s0 hSz hDz ass
  cases a <;> cases b
  all_goals
    go_enter Tryz.func66, Tryz.ntmps66
    go_wp2_with fail
    refine (HN _).mono ?_
    rintro e w1 ⟨rfl, hb⟩
    go_wp2_with fail
    refine (HI _).mono ?_
    rintro e w2 ⟨rfl, hb2⟩
    go_wp2
    go_ret
    refine ⟨?_, hb.trans (hb2.mono hb.size)⟩
    first
      | rfl
      | exact congrArg (fun z => Ending.returned (.string z)) (HA.out _ _ _)

end Go.Proofs.YtfeffdjnjckjaaaGreatDoor.Rg
