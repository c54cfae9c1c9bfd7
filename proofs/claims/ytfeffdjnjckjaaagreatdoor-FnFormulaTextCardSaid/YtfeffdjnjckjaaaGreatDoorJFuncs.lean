/- Columns by their names. -/
import Derived.Test.YtfeffdjnjckjaaaGreatDoorJIndex
/- Splitting a string at every occurrence of one byte, as the package does it by search and append: the list of the pieces. -/
namespace Go.Proofs.YtfeffdjnjckjaaaGreatDoor.Rg.Rx
open Go.RowKit

/-- The pieces of l between the bytes c. -/
def pieces (c : UInt8) : List UInt8 → List (List UInt8)
  | [] => [[]]
  | x :: l => if x == c then [] :: pieces c l else match pieces c l with
    | [] => [[x]]
    | p :: ps => (x :: p) :: ps

theorem pieces_none (c : UInt8) : ∀ (l : List UInt8), l.findIdx? (· == c) = none → pieces c l = [l]
  | [], _ => rfl
  | x :: l, h => by
    rw [List.findIdx?_cons] at h
    by_cases hx : (x == c) = true
    · rw [if_pos hx] at h; cases h
    · rw [if_neg hx] at h
      have hl : l.findIdx? (· == c) = none := by
        cases hq : l.findIdx? (· == c) with
        | none => rfl
        | some i => rw [hq] at h; simp at h
      rw [pieces, if_neg hx, pieces_none c l hl]

theorem pieces_some (c : UInt8) : ∀ (l : List UInt8) (i : Nat), l.findIdx? (· == c) = some i → pieces c l = l.take i :: pieces c (l.drop (i + 1))
  | [], i, h => by simp at h
  | x :: l, i, h => by
    rw [List.findIdx?_cons] at h
    by_cases hx : (x == c) = true
    · rw [if_pos hx] at h
      injection h with h
      subst h
      rw [pieces, if_pos hx]
      rfl
    · rw [if_neg hx] at h
      cases hq : l.findIdx? (· == c) with
      | none => rw [hq] at h; simp at h
      | some j =>
        rw [hq] at h
        simp at h
        subst h
        rw [pieces, if_neg hx, pieces_some c l j hq]
        rfl

def strs (L : List (List UInt8)) : List Value := L.map fun l => .string ⟨l.toArray⟩

theorem strs_one (L : List (List UInt8)) : ∀ u ∈ strs L, u.oneCell' = true := by
  intro u hu
  obtain ⟨l, _, rfl⟩ := List.mem_map.1 hu
  rfl

/-- The slice is an owned list of the strings L. -/
structure OwnsS (w : World) (B : Nat) (A : Option Addr) (m c : Nat) (L : List (List UInt8)) : Prop where
  own : w.ownsRow B 9 1 (.slice A m c) m (strs L)
  len : m = L.length

def SplitPost (w : World) (L : List (List UInt8)) (e : Ending) (w' : World) : Prop := ∃ (A : Option Addr) (m c : Nat), e = .returned (.slice A m c) ∧ OwnsS w' w.heap.size A m c L ∧ Below w.heap.size w w'

theorem infoString : (Tryz.prog.info? 9).map (fun i => (i.zero, i.size, i.bytes)) = some (some (.string ⟨#[]⟩), 1, 16) := by kernel_rfl

theorem own_slice {w : World} {base size n : Nat} {e : TypeId} {v : Value} {xs : List Value} (h : w.ownsRow base e size v n xs) : ∃ A c, v = .slice A n c := by
  rcases h.2 with ⟨rfl, rfl⟩ | ⟨g, cap, cur, rfl, _⟩
  · exact ⟨_, _, rfl⟩
  · exact ⟨_, _, rfl⟩

theorem addAt (g j : Nat) : (⟨g, 0, none⟩ : Addr).add j = ⟨g, j, none⟩ := by
  unfold Addr.add
  split <;> simp_all

theorem newAt (w : World) (l : List Value) (t : TypeId) (g : Nat) (hg : g = w.heap.size) : ∀ j u, l[j]? = some u → (w.alloc (.cells l.toArray t)).cell? ((⟨g, 0, none⟩ : Addr).add j) = some u := by
  intro j u hu
  subst hg
  rw [addAt, cell_of_row _ w.heap.size j l.toArray t (0, 0) (heap_alloc_new w _)]
  simpa using hu

theorem one_string (u : Value) (s : ByteArray) (h : u ∈ [Value.string s]) : u.oneCell' = true := by
  simp at h
  subst h
  rfl

set_option maxHeartbeats 800000 in
set_option maxRecDepth 100000 in
theorem split_any (s : ByteArray) (c : UInt8) (w : World) (hs : s.size ≤ 1000000) :
    Calls Tryz.prog 35 #[.string s, .string ⟨#[c]⟩] w (SplitPost w (pieces c s.data.toList)) := by
  obtain ⟨i0, hi, hz0, hz1, hz2⟩ := info_parts infoString
  go_enter Tryz.func35, Tryz.ntmps35
  go_wp2
  go_loopw [0, 5] (fun r u wr => ∃ (q : ByteArray) (L : List (List UInt8)), r = .string q ∧ q.size ≤ s.size ∧ Hid (L ++ pieces c q.data.toList = pieces c s.data.toList) ∧ L.length + q.size ≤ s.size ∧ wr.ownsRow w.heap.size 9 1 u L.length (strs L) ∧ Below w.heap.size w wr)
    (fun r _ _ => match r with | .string q => q.size | _ => 0)
  case atStart => exact ⟨s, [], rfl, by omega, by simp [Hid], by simp, World.ownsRow_nil _ _ _ _, Below.refl _ _⟩
  case round =>
    obtain ⟨q, L, rfl, hq, HF, hlen, hown, hnx⟩ := hrel
    have hsz := hnx.size
    cases hf : q.data.toList.findIdx? (· == c) with
    | none =>
      have HP : Hid (L ++ [q.data.toList] = pieces c s.data.toList) := by
        show L ++ [q.data.toList] = _
        rw [← HF.out, pieces_none c _ hf]
      have HQ := Lib.hid hf; clear hf
      go_wp2_with fail
      refine (index_no q c _ (by omega) HQ.out).mono ?_
      rintro e w' ⟨rfl, rfl⟩
      go_wp2_with (at_builtin; refine wpList_append_own _ rfl _ _ 56 rfl w.heap.size 9 i0 _ 1 16 Tryz.underlying56 hi hz0 hz1 hz2 rfl (by decide) _ _ _ rfl (hown.alloc _) ⟨wr.heap.size, 0, none⟩ 1 1 [.string q] rfl rfl ?c1 ?c2 ?c3 ?c4 ?c5 ?_)
      case c1 => exact newAt _ [.string q] _ _ rfl
      case c2 => exact fun u hu => one_string u q hu
      case c3 => unfold maxLen; omega
      case c4 => omega
      case c5 => simp; omega
      intro v' w1 hown' hgrow _
      have hb := (hnx.alloc hsz _).grown hgrow (by simp; omega) (fun j hj => (hown.lt j hj).1)
      have HO := Lib.hid hown'
      clear hgrow hown'
      go_wp2
      go_ret
      obtain ⟨A', c', he⟩ := own_slice HO.out
      have h2 := HO.out
      rw [he] at h2
      refine ⟨A', L.length + 1, c', by rw [← he]; rfl, ⟨?_, by rw [← HP.out]; simp⟩, hb⟩
      rw [← HP.out]
      have e1 : strs (L ++ [q.data.toList]) = strs L ++ [.string q] := by simp [strs]
      rw [e1]
      exact h2
    | some i =>
      have hil := (List.findIdx?_eq_some_iff_getElem.1 hf).1
      have hqs : q.data.toList.length = q.size := by simp
      have hiq : i < q.size := by omega
      have HS : Hid ((L ++ [(q.extract 0 i).data.toList]) ++ pieces c (q.extract (i + 1) q.size).data.toList = pieces c s.data.toList) := by
        show (L ++ [(q.extract 0 i).data.toList]) ++ pieces c (q.extract (i + 1) q.size).data.toList = _
        rw [← HF.out, pieces_some c _ i hf, Lib.extract_data, Lib.extract_to_end]
        simp
      have hs2 : (q.extract (i + 1) q.size).size = q.size - (i + 1) := by rw [ByteArray.size_extract]; omega
      have HS2 := Lib.hid hs2
      have HQ := Lib.hid hf
      clear hil hqs hs2 hf
      go_wp2_with fail
      refine (index_yes q c _ (by omega) i HQ.out).mono ?_
      rintro e w' ⟨rfl, rfl⟩
      go_wp2_with (at_builtin; refine wpList_append_own _ rfl _ _ 56 rfl w.heap.size 9 i0 _ 1 16 Tryz.underlying56 hi hz0 hz1 hz2 rfl (by decide) _ _ _ rfl (hown.alloc _) ⟨wr.heap.size, 0, none⟩ 1 1 [.string (q.extract 0 i)] rfl rfl ?c1 ?c2 ?c3 ?c4 ?c5 ?_)
      case c1 => exact newAt _ [.string (q.extract 0 i)] _ _ rfl
      case c2 => exact fun u hu => one_string u _ hu
      case c3 => unfold maxLen; omega
      case c4 => omega
      case c5 => simp; omega
      intro v' w1 hown' hgrow _
      have hb := (hnx.alloc hsz _).grown hgrow (by simp; omega) (fun j hj => (hown.lt j hj).1)
      have HO : Hid (w1.ownsRow w.heap.size 9 1 v' (L ++ [(q.extract 0 i).data.toList]).length (strs (L ++ [(q.extract 0 i).data.toList]))) := by
        have e1 : strs (L ++ [(q.extract 0 i).data.toList]) = strs L ++ [.string (q.extract 0 i)] := by unfold strs; rw [List.map_append, List.map_cons, List.map_nil, Lib.mk_data]
        have e2 : (L ++ [(q.extract 0 i).data.toList]).length = L.length + 1 := by simp
        show w1.ownsRow w.heap.size 9 1 v' (L ++ [(q.extract 0 i).data.toList]).length (strs (L ++ [(q.extract 0 i).data.toList]))
        rw [e1, e2]
        exact hown'
      clear hgrow hown'
      go_wp2
      go_roundw
      case rel => exact ⟨q.extract (i + 1) q.size, L ++ [(q.extract 0 i).data.toList], rfl, by have := HS2.out; omega, HS, by have := HS2.out; rw [List.length_append]; simp only [List.length_cons, List.length_nil]; omega, HO.out, hb⟩
      case measure => show (q.extract (i + 1) q.size).size < q.size; have := HS2.out; omega
end Go.Proofs.YtfeffdjnjckjaaaGreatDoor.Rg.Rx

/- The number of a column by its name of one to three great letters, as the package computes it. -/
namespace Go.Proofs.YtfeffdjnjckjaaaGreatDoor.Rg.Rx
open Go.RowKit

def Up (a : UInt8) : Prop := 65 ≤ a.toNat ∧ a.toNat ≤ 90

/-- The number of a column with a name of great letters. -/
def colNum : List UInt8 → Int
  | [] => 0
  | x :: t => ((x.toNat : Int) - 65 + 1) * ((26 ^ t.length : Nat) : Int) + colNum t

theorem colNum_nonneg : ∀ (l : List UInt8), (∀ a ∈ l, Up a) → 0 ≤ colNum l
  | [], _ => by simp [colNum]
  | x :: t, h => by
    have h1 := colNum_nonneg t (fun a ha => h a (by simp [ha]))
    have h2 := (h x (by simp)).1
    have h3 : 0 ≤ ((x.toNat : Int) - 65 + 1) * ((26 ^ t.length : Nat) : Int) := Int.mul_nonneg (by omega) (Int.natCast_nonneg _)
    rw [show colNum (x :: t) = ((x.toNat : Int) - 65 + 1) * ((26 ^ t.length : Nat) : Int) + colNum t from rfl]
    omega

theorem colNum_drop_le : ∀ (l : List UInt8) (k : Nat), (∀ a ∈ l, Up a) → colNum (l.drop k) ≤ colNum l
  | l, 0, _ => by simp
  | [], k + 1, _ => by simp
  | x :: t, k + 1, h => by
    have h1 := colNum_drop_le t k (fun a ha => h a (by simp [ha]))
    have h2 := (h x (by simp)).1
    have h3 : 0 ≤ ((x.toNat : Int) - 65 + 1) * ((26 ^ t.length : Nat) : Int) := Int.mul_nonneg (by omega) (Int.natCast_nonneg _)
    show colNum (t.drop k) ≤ colNum (x :: t)
    rw [show colNum (x :: t) = ((x.toNat : Int) - 65 + 1) * ((26 ^ t.length : Nat) : Int) + colNum t from rfl]
    omega

theorem colNum_step (l : List UInt8) (j : Nat) (hj : j < l.length) : colNum (l.drop j) = ((l[j].toNat : Int) - 65 + 1) * ((26 ^ (l.length - (j + 1)) : Nat) : Int) + colNum (l.drop (j + 1)) := by
  rw [List.drop_eq_getElem_cons hj]
  show ((l[j].toNat : Int) - 65 + 1) * ((26 ^ (l.drop (j + 1)).length : Nat) : Int) + colNum (l.drop (j + 1)) = _
  rw [List.length_drop]

theorem data_get (s : ByteArray) (j : Nat) (h : j < s.size) (h' : j < s.data.toList.length) : s[j] = s.data.toList[j] := by
  cases s
  rfl

set_option maxHeartbeats 800000 in
theorem column_any (s : ByteArray) (w : World) (h1 : 1 ≤ s.size) (h3 : s.size ≤ 3) (hup : ∀ a ∈ s.data.toList, Up a) (hmax : colNum s.data.toList ≤ 16384) :
    Calls Tryz.prog 65 #[.string s] w fun e w' => e = .returned (.tuple #[.int .i64 (colNum s.data.toList), .nilIface]) ∧ w = w' := by
  have hsl : s.data.toList.length = s.size := by simp
  have HSL := Lib.hid hsl; clear hsl
  have hne : ((s.size : Int) == 0) = false := by rw [beq_eq_false_iff_ne]; omega
  have hup' := Lib.hid hup; clear hup
  have hmax' := Lib.hid hmax; clear hmax
  go_enter Tryz.func65, Tryz.ntmps65
  go_wp2
  go_loop [4, 5, 6] (fun c m i => ∃ (x C M : Int) (e : Nat), -1 ≤ x ∧ x < s.size ∧ i = .int .i64 x ∧ c = .int .i64 C ∧ m = .int .i64 M ∧ Hid (C = colNum (s.data.toList.drop (x + 1).toNat)) ∧ Hid (M = ((26 ^ e : Nat) : Int)) ∧ 0 ≤ M ∧ M ≤ 17576 ∧ (e : Int) + (x + 1) = s.size) (fun _ _ i => (intOf i + 1).toNat)
  case atStart =>
    refine ⟨(s.size : Int) - 1, 0, 1, 0, by omega, by omega, rfl, rfl, rfl, ?_, rfl, by omega, by omega, ?_⟩
    rotate_left
    · show ((0 : Nat) : Int) + ((s.size : Int) - 1 + 1) = (s.size : Int); omega
    show (0 : Int) = _
    rw [List.drop_eq_nil_of_le (by rw [HSL.out]; omega)]
    rfl
  case round =>
    obtain ⟨x, C, M, e, hx1, hx2, rfl, rfl, rfl, HC, HM, hM0, hM1, he⟩ := hrel
    by_cases hx : 0 ≤ x
    · obtain ⟨j, rfl⟩ := Int.eq_ofNat_of_zero_le hx
      have hjs : j < s.size := by omega
      have hjl : j < s.data.toList.length := by rw [HSL.out]; exact hjs
      have hr := hup'.out s.data.toList[j] (List.getElem_mem hjl)
      have hg := data_get s j hjs hjl
      have hr' : Up s[j] := by rw [hg]; exact hr
      obtain ⟨r1, r2⟩ := hr'
      clear hr
      have b1 : (65 : Int) ≤ (s[j].toNat : Int) := by omega
      have b2 : (s[j].toNat : Int) ≤ 90 := by omega
      have hC := HC.out
      have hj1 : ((j : Int) + 1).toNat = j + 1 := by omega
      rw [hj1] at hC
      have hst := colNum_step s.data.toList j hjl
      have hle := colNum_drop_le s.data.toList j hup'.out
      have h0 := colNum_nonneg (s.data.toList.drop (j + 1)) (fun a ha => hup'.out a (List.mem_of_mem_drop ha))
      have hexp : s.data.toList.length - (j + 1) = e := by rw [HSL.out]; omega
      rw [hexp, ← HM.out, ← hC, ← hg] at hst
      rw [← hC] at h0
      have hmx := hmax'.out
      have hnew : C + ((s[j].toNat : Int) - 65 + 1) * M ≤ 16384 := by omega
      have HNEW : Hid (C + ((s[j].toNat : Int) - 65 + 1) * M = colNum (s.data.toList.drop j)) := by
        show C + ((s[j].toNat : Int) - 65 + 1) * M = colNum (s.data.toList.drop j)
        omega
      have hpos : 0 ≤ ((s[j].toNat : Int) - 65 + 1) * M := Int.mul_nonneg (by omega) hM0
      have hjI : (j : Int) < (s.size : Int) := by omega
      clear hst hle hC hj1 hg hexp hmx hx
      have hM2 : M ≤ 676 := by
        have h1 := HM.out
        have h2 : e ≤ 2 := by omega
        have h3 : (26 : Nat) ^ e ≤ 26 ^ 2 := Nat.pow_le_pow_right (by omega) h2
        omega
      have HN2 : Hid (C + ((s[j].toNat : Int) - 65 + 1) * M = colNum (s.data.toList.drop (((j : Int) - 1) + 1).toNat)) := by
        have e1 : (((j : Int) - 1) + 1).toNat = j := by omega
        show C + ((s[j].toNat : Int) - 65 + 1) * M = colNum (s.data.toList.drop (((j : Int) - 1) + 1).toNat)
        rw [e1]
        exact HNEW.out
      have HM2 : Hid (M * 26 = ((26 ^ (e + 1) : Nat) : Int)) := by
        show M * 26 = ((26 ^ (e + 1) : Nat) : Int)
        rw [Nat.pow_succ, HM.out]
        omega
      go_wp2
      refine ⟨⟨(j : Int) - 1, C + ((s[j].toNat : Int) - 65 + 1) * M, M * 26, e + 1, by omega, by omega, rfl, rfl, rfl, HN2, HM2, by omega, by omega, by omega⟩, ?_⟩
      simp only [intOf]
      omega
    · obtain rfl : x = -1 := by omega
      have HF : Hid (C = colNum s.data.toList) := by
        have h0 := HC.out
        have h1 : ((-1 : Int) + 1).toNat = 0 := by decide
        rw [h1, List.drop_zero] at h0
        exact h0
      go_wp2
      go_ret2
      exact ⟨by rw [← HF.out]; rfl, rfl⟩
end Go.Proofs.YtfeffdjnjckjaaaGreatDoor.Rg.Rx

/- The letters of a cell's name: where the first and the last of them stand, as the package asks the library for it. -/
namespace Go.Proofs.YtfeffdjnjckjaaaGreatDoor.Rg.Rx
open Go.RowKit

def Dig (a : UInt8) : Prop := 48 ≤ a.toNat ∧ a.toNat ≤ 57

set_option maxHeartbeats 400000 in
theorem alpha_yes (r : Int) (w : World) (h1 : 65 ≤ r) (h2 : r ≤ 90) :
    Calls Tryz.prog 68 #[.int .i32 r] w fun e w' => e = .returned (.bool true) ∧ w = w' := by
  go_enter Tryz.func68, Tryz.ntmps68
  go_wp2
  go_ret
  exact ⟨rfl, rfl⟩

set_option maxHeartbeats 400000 in
theorem alpha_no (r : Int) (w : World) (h1 : 48 ≤ r) (h2 : r ≤ 57) :
    Calls Tryz.prog 68 #[.int .i32 r] w fun e w' => e = .returned (.bool false) ∧ w = w' := by
  have h36 : (r == 36) = false := by rw [beq_eq_false_iff_ne]; omega
  go_enter Tryz.func68, Tryz.ntmps68
  go_wp2
  go_ret
  exact ⟨rfl, rfl⟩

set_option maxHeartbeats 400000 in
theorem lastRune_any (q : ByteArray) (w : World) (k : Nat) (hk : q.size = k + 1) (hm : k ≤ 1000000) (hk' : k < q.size) (hb : q[k].toNat < 128) :
    Calls Tryz.prog 81 #[.string q] w fun e w' => e = .returned (.tuple #[.int .i32 q[k].toNat, .int .i64 1]) ∧ w = w' := by
  have hne : ((q.size : Int) == 0) = false := by rw [beq_eq_false_iff_ne]; omega
  have h1 : IntKind.i64.wrap ((q.size : Int) - 1) = (k : Int) := by rw [hk, IntKind.wrap_i64]; omega
  have hb' : ((q[k].toNat : Nat) : Int) < 128 := by omega
  have HK := Lib.hid hk; clear hk
  go_enter Tryz.func81, Tryz.ntmps81
  go_wp2
  go_ret2
  exact ⟨rfl, rfl⟩

set_option maxHeartbeats 400000 in
theorem indexFunc_any (s : ByteArray) (w : World) (h0 : 0 < s.size) (h1 : 65 ≤ s[0].toNat) (h2 : s[0].toNat ≤ 90) :
    Calls Tryz.prog 77 #[.string s, .func (.func 68) #[] #[], .bool true] w fun e w' => e = .returned (.int .i64 0) ∧ Below w.heap.size w w' := by
  have hnx := fun ty => run_next_ascii (P := Tryz.prog) w s 0 ty h0 (by omega)
  have hal := alpha_yes (s[0].toNat : Int)
  have HA := Lib.hid hal; clear hal
  go_enter Tryz.func77, Tryz.ntmps77
  go_wp2
  refine wp_loop_rounds 1 ?_
  rw [rounds_succ]
  go_wp2_with fail
  refine (HA.out _ (by omega) (by omega)).mono ?_
  rintro e w' ⟨rfl, rfl⟩
  go_wp2
  go_ret
  exact ⟨rfl, (Below.refl _ _).alloc (Nat.le_refl _) _⟩

set_option maxHeartbeats 400000 in
theorem IndexFunc_any (s : ByteArray) (w : World) (h0 : 0 < s.size) (h1 : 65 ≤ s[0].toNat) (h2 : s[0].toNat ≤ 90) :
    Calls Tryz.prog 69 #[.string s, .func (.func 68) #[] #[]] w fun e w' => e = .returned (.int .i64 0) ∧ Below w.heap.size w w' := by
  go_enter Tryz.func69, Tryz.ntmps69
  go_wp2_with fail
  refine (indexFunc_any s w h0 h1 h2).mono ?_
  rintro e w1 ⟨rfl, hb⟩
  go_wp2
  go_ret
  exact ⟨rfl, hb⟩

/-- In s the bytes before n are great letters, the others digits. -/
structure CellName (s : ByteArray) (n : Nat) : Prop where
  pos : 1 ≤ n
  lt : n < s.size
  small : s.size ≤ 100
  letters : ∀ k (h : k < s.size), k < n → Up s[k]
  digits : ∀ k (h : k < s.size), n ≤ k → Dig s[k]

theorem extract_get (s : ByteArray) (i k : Nat) (h1 : k < (s.extract 0 i).size) (h2 : k < s.size) : (s.extract 0 i)[k] = s[k] := by
  simp [ByteArray.getElem_extract]

set_option maxHeartbeats 800000 in
theorem lastFunc_any (s : ByteArray) (n : Nat) (w : World) (h : CellName s n) :
    Calls Tryz.prog 78 #[.string s, .func (.func 68) #[] #[], .bool true] w fun e w' => e = .returned (.int .i64 ((n : Int) - 1)) ∧ w = w' := by
  obtain ⟨hp, hl, hsm, hL, hD⟩ := h
  have HL : Hid (∀ k (h : k < s.size), k < n → Up s[k]) := hL
  have HD : Hid (∀ k (h : k < s.size), n ≤ k → Dig s[k]) := hD
  clear hL hD
  go_enter Tryz.func78, Tryz.ntmps78
  go_wp2
  go_loop [7] (fun i => ∃ k : Nat, n ≤ k ∧ k ≤ s.size ∧ i = .int .i64 k) (fun i => (intOf i).toNat)
  case atStart => exact ⟨s.size, by omega, by omega, rfl⟩
  case round =>
    obtain ⟨k, hk1, hk2, rfl⟩ := hrel
    obtain ⟨j, rfl⟩ : ∃ j, k = j + 1 := ⟨k - 1, by omega⟩
    have hjs : j < s.size := by omega
    have hpos : (0 : Int) < ((j : Int) + 1) := by omega
    have hle : ((j : Int) + 1) ≤ (s.size : Int) := by omega
    have hes : (s.extract 0 (j + 1)).size = j + 1 := by rw [ByteArray.size_extract]; omega
    have hj' : j < (s.extract 0 (j + 1)).size := by omega
    have hge := extract_get s (j + 1) j hj' hjs
    by_cases hn : j < n
    · have hu := HL.out j hjs hn
      obtain ⟨u1, u2⟩ := hu
      have hc := lastRune_any (s.extract 0 (j + 1)) w j hes (by omega) hj' (by rw [hge]; omega)
      rw [hge] at hc
      have HC := Lib.hid hc
      have HA := Lib.hid (alpha_yes (s[j].toNat : Int) w (by omega) (by omega))
      clear hc hge hes
      have hjn : (j : Int) = (n : Int) - 1 := by omega
      have HJ := Lib.hid hjn; clear hjn
      go_wp2_with fail
      refine HC.out.mono ?_
      rintro e w' ⟨rfl, rfl⟩
      go_wp2_with fail
      refine HA.out.mono ?_
      rintro e w' ⟨rfl, rfl⟩
      go_wp2
      go_ret
      exact ⟨by rw [← HJ.out]; rfl, rfl⟩
    · have hu := HD.out j hjs (by omega)
      obtain ⟨u1, u2⟩ := hu
      have hc := lastRune_any (s.extract 0 (j + 1)) w j hes (by omega) hj' (by rw [hge]; omega)
      rw [hge] at hc
      have HC := Lib.hid hc
      have HA := Lib.hid (alpha_no (s[j].toNat : Int) w (by omega) (by omega))
      clear hc hge hes
      go_wp2_with fail
      refine HC.out.mono ?_
      rintro e w' ⟨rfl, rfl⟩
      go_wp2_with fail
      refine HA.out.mono ?_
      rintro e w' ⟨rfl, rfl⟩
      go_wp2
      go_round
      case rel => exact ⟨j, by omega, by omega, rfl⟩
      case measure => simp [intOf]

set_option maxHeartbeats 400000 in
theorem LastFunc_any (s : ByteArray) (n : Nat) (w : World) (h : CellName s n) :
    Calls Tryz.prog 70 #[.string s, .func (.func 68) #[] #[]] w fun e w' => e = .returned (.int .i64 ((n : Int) - 1)) ∧ w = w' := by
  go_enter Tryz.func70, Tryz.ntmps70
  go_wp2_with fail
  refine (lastFunc_any s n w h).mono ?_
  rintro e w' ⟨rfl, rfl⟩
  go_wp2
  go_ret
  exact ⟨rfl, rfl⟩
end Go.Proofs.YtfeffdjnjckjaaaGreatDoor.Rg.Rx
