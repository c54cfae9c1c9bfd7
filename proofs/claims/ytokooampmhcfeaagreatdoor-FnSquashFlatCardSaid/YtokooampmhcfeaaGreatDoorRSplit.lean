/- Splitting a string at every occurrence of one byte, as the package does it by search and append: the list of the pieces. -/
import Derived.Test.YtokooampmhcfeaaGreatDoorRReplace
namespace Go.Proofs.YtokooampmhcfeaaGreatDoor.Rg
open Go.RowKit

/-- The pieces of l between the bytes c. -/
def pieces (c : UInt8) : List UInt8 → List (List UInt8)
  | [] => [[]]
  | x :: l => if x == c then [] :: pieces c l else match pieces c l with
    | [] => [[x]]
    | p :: ps => (x :: p) :: ps

theorem pieces_none (c : UInt8) : ∀ (l : List UInt8), l.findIdx? (· == c) = none → pieces c l = [l]
  | [], _ => rfl
  | x :: l, h => by
    rw [List.findIdx?_cons] at h
    by_cases hx : (x == c) = true
    · rw [if_pos hx] at h; cases h
    · rw [if_neg hx] at h
      have hl : l.findIdx? (· == c) = none := by
        cases hq : l.findIdx? (· == c) with
        | none => rfl
        | some i => rw [hq] at h; simp at h
      rw [pieces, if_neg hx, pieces_none c l hl]

theorem pieces_some (c : UInt8) : ∀ (l : List UInt8) (i : Nat), l.findIdx? (· == c) = some i → pieces c l = l.take i :: pieces c (l.drop (i + 1))
  | [], i, h => by simp at h
  | x :: l, i, h => by
    rw [List.findIdx?_cons] at h
    by_cases hx : (x == c) = true
    · rw [if_pos hx] at h
      injection h with h
      subst h
      rw [pieces, if_pos hx]
      rfl
    · rw [if_neg hx] at h
      cases hq : l.findIdx? (· == c) with
      | none => rw [hq] at h; simp at h
      | some j =>
        rw [hq] at h
        simp at h
        subst h
        rw [pieces, if_neg hx, pieces_some c l j hq]
        rfl

def strs (L : List (List UInt8)) : List Value := L.map fun l => .string ⟨l.toArray⟩

theorem strs_one (L : List (List UInt8)) : ∀ u ∈ strs L, u.oneCell' = true := by
  intro u hu
  obtain ⟨l, _, rfl⟩ := List.mem_map.1 hu
  rfl

/-- The slice is an owned list of the strings L. -/
structure OwnsS (w : World) (B : Nat) (A : Option Addr) (m c : Nat) (L : List (List UInt8)) : Prop where
  own : w.ownsRow B 9 1 (.slice A m c) m (strs L)
  len : m = L.length

def SplitPost (w : World) (L : List (List UInt8)) (e : Ending) (w' : World) : Prop := ∃ (A : Option Addr) (m c : Nat), e = .returned (.slice A m c) ∧ OwnsS w' w.heap.size A m c L ∧ Below w.heap.size w w'

theorem infoString : (Tryz.prog.info? 9).map (fun i => (i.zero, i.size, i.bytes)) = some (some (.string ⟨#[]⟩), 1, 16) := by kernel_rfl

theorem own_slice {w : World} {base size n : Nat} {e : TypeId} {v : Value} {xs : List Value} (h : w.ownsRow base e size v n xs) : ∃ A c, v = .slice A n c := by
  rcases h.2 with ⟨rfl, rfl⟩ | ⟨g, cap, cur, rfl, _⟩
  · exact ⟨_, _, rfl⟩
  · exact ⟨_, _, rfl⟩

theorem addAt (g j : Nat) : (⟨g, 0, none⟩ : Addr).add j = ⟨g, j, none⟩ := by
  unfold Addr.add
  split <;> simp_all

theorem newAt (w : World) (l : List Value) (t : TypeId) (g : Nat) (hg : g = w.heap.size) : ∀ j u, l[j]? = some u → (w.alloc (.cells l.toArray t)).cell? ((⟨g, 0, none⟩ : Addr).add j) = some u := by
  intro j u hu
  subst hg
  rw [addAt, cell_of_row _ w.heap.size j l.toArray t (0, 0) (heap_alloc_new w _)]
  simpa using hu

theorem one_string (u : Value) (s : ByteArray) (h : u ∈ [Value.string s]) : u.oneCell' = true := by
  simp at h
  subst h
  rfl

set_option maxHeartbeats 800000 in
set_option maxRecDepth 100000 in
theorem split_any (s : ByteArray) (c : UInt8) (w : World) (hs : s.size ≤ 1000000) :
    Calls Tryz.prog 33 #[.string s, .string ⟨#[c]⟩] w (SplitPost w (pieces c s.data.toList)) := by
  obtain ⟨i0, hi, hz0, hz1, hz2⟩ := info_parts infoString
  go_enter Tryz.func33, Tryz.ntmps33
  go_wp2
  go_loopw [0, 5] (fun r u wr => ∃ (q : ByteArray) (L : List (List UInt8)), r = .string q ∧ q.size ≤ s.size ∧ Hid (L ++ pieces c q.data.toList = pieces c s.data.toList) ∧ L.length + q.size ≤ s.size ∧ wr.ownsRow w.heap.size 9 1 u L.length (strs L) ∧ Below w.heap.size w wr)
    (fun r _ _ => match r with | .string q => q.size | _ => 0)
  case atStart => exact ⟨s, [], rfl, by omega, by simp [Hid], by simp, World.ownsRow_nil _ _ _ _, Below.refl _ _⟩
  case round =>
    obtain ⟨q, L, rfl, hq, HF, hlen, hown, hnx⟩ := hrel
    have hsz := hnx.size
    cases hf : q.data.toList.findIdx? (· == c) with
    | none =>
      have HP : Hid (L ++ [q.data.toList] = pieces c s.data.toList) := by
        show L ++ [q.data.toList] = _
        rw [← HF.out, pieces_none c _ hf]
      have HQ := Lib.hid hf; clear hf
      go_wp2_with fail
      refine (index_no q c _ (by omega) HQ.out).mono ?_
      rintro e w' ⟨rfl, rfl⟩
      go_wp2_with (at_builtin; refine wpList_append_own _ rfl _ _ 35 rfl w.heap.size 9 i0 _ 1 16 Tryz.underlying35 hi hz0 hz1 hz2 rfl (by decide) _ _ _ rfl (hown.alloc _) ⟨wr.heap.size, 0, none⟩ 1 1 [.string q] rfl rfl ?c1 ?c2 ?c3 ?c4 ?c5 ?_)
      case c1 => exact newAt _ [.string q] _ _ rfl
      case c2 => exact fun u hu => one_string u q hu
      case c3 => unfold maxLen; omega
      case c4 => omega
      case c5 => simp; omega
      intro v' w1 hown' hgrow _
      have hb := (hnx.alloc hsz _).grown hgrow (by simp; omega) (fun j hj => (hown.lt j hj).1)
      have HO := Lib.hid hown'
      clear hgrow hown'
      go_wp2
      go_ret
      obtain ⟨A', c', he⟩ := own_slice HO.out
      have h2 := HO.out
      rw [he] at h2
      refine ⟨A', L.length + 1, c', by rw [← he]; rfl, ⟨?_, by rw [← HP.out]; simp⟩, hb⟩
      rw [← HP.out]
      have e1 : strs (L ++ [q.data.toList]) = strs L ++ [.string q] := by simp [strs]
      rw [e1]
      exact h2
    | some i =>
      have hil := (List.findIdx?_eq_some_iff_getElem.1 hf).1
      have hqs : q.data.toList.length = q.size := by simp
      have hiq : i < q.size := by omega
      have HS : Hid ((L ++ [(q.extract 0 i).data.toList]) ++ pieces c (q.extract (i + 1) q.size).data.toList = pieces c s.data.toList) := by
        show (L ++ [(q.extract 0 i).data.toList]) ++ pieces c (q.extract (i + 1) q.size).data.toList = _
        rw [← HF.out, pieces_some c _ i hf, Lib.extract_data, Lib.extract_to_end]
        simp
      have hs2 : (q.extract (i + 1) q.size).size = q.size - (i + 1) := by rw [ByteArray.size_extract]; omega
      have HS2 := Lib.hid hs2
      have HQ := Lib.hid hf
      clear hil hqs hs2 hf
      go_wp2_with fail
      refine (index_yes q c _ (by omega) i HQ.out).mono ?_
      rintro e w' ⟨rfl, rfl⟩
      go_wp2_with (at_builtin; refine wpList_append_own _ rfl _ _ 35 rfl w.heap.size 9 i0 _ 1 16 Tryz.underlying35 hi hz0 hz1 hz2 rfl (by decide) _ _ _ rfl (hown.alloc _) ⟨wr.heap.size, 0, none⟩ 1 1 [.string (q.extract 0 i)] rfl rfl ?c1 ?c2 ?c3 ?c4 ?c5 ?_)
      case c1 => exact newAt _ [.string (q.extract 0 i)] _ _ rfl
      case c2 => exact fun u hu => one_string u _ hu
      case c3 => unfold maxLen; omega
      case c4 => omega
      case c5 => simp; omega
      intro v' w1 hown' hgrow _
      have hb := (hnx.alloc hsz _).grown hgrow (by simp; omega) (fun j hj => (hown.lt j hj).1)
      have HO : Hid (w1.ownsRow w.heap.size 9 1 v' (L ++ [(q.extract 0 i).data.toList]).length (strs (L ++ [(q.extract 0 i).data.toList]))) := by
        have e1 : strs (L ++ [(q.extract 0 i).data.toList]) = strs L ++ [.string (q.extract 0 i)] := by unfold strs; rw [List.map_append, List.map_cons, List.map_nil, Lib.mk_data]
        have e2 : (L ++ [(q.extract 0 i).data.toList]).length = L.length + 1 := by simp
        show w1.ownsRow w.heap.size 9 1 v' (L ++ [(q.extract 0 i).data.toList]).length (strs (L ++ [(q.extract 0 i).data.toList]))
        rw [e1, e2]
        exact hown'
      clear hgrow hown'
      go_wp2
      go_roundw
      case rel => exact ⟨q.extract (i + 1) q.size, L ++ [(q.extract 0 i).data.toList], rfl, by have := HS2.out; omega, HS, by have := HS2.out; rw [List.length_append]; simp only [List.length_cons, List.length_nil]; omega, HO.out, hb⟩
      case measure => show (q.extract (i + 1) q.size).size < q.size; have := HS2.out; omega
end Go.Proofs.YtokooampmhcfeaaGreatDoor.Rg
