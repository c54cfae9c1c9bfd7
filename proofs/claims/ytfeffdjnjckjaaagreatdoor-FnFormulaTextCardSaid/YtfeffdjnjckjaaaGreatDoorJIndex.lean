/- The parts of texts that the package takes. -/
import Derived.Test.YtfeffdjnjckjaaaGreatDoorRows
import Derived.WalkKit
import Derived.WalkSpells
import Derived.WalkLawsBesides
import Derived.Lib.Hide
import Derived.Lib.Strings
import Derived.Lib.IndexBytes
import Derived.Lib.AppendStr
import Derived.Laws.BytesArg
/- The first place of a byte in a string, as the package searches it: its index, or -1. -/
namespace Go.Proofs.YtfeffdjnjckjaaaGreatDoor.Rg
open Go.RowKit

/-- The index of the first c in l, or -1. -/
def ix (c : UInt8) (l : List UInt8) : Int := match l.findIdx? (· == c) with | some i => (i : Int) | none => -1

theorem ix_hit {c : UInt8} {l : List UInt8} {k : Nat} (hk : l[k]? = some c) (hno : ∀ j, j < k → l[j]? ≠ some c) : ix c l = k := by
  obtain ⟨hkl, hc⟩ := List.getElem?_eq_some_iff.1 hk
  have e : l.findIdx? (· == c) = some k := by
    rw [List.findIdx?_eq_some_iff_getElem]
    refine ⟨hkl, by simp [hc], fun j hj => ?_⟩
    have := hno j hj
    rw [List.getElem?_eq_getElem (by omega)] at this
    simpa using this
  unfold ix
  rw [e]

theorem ix_miss {c : UInt8} {l : List UInt8} (hno : ∀ j, j < l.length → l[j]? ≠ some c) : ix c l = -1 := by
  have e : l.findIdx? (· == c) = none := by
    rw [List.findIdx?_eq_none_iff]
    intro x hx
    obtain ⟨j, hj⟩ := List.mem_iff_getElem?.1 hx
    have := hno j (List.getElem?_eq_some_iff.1 hj).1
    rw [hj] at this
    simpa using this
  unfold ix
  rw [e]

theorem cut_one (s : ByteArray) (k : Nat) (h : k < s.size) : (s.extract k (k + 1)).toList = (s.data.toList[k]?).toList := by
  rw [ByteArray.toList_eq, Lib.extract_data]
  have hl : k < s.data.toList.length := by simpa using h
  rw [List.drop_eq_getElem_cons hl, List.getElem?_eq_getElem hl]
  have e : k + 1 - k = 1 := by omega
  rw [e]
  simp

set_option maxHeartbeats 400000 in
theorem index_any (s : ByteArray) (c : UInt8) (w : World) (hs : s.size ≤ 1000000) :
    Calls Tryz.prog 42 #[.string s, .string ⟨#[c]⟩] w fun e w' => e = .returned (.int .i64 (ix c s.data.toList)) ∧ w = w' := by
  go_enter Tryz.func42, Tryz.ntmps42
  go_wp2
  go_loop [5] (fun i => ∃ k : Nat, k ≤ s.size ∧ i = .int .i64 k ∧ Hid (∀ j, j < k → s.data.toList[j]? ≠ some c)) (fun i => s.size - (intOf i).toNat)
  case atStart => exact ⟨0, Nat.zero_le _, rfl, fun j hj => absurd hj (by omega)⟩
  case round =>
    obtain ⟨k, hk, rfl, hno⟩ := hrel
    by_cases hlt : k < s.size
    · have hb := cut_one s k hlt
      by_cases hc : s.data.toList[k]? = some c
      · have HF := Lib.hid (ix_hit hc hno.out)
        have ht : ((s.extract k (k + 1)).toList == [c]) = true := by rw [hb, hc]; simp
        clear hc hb
        go_wp2
        go_ret
        exact ⟨by rw [HF.out]; rfl, rfl⟩
      · have HF : Hid (∀ j, j < k + 1 → s.data.toList[j]? ≠ some c) := fun j hj => by
          by_cases e : j = k
          · subst e; exact hc
          · exact hno.out j (by omega)
        have ht : ((s.extract k (k + 1)).toList == [c]) = false := by
          rw [hb, List.getElem?_eq_getElem (by simpa using hlt)]
          rw [List.getElem?_eq_getElem (by simpa using hlt)] at hc
          simpa using hc
        clear hc hb
        go_wp2
        go_round
        case rel => exact ⟨k + 1, by omega, by go_num, HF⟩
        case measure => simp [intOf]; omega
    · have hk' : k = s.size := by omega
      have HF := Lib.hid (ix_miss (c := c) (l := s.data.toList) (fun j hj => hno.out j (by
        have hsz : s.data.toList.length = s.size := by simp
        omega)))
      clear hk'
      go_wp2
      go_ret
      exact ⟨by rw [HF.out]; rfl, rfl⟩
end Go.Proofs.YtfeffdjnjckjaaaGreatDoor.Rg

/- Taking every occurrence of one byte out of a string, as the package does it by search and append: the string of the other bytes. -/
namespace Go.Proofs.YtfeffdjnjckjaaaGreatDoor.Rg
open Go.RowKit

theorem index_yes (s : ByteArray) (c : UInt8) (w : World) (hs : s.size ≤ 1000000) (i : Nat) (h : s.data.toList.findIdx? (· == c) = some i) :
    Calls Tryz.prog 42 #[.string s, .string ⟨#[c]⟩] w fun e w' => e = .returned (.int .i64 i) ∧ w = w' :=
  (index_any s c w hs).mono fun e w' ⟨he, hw⟩ => ⟨by rw [he]; unfold ix; rw [h], hw⟩
theorem index_no (s : ByteArray) (c : UInt8) (w : World) (hs : s.size ≤ 1000000) (h : s.data.toList.findIdx? (· == c) = none) :
    Calls Tryz.prog 42 #[.string s, .string ⟨#[c]⟩] w fun e w' => e = .returned (.int .i64 (-1)) ∧ w = w' :=
  (index_any s c w hs).mono fun e w' ⟨he, hw⟩ => ⟨by rw [he]; unfold ix; rw [h], hw⟩

def enc (b : UInt8) : Value := .int .u8 b.toNat

theorem strCells_enc (s : ByteArray) : Lib.strCells s = s.data.toList.map enc := rfl

/-- The string of an owned row of bytes. -/
theorem run_convert_own {P : Program} {w : World} {base n : Nat} {t : TypeId} {v : Value} {l : List UInt8} (h : w.ownsRow base t 1 v n (l.map enc)) (src el dst : TypeId) (hs : P.underlying src = some (.slice el)) (he : P.underlying el = some (.int .u8)) (hd : P.underlying dst = some .string) :
    (convert src dst v).run P w = .ok (.string ⟨l.toArray⟩) w := by
  have hlen : l.length = n := by have := h.1; simpa using this
  rcases h.2 with ⟨rfl, rfl⟩ | ⟨g, cap, cur, rfl, _, hg, _⟩
  · have hl : l = [] := List.eq_nil_of_length_eq_zero hlen
    subst hl
    exact run_convert_bytes_nil w src el hs he 0 0 dst hd
  · have hc : ∀ i, i < n → w.cell? ⟨g, 0 + i, none⟩ = some (.int .u8 ((l.map fun b => (b.toNat : Int)).getD i 0)) := by
      intro i hi
      have hil : i < l.length := by omega
      have := h.cells (g := g) rfl i (enc l[i]) (by simp [hil])
      have e1 : (⟨g, 0, none⟩ : Addr).add i = ⟨g, 0 + i, none⟩ := by unfold Addr.add; split <;> simp_all
      rw [e1] at this
      rw [this]
      simp [enc, hil]
    rw [run_convert_bytes_arg w src el hs he g 0 n cap (l.map fun b => (b.toNat : Int)) (by simpa using hlen) hc dst hd]
    have e2 : strOfNums (l.map fun b => (b.toNat : Int)) = ⟨l.toArray⟩ := by
      unfold strOfNums
      congr 2
      rw [List.map_map]
      have : ((fun n : Int => UInt8.ofNat n.toNat) ∘ fun b : UInt8 => (b.toNat : Int)) = id := by
        funext b
        simp
      rw [this, List.map_id]
    rw [e2]

theorem find_split {c : UInt8} {l : List UInt8} {i : Nat} (h : l.findIdx? (· == c) = some i) : i < l.length ∧ l.filter (· != c) = l.take i ++ (l.drop (i + 1)).filter (· != c) := by
  obtain ⟨hi, hc, hno⟩ := List.findIdx?_eq_some_iff_getElem.1 h
  refine ⟨hi, ?_⟩
  have e : l = l.take i ++ (l[i] :: l.drop (i + 1)) := by
    rw [← List.drop_eq_getElem_cons hi, List.take_append_drop]
  have h1 : (l.take i).filter (· != c) = l.take i := by
    rw [List.filter_eq_self]
    intro x hx
    obtain ⟨j, hj, hx⟩ := List.mem_take_iff_getElem.1 hx
    have := hno j (by omega)
    rw [← hx]
    simpa using this
  have h2 : l[i] = c := by simpa using hc
  calc l.filter (· != c) = (l.take i ++ (l[i] :: l.drop (i + 1))).filter (· != c) := by rw [← e]
    _ = l.take i ++ (l.drop (i + 1)).filter (· != c) := by
      rw [List.filter_append, h1, List.filter_cons, h2]
      simp

theorem find_none {c : UInt8} {l : List UInt8} (h : l.findIdx? (· == c) = none) : l.filter (· != c) = l := by
  rw [List.filter_eq_self]
  intro x hx
  have := List.findIdx?_eq_none_iff.1 h x hx
  simpa using this

theorem infoByte : (Tryz.prog.info? 5).map (fun i => (i.zero, i.size, i.bytes)) = some (some (.int .u8 0), 1, 1) := by kernel_rfl

set_option maxHeartbeats 800000 in
set_option maxRecDepth 100000 in
theorem replace_any (s : ByteArray) (c : UInt8) (w : World) (hs : s.size ≤ 1000000) :
    Calls Tryz.prog 33 #[.string s, .string ⟨#[c]⟩, .string ⟨#[]⟩] w fun e w' => e = .returned (.string ⟨(s.data.toList.filter (· != c)).toArray⟩) ∧ Below w.heap.size w w' := by
  obtain ⟨i0, hi, hz0, hz1, hz2⟩ := info_parts infoByte
  go_enter Tryz.func33, Tryz.ntmps33
  go_wp2
  go_loopw [0, 7] (fun r u wr => ∃ (q : ByteArray) (o : List UInt8), r = .string q ∧ q.size ≤ s.size ∧ Hid (o ++ q.data.toList.filter (· != c) = s.data.toList.filter (· != c)) ∧ o.length + q.size ≤ s.size ∧ wr.ownsRow w.heap.size 5 1 u o.length (o.map enc) ∧ Below w.heap.size w wr)
    (fun r _ _ => match r with | .string q => q.size | _ => 0)
  case atStart => exact ⟨s, [], rfl, by omega, by simp [Hid], by simp, World.ownsRow_nil _ _ _ _, Below.refl _ _⟩
  case round =>
    obtain ⟨q, o, rfl, hq, HF, hlen, hown, hnx⟩ := hrel
    have hsz := hnx.size
    cases hf : q.data.toList.findIdx? (· == c) with
    | none =>
      have HQ := Lib.hid hf; clear hf
      go_wp2_with fail
      refine (index_no q c _ (by omega) HQ.out).mono ?_
      rintro e w' ⟨rfl, rfl⟩
      go_wp2_with (at_builtin; refine Lib.wpList_append_own_string _ rfl _ _ 75 9 rfl w.heap.size 5 i0 Tryz.underlying75 Tryz.underlying9 hi hz0 hz1 hz2 _ _ _ rfl hown q rfl ?c1 ?c2 ?c3 ?_)
      case c1 => unfold maxLen; omega
      case c2 => omega
      case c3 => omega
      intro v' w1 hown' hgrow _
      have hb := hnx.grown hgrow hsz (fun j hj => (hown.lt j hj).1)
      have hcv := run_convert_own (P := Tryz.prog) (l := o ++ q.data.toList) (by rw [List.map_append, ← strCells_enc]; exact hown') 75 5 9 Tryz.underlying75 Tryz.underlying5 Tryz.underlying9
      clear hown' hgrow
      have HE : Hid ((o ++ q.data.toList) = s.data.toList.filter (· != c)) := by
        show o ++ q.data.toList = _
        rw [← HF.out, find_none HQ.out]
      go_wp2
      go_ret
      exact ⟨by rw [← HE.out]; rfl, hb⟩
    | some i =>
      obtain ⟨hil, hsp⟩ := find_split hf
      have HQ := Lib.hid hf; clear hf
      have hqs : q.data.toList.length = q.size := by simp
      have hiq : i < q.size := by omega
      have HS : Hid ((o ++ (q.extract 0 i).data.toList) ++ (q.extract (i + 1) q.size).data.toList.filter (· != c) = s.data.toList.filter (· != c)) := by
        show (o ++ (q.extract 0 i).data.toList) ++ (q.extract (i + 1) q.size).data.toList.filter (· != c) = _
        rw [← HF.out, hsp, Lib.extract_data, Lib.extract_to_end]
        simp
      have hs1 : (q.extract 0 i).size = i := by rw [ByteArray.size_extract]; omega
      have hs2 : (q.extract (i + 1) q.size).size = q.size - (i + 1) := by rw [ByteArray.size_extract]; omega
      have HS1 := Lib.hid hs1
      have HS2 := Lib.hid hs2
      clear hil hsp hqs hs1 hs2
      go_wp2_with fail
      refine (index_yes q c _ (by omega) i HQ.out).mono ?_
      rintro e w' ⟨rfl, rfl⟩
      go_wp2_with (at_builtin; refine Lib.wpList_append_own_string _ rfl _ _ 75 9 rfl w.heap.size 5 i0 Tryz.underlying75 Tryz.underlying9 hi hz0 hz1 hz2 _ _ _ rfl hown (q.extract 0 i) rfl ?c1 ?c2 ?c3 ?_)
      case c1 => have := HS1.out; unfold maxLen; omega
      case c2 => have := HS1.out; omega
      case c3 => omega
      intro v1 w1 hown1 hgrow1 _
      have hb1 := hnx.grown hgrow1 hsz (fun j hj => (hown.lt j hj).1)
      clear hgrow1
      go_wp2_with (at_builtin; refine Lib.wpList_append_own_string _ rfl _ _ 75 9 rfl w.heap.size 5 i0 Tryz.underlying75 Tryz.underlying9 hi hz0 hz1 hz2 _ _ _ rfl hown1 ⟨#[]⟩ rfl ?c1 ?c2 ?c3 ?_)
      case c1 => have := HS1.out; have e0 : (⟨#[]⟩ : ByteArray).size = 0 := rfl; unfold maxLen; omega
      case c2 => have := HS1.out; have e0 : (⟨#[]⟩ : ByteArray).size = 0 := rfl; omega
      case c3 => have := hb1.size; omega
      intro v2 w2 hown2 hgrow2 _
      have hb2 := hb1.grown hgrow2 hb1.size (fun j hj => (hown1.lt j hj).1)
      have HO := Lib.hid hown2
      clear hgrow2 hown1 hown2
      have HO2 : Hid (w2.ownsRow w.heap.size 5 1 v2 (o ++ (q.extract 0 i).data.toList).length ((o ++ (q.extract 0 i).data.toList).map enc)) := by
        have h1 := HO.out
        have e1 : (q.extract 0 i).data.toList.length = (q.extract 0 i).size := by simp
        have e4 := HS1.out
        have e2 : (o ++ (q.extract 0 i).data.toList).length = o.length + min i q.size := by rw [List.length_append, e1, e4]; omega
        have e3 : (o ++ (q.extract 0 i).data.toList).map enc = o.map enc ++ (Lib.strCells (q.extract 0 i) ++ Lib.strCells ⟨#[]⟩) := by
          rw [List.map_append]
          show _ = o.map enc ++ ((q.extract 0 i).data.toList.map enc ++ [])
          rw [List.append_nil]
        show w2.ownsRow w.heap.size 5 1 v2 (o ++ (q.extract 0 i).data.toList).length ((o ++ (q.extract 0 i).data.toList).map enc)
        rw [e2, e3]
        exact h1
      have HL : Hid ((o ++ (q.extract 0 i).data.toList).length + (q.extract (i + 1) q.size).size ≤ s.size) := by
        have e1 : (q.extract 0 i).data.toList.length = (q.extract 0 i).size := by simp
        have h1 := HS1.out
        have h2 := HS2.out
        show (o ++ (q.extract 0 i).data.toList).length + (q.extract (i + 1) q.size).size ≤ s.size
        rw [List.length_append]
        omega
      clear HO
      go_wp2
      go_roundw
      case rel => exact ⟨q.extract (i + 1) q.size, o ++ (q.extract 0 i).data.toList, rfl, by have := HS2.out; omega, HS, HL.out, HO2.out, hb2⟩
      case measure => show (q.extract (i + 1) q.size).size < q.size; have := HS2.out; omega
end Go.Proofs.YtfeffdjnjckjaaaGreatDoor.Rg
