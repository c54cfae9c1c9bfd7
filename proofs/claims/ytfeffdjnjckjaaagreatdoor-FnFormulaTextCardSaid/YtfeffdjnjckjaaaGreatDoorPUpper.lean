/- A text in great letters. -/
import Derived.Test.YtfeffdjnjckjaaaGreatDoorJSmall
import Derived.Deep.Cut
import Derived.Laws.IdiomStrings
namespace Go.Proofs.YtfeffdjnjckjaaaGreatDoor.Rg
open Go.RowKit

def upL (l : List UInt8) : List UInt8 := l.map up

/-- Block g holds these bytes, and perhaps more, and may be written there. -/
def Byt (w : World) (g : Nat) (L : List UInt8) : Prop := ∃ (C : Array Value) (m : Nat), w.heap[g]? = some (.cells C 5 (m, m + 1)) ∧ L.length ≤ m ∧ ∀ (j : Nat) (c : UInt8), L[j]? = some c → C[j]? = some (.int .u8 c.toNat)

theorem Byt.cell {w : World} {g : Nat} {L : List UInt8} (h : Byt w g L) {j : Nat} {c : UInt8} (hj : L[j]? = some c) : w.cell? ⟨g, j, none⟩ = some (.int .u8 c.toNat) := by
  obtain ⟨C, m, h1, _, h3⟩ := h
  simp [World.cell?, h1, h3 j c hj]
theorem Byt.free {w : World} {g : Nat} {L : List UInt8} (h : Byt w g L) {j : Nat} (hj : j < L.length) : w.frozen? ⟨g, j, none⟩ = false := by
  obtain ⟨C, m, h1, h2, _⟩ := h
  simp [World.frozen?, h1]
  omega
theorem Byt.set {w : World} {g : Nat} {L : List UInt8} (h : Byt w g L) (j : Nat) (c : UInt8) : Byt (w.setCell ⟨g, j, none⟩ (.int .u8 c.toNat)) g (L.set j c) := by
  obtain ⟨C, m, h1, h2, h3⟩ := h
  refine ⟨C.setIfInBounds j (.int .u8 c.toNat), m, by simp [World.setCell, Array.getElem?_modify, h1], by rw [List.length_set]; exact h2, fun i d hd => ?_⟩
  rw [Array.getElem?_setIfInBounds]
  by_cases hij : j = i
  · subst hij
    rw [List.getElem?_set_self'] at hd
    cases hL : L[j]? with
    | none => simp [hL] at hd
    | some x =>
      simp [hL] at hd
      subst hd
      have := (Array.getElem?_eq_some_iff.1 (h3 j x hL)).1
      simp [this]
  · rw [if_neg hij]
    rw [List.getElem?_set_ne hij] at hd
    exact h3 i d hd
theorem Byt.lt {w : World} {g : Nat} {L : List UInt8} (h : Byt w g L) : g < w.heap.size := by
  obtain ⟨C, m, h1, _⟩ := h
  exact (Array.getElem?_eq_some_iff.1 h1).1
theorem Byt.same {w w' : World} {g : Nat} {L : List UInt8} (h : Byt w g L) (hs : Same w w' g) : Byt w' g L := by
  obtain ⟨C, m, h1, h2, h3⟩ := h
  exact ⟨C, m, Eq.trans hs h1, h2, h3⟩
theorem Byt.made (w : World) (l : List UInt8) (cap : Nat) : Byt (w.drew.alloc (.cells (bytesRow (bs l) cap) 5 ((bytesRow (bs l) cap).size, (bytesRow (bs l) cap).size + 1))) w.heap.size l := by
  refine ⟨bytesRow (bs l) cap, (bytesRow (bs l) cap).size, ?_, ?_, fun j c hj => ?_⟩
  · show (w.heap.push _)[w.heap.size]? = _
    simp
  · simp [bytesRow, bs]
  · have hl := (List.getElem?_eq_some_iff.1 hj).1
    have hx : ((bs l).data.map (fun b => Value.int .u8 b.toNat))[j]? = some (.int .u8 c.toNat) := by simp [bs, hj]
    unfold bytesRow
    rw [Array.getElem?_append_left (Array.getElem?_eq_some_iff.1 hx).1]
    exact hx

set_option maxHeartbeats 4000000 in
set_option maxRecDepth 100000 in
theorem upperL_any (l : List UInt8) (w : World) (hl : l.length ≤ 8192) :
    Calls Tryz.prog 62 #[.string (bs l)] w fun e w' => e = .returned (.string (bs (upL l))) ∧ Below w.heap.size w w' := by
  have hcv := run_bytes_of_string (P := Tryz.prog) w 9 75 5 (bs l) Tryz.underlying9 Tryz.underlying75 Tryz.underlying5
  obtain ⟨cap, hcap⟩ : ∃ cap, grownCap w (bs l).size 0 5 = cap := ⟨_, rfl⟩
  rw [hcap] at hcv
  have HM := Lib.hid (Byt.made w l cap)
  have HB : Hid (Below w.heap.size w (w.drew.alloc (.cells (bytesRow (bs l) cap) 5 ((bytesRow (bs l) cap).size, (bytesRow (bs l) cap).size + 1)))) := Lib.hid ((Below.refl _ _).drew.alloc (Nat.le_refl _) _)
  rw [bs_size] at hcv
  clear hcap
  obtain ⟨g0, hg0⟩ : ∃ g0, w.heap.size = g0 := ⟨_, rfl⟩
  generalize w.drew.alloc (.cells (bytesRow (bs l) cap) 5 ((bytesRow (bs l) cap).size, (bytesRow (bs l) cap).size + 1)) = w1 at hcv HM HB
  rw [hg0] at HM hcv
  have HG := Lib.hid hg0
  clear hg0
  go_enter Tryz.func62, Tryz.ntmps62
  go_upto_region 3 with (fail)
  clear hcv
  go_loopw [4] (fun i wr => ∃ k : Nat, k ≤ l.length ∧ i = .int .i64 k ∧ Hid (Byt wr g0 ((l.take k).map up ++ l.drop k)) ∧ Hid (Below w.heap.size w wr)) (fun i _ => l.length - (intOf i).toNat)
  case atStart => exact ⟨0, by omega, rfl, Lib.hid (by simpa using HM.out), HB⟩
  clear HM HB
  case round =>
    obtain ⟨k, hk, rfl, HM, HB⟩ := hrel
    by_cases hkl : k < l.length
    · have hLl : ((l.take k).map up ++ l.drop k).length = l.length := by simp; omega
      have hLk : ((l.take k).map up ++ l.drop k)[k]? = some l[k] := by
        have hm : min k l.length = k := Nat.min_eq_left (by omega)
        rw [List.getElem?_append_right (by simp [hm])]
        simp [hm, List.getElem?_eq_getElem hkl]
      have c0 := HM.out.cell hLk
      have f0 := HM.out.free (j := k) (by omega)
      have UP := Lib.hid (fun w => upper_any l[k] w)
      have HM2 : Hid (Byt (wr.setCell ⟨g0, k, none⟩ (.int .u8 (up l[k]).toNat)) g0 ((l.take (k + 1)).map up ++ l.drop (k + 1))) := by
        have h1 := HM.out.set k (up l[k])
        have e : ((l.take k).map up ++ l.drop k).set k (up l[k]) = (l.take (k + 1)).map up ++ l.drop (k + 1) := by
          have hm : min k l.length = k := Nat.min_eq_left (by omega)
          rw [List.set_append_right _ _ (by simp [hm]), List.take_succ_eq_append_getElem hkl, List.drop_eq_getElem_cons hkl]
          simp only [List.length_map, List.length_take, hm, Nat.sub_self, List.set_cons_zero, List.map_append, List.map_cons, List.map_nil, List.append_assoc, List.cons_append, List.nil_append]
        rw [e] at h1
        exact h1
      have HB2 : Hid (Below w.heap.size w (wr.setCell ⟨g0, k, none⟩ (.int .u8 (up l[k]).toNat))) := Lib.hid (HB.out.setCell (by show w.heap.size ≤ g0; have := HG.out; omega) _)
      have i0 : (0 : Int) ≤ (k : Int) := by omega
      have i1 : (k : Int) < (l.length : Int) := by omega
      clear hLl hLk HM HB
      go_wp2_with (refine (UP.out _).mono ?_; rintro e w' ⟨rfl, rfl⟩)
      go_roundw
      case rel => exact ⟨k + 1, by omega, by go_num, HM2, HB2⟩
      case measure => simp [intOf]; omega
    · obtain rfl : k = l.length := by omega
      have hcv := run_convert_bytes_back (P := Tryz.prog) wr 75 9 5 ⟨g0, 0, none⟩ cap (upL l) Tryz.underlying75 Tryz.underlying5 Tryz.underlying9 (fun j hj => by
        rw [addAt]
        refine HM.out.cell ?_
        rw [List.take_length, List.drop_length, List.append_nil]
        exact List.getElem?_eq_getElem hj)
      have hul : (upL l).length = l.length := by simp [upL]
      rw [hul] at hcv
      clear hul
      go_wp2
      go_ret
      exact ⟨rfl, HB.out⟩

end Go.Proofs.YtfeffdjnjckjaaaGreatDoor.Rg
