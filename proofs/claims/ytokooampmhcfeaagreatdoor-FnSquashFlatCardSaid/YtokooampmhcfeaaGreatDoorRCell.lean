/- The column and the row of a cell by its name, as the package computes them, for names of one to three great letters and digits. -/
import Derived.Test.YtokooampmhcfeaaGreatDoorRFuncs
import Derived.Test.YtokooampmhcfeaaGreatDoorShelf
import Derived.Deep.RegionWith
import Derived.Deep.RegionHeld3
import Derived.Lib.SmallJoins
namespace Go.Proofs.YtokooampmhcfeaaGreatDoor.Rg
open Go.RowKit

theorem atoi_any (s : ByteArray) (n : Int) (w : World) (hl : s.size ≤ 18) (h : Lib.atoi s.data.toList = some n) :
    Calls Tryz.prog 81 #[.string s] w fun e w' => e = .returned (.tuple #[.int .i64 n, .nilIface]) ∧ Below w.heap.size w w' :=
  (Tryz.strconv_Atoi s n hl h w).mono fun e w' ⟨he, t, hw⟩ => ⟨he, by rw [hw]; exact Go.Joins.below_bytesWorld _ _ _ _ (Nat.le_refl _)⟩

/-- The string s is the name of the cell in a column and a row. -/
structure IsCell (s : ByteArray) (n : Nat) (col row : Int) : Prop where
  name : CellName s n
  three : n ≤ 3
  col_eq : colNum (s.data.toList.take n) = col
  col_le : col ≤ 16384
  row_eq : Lib.atoi (s.data.toList.drop n) = some row
  row_pos : 1 ≤ row
  row_le : row ≤ 1048576
  short : s.size ≤ 18

theorem CellName.take_up {s : ByteArray} {n : Nat} (h : CellName s n) : ∀ a ∈ s.data.toList.take n, Up a := by
  intro a ha
  obtain ⟨k, hk, hak⟩ := List.mem_take_iff_getElem.1 ha
  have hsl : s.data.toList.length = s.size := by simp
  have hks : k < s.size := by omega
  have := h.letters k hks (by omega)
  rw [data_get s k hks (by omega), hak] at this
  exact this

theorem filter_up {l : List UInt8} (h : ∀ a ∈ l, Up a) : l.filter (· != 36) = l := by
  rw [List.filter_eq_self]
  intro a ha
  have := h a ha
  rw [bne_iff_ne]
  intro e
  subst e
  have h2 := this.1
  simp at h2

set_option maxHeartbeats 1000000 in
set_option maxRecDepth 100000 in
theorem split_cell (s : ByteArray) (n : Nat) (col row : Int) (w : World) (h : IsCell s n col row) :
    Calls Tryz.prog 50 #[.string s] w fun e w' => e = .returned (.tuple #[.string ⟨(s.data.toList.take n).toArray⟩, .int .i64 row, .nilIface]) ∧ Below w.heap.size w w' := by
  obtain ⟨m, rfl⟩ : ∃ m, n = m + 1 := ⟨n - 1, by have := h.name.pos; omega⟩
  have hN := h.name
  have hu := hN.letters 0 (by have := hN.lt; omega) (by have := hN.pos; omega)
  have hn1 := hN.pos
  have hn2 := hN.lt
  have hn3 := hN.small
  have hs0 : 0 < s.size := by omega
  have hlt1 : (0 : Int) ≤ (m : Int) := by omega
  have hlt2 : (m : Int) < (s.size : Int) - 1 := by omega
  have hmi : ((m + 1 : Nat) : Int) - 1 = (m : Int) := by omega
  have hr0 : (0 : Int) < row := by have := h.row_pos; omega
  have HF : Hid ((s.extract 0 (m + 1)).data.toList.filter (· != 36) = s.data.toList.take (m + 1)) := by
    show (s.extract 0 (m + 1)).data.toList.filter (· != 36) = s.data.toList.take (m + 1)
    rw [Lib.extract_data]
    simp only [List.drop_zero, Nat.sub_zero]
    exact filter_up hN.take_up
  go_enter Tryz.func50, Tryz.ntmps50
  go_wp2_with fail
  refine (IndexFunc_any s w hs0 hu.1 hu.2).mono ?_
  rintro e w1 ⟨rfl, hb1⟩
  go_wp2_with fail
  refine (LastFunc_any s (m + 1) w1 hN).mono ?_
  rintro e w' ⟨rfl, rfl⟩
  rw [hmi]
  clear hmi
  go_wp2_with fail
  have hw1 : IntKind.i64.wrap ((m : Int) + 1) = (m : Int) + 1 := by rw [IntKind.wrap_i64]; omega
  have hm0 : (0 : Int) ≤ (m : Int) + 1 := by omega
  have hms : (m : Int) + 1 ≤ (s.size : Int) := by omega
  have hes : (s.extract 0 (m + 1)).size ≤ 1000000 := by rw [ByteArray.size_extract]; omega
  have HES := Lib.hid hes; clear hes
  have HA : Hid (Lib.atoi (s.extract (m + 1) s.size).data.toList = some row) := by
    show Lib.atoi (s.extract (m + 1) s.size).data.toList = some row
    rw [Lib.extract_to_end]
    exact h.row_eq
  have HAS : Hid ((s.extract (m + 1) s.size).size ≤ 18) := by
    show (s.extract (m + 1) s.size).size ≤ 18
    rw [ByteArray.size_extract]
    have := h.short
    omega
  go_region_held3 (fun w' => Below w.heap.size w w') (first | exact hb1 | exact hb1.drew | assumption | exact (Below.trans (by assumption) (Below.mono (by assumption) (Below.size (by assumption)))))
    (first | (go_at_call 53; refine (replace_any (s.extract 0 (m + 1)) 36 _ HES.out).mono ?_; rintro e w2 ⟨rfl, hb2⟩; rw [HF.out]))
  rename_i hB2
  clear hw1
  go_wp2_with fail
  refine (atoi_any (s.extract (m + 1) s.size) row _ HAS.out HA.out).mono ?_
  rintro e w3 ⟨rfl, hb3⟩
  go_wp2
  go_ret3
  exact ⟨rfl, hB2.trans (hb3.mono hB2.size)⟩

set_option maxHeartbeats 1000000 in
set_option maxRecDepth 100000 in
/-- The column and the row of a cell. -/
theorem cell_any (s : ByteArray) (n : Nat) (col row : Int) (w : World) (h : IsCell s n col row) :
    Calls Tryz.prog 34 #[.string s] w fun e w' => e = .returned (.tuple #[.int .i64 col, .int .i64 row, .nilIface]) ∧ Below w.heap.size w w' := by
  have hrow := h.row_le
  have hn1 := h.name.pos
  have hn2 := h.name.lt
  have hn3 := h.three
  have hts : (⟨(s.data.toList.take n).toArray⟩ : ByteArray).size = n := by
    show (s.data.toList.take n).toArray.size = n
    have hsl : s.data.toList.length = s.size := by simp
    rw [List.size_toArray, List.length_take]
    omega
  have HTS := Lib.hid hts; clear hts
  have HC : Hid (colNum (⟨(s.data.toList.take n).toArray⟩ : ByteArray).data.toList = col) := h.col_eq
  have HU : Hid (∀ a ∈ (⟨(s.data.toList.take n).toArray⟩ : ByteArray).data.toList, Up a) := h.name.take_up
  go_enter Tryz.func34, Tryz.ntmps34
  go_wp2_with fail
  refine (split_cell s n col row w h).mono ?_
  rintro e w1 ⟨rfl, hb1⟩
  go_wp2_with fail
  refine (column_any ⟨(s.data.toList.take n).toArray⟩ w1 (by rw [HTS.out]; exact hn1) (by rw [HTS.out]; exact hn3) HU.out (by rw [HC.out]; exact h.col_le)).mono ?_
  rintro e w' ⟨rfl, rfl⟩
  rw [HC.out]
  go_wp2
  go_ret3
  exact ⟨rfl, hb1⟩
end Go.Proofs.YtokooampmhcfeaaGreatDoor.Rg
