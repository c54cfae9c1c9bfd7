/- Ranges: the other half of the statement. -/
import Derived.Test.YtfeffdjnjckjaaaGreatDoorJFuncs
import Derived.Test.YtfeffdjnjckjaaaGreatDoorShelf
import Derived.Deep.RegionWith
import Derived.Deep.RegionHeld3
import Derived.Lib.SmallJoins
import Derived.BigQuiet
/- The column and the row of a cell by its name, as the package computes them, for names of one to three great letters and digits. -/
namespace Go.Proofs.YtfeffdjnjckjaaaGreatDoor.Rg.Rx
open Go.RowKit

theorem atoi_any (s : ByteArray) (n : Int) (w : World) (hl : s.size ≤ 18) (h : Lib.atoi s.data.toList = some n) :
    Calls Tryz.prog 71 #[.string s] w fun e w' => e = .returned (.tuple #[.int .i64 n, .nilIface]) ∧ Below w.heap.size w w' :=
  (Tryz.strconv_Atoi s n hl h w).mono fun e w' ⟨he, t, hw⟩ => ⟨he, by rw [hw]; exact Go.Joins.below_bytesWorld _ _ _ _ (Nat.le_refl _)⟩

/-- The string s is the name of the cell in a column and a row. -/
structure IsCell (s : ByteArray) (n : Nat) (col row : Int) : Prop where
  name : CellName s n
  three : n ≤ 3
  col_eq : colNum (s.data.toList.take n) = col
  col_le : col ≤ 16384
  row_eq : Lib.atoi (s.data.toList.drop n) = some row
  row_pos : 1 ≤ row
  row_le : row ≤ 1048576
  short : s.size ≤ 18

theorem CellName.take_up {s : ByteArray} {n : Nat} (h : CellName s n) : ∀ a ∈ s.data.toList.take n, Up a := by
  intro a ha
  obtain ⟨k, hk, hak⟩ := List.mem_take_iff_getElem.1 ha
  have hsl : s.data.toList.length = s.size := by simp
  have hks : k < s.size := by omega
  have := h.letters k hks (by omega)
  rw [data_get s k hks (by omega), hak] at this
  exact this

theorem filter_up {l : List UInt8} (h : ∀ a ∈ l, Up a) : l.filter (· != 36) = l := by
  rw [List.filter_eq_self]
  intro a ha
  have := h a ha
  rw [bne_iff_ne]
  intro e
  subst e
  have h2 := this.1
  simp at h2

set_option maxHeartbeats 1000000 in
set_option maxRecDepth 100000 in
theorem split_cell (s : ByteArray) (n : Nat) (col row : Int) (w : World) (h : IsCell s n col row) :
    Calls Tryz.prog 63 #[.string s] w fun e w' => e = .returned (.tuple #[.string ⟨(s.data.toList.take n).toArray⟩, .int .i64 row, .nilIface]) ∧ Below w.heap.size w w' := by
  obtain ⟨m, rfl⟩ : ∃ m, n = m + 1 := ⟨n - 1, by have := h.name.pos; omega⟩
  have hN := h.name
  have hu := hN.letters 0 (by have := hN.lt; omega) (by have := hN.pos; omega)
  have hn1 := hN.pos
  have hn2 := hN.lt
  have hn3 := hN.small
  have hs0 : 0 < s.size := by omega
  have hlt1 : (0 : Int) ≤ (m : Int) := by omega
  have hlt2 : (m : Int) < (s.size : Int) - 1 := by omega
  have hmi : ((m + 1 : Nat) : Int) - 1 = (m : Int) := by omega
  have hr0 : (0 : Int) < row := by have := h.row_pos; omega
  have HF : Hid ((s.extract 0 (m + 1)).data.toList.filter (· != 36) = s.data.toList.take (m + 1)) := by
    show (s.extract 0 (m + 1)).data.toList.filter (· != 36) = s.data.toList.take (m + 1)
    rw [Lib.extract_data]
    simp only [List.drop_zero, Nat.sub_zero]
    exact filter_up hN.take_up
  go_enter Tryz.func63, Tryz.ntmps63
  go_wp2_with fail
  refine (IndexFunc_any s w hs0 hu.1 hu.2).mono ?_
  rintro e w1 ⟨rfl, hb1⟩
  go_wp2_with fail
  refine (LastFunc_any s (m + 1) w1 hN).mono ?_
  rintro e w' ⟨rfl, rfl⟩
  rw [hmi]
  clear hmi
  go_wp2_with fail
  have hw1 : IntKind.i64.wrap ((m : Int) + 1) = (m : Int) + 1 := by rw [IntKind.wrap_i64]; omega
  have hm0 : (0 : Int) ≤ (m : Int) + 1 := by omega
  have hms : (m : Int) + 1 ≤ (s.size : Int) := by omega
  have hes : (s.extract 0 (m + 1)).size ≤ 1000000 := by rw [ByteArray.size_extract]; omega
  have HES := Lib.hid hes; clear hes
  have HA : Hid (Lib.atoi (s.extract (m + 1) s.size).data.toList = some row) := by
    show Lib.atoi (s.extract (m + 1) s.size).data.toList = some row
    rw [Lib.extract_to_end]
    exact h.row_eq
  have HAS : Hid ((s.extract (m + 1) s.size).size ≤ 18) := by
    show (s.extract (m + 1) s.size).size ≤ 18
    rw [ByteArray.size_extract]
    have := h.short
    omega
  go_region_held3 (fun w' => Below w.heap.size w w') (first | exact hb1 | exact hb1.drew | assumption | exact (Below.trans (by assumption) (Below.mono (by assumption) (Below.size (by assumption)))))
    (first | (go_at_call 33; refine (replace_any (s.extract 0 (m + 1)) 36 _ HES.out).mono ?_; rintro e w2 ⟨rfl, hb2⟩; rw [HF.out]))
  rename_i hB2
  clear hw1
  go_wp2_with fail
  refine (atoi_any (s.extract (m + 1) s.size) row _ HAS.out HA.out).mono ?_
  rintro e w3 ⟨rfl, hb3⟩
  go_wp2
  go_ret3
  exact ⟨rfl, hB2.trans (hb3.mono hB2.size)⟩

set_option maxHeartbeats 1000000 in
set_option maxRecDepth 100000 in
/-- The column and the row of a cell. -/
theorem cell_any (s : ByteArray) (n : Nat) (col row : Int) (w : World) (h : IsCell s n col row) :
    Calls Tryz.prog 50 #[.string s] w fun e w' => e = .returned (.tuple #[.int .i64 col, .int .i64 row, .nilIface]) ∧ Below w.heap.size w w' := by
  have hrow := h.row_le
  have hn1 := h.name.pos
  have hn2 := h.name.lt
  have hn3 := h.three
  have hts : (⟨(s.data.toList.take n).toArray⟩ : ByteArray).size = n := by
    show (s.data.toList.take n).toArray.size = n
    have hsl : s.data.toList.length = s.size := by simp
    rw [List.size_toArray, List.length_take]
    omega
  have HTS := Lib.hid hts; clear hts
  have HC : Hid (colNum (⟨(s.data.toList.take n).toArray⟩ : ByteArray).data.toList = col) := h.col_eq
  have HU : Hid (∀ a ∈ (⟨(s.data.toList.take n).toArray⟩ : ByteArray).data.toList, Up a) := h.name.take_up
  go_enter Tryz.func50, Tryz.ntmps50
  go_wp2_with fail
  refine (split_cell s n col row w h).mono ?_
  rintro e w1 ⟨rfl, hb1⟩
  go_wp2_with fail
  refine (column_any ⟨(s.data.toList.take n).toArray⟩ w1 (by rw [HTS.out]; exact hn1) (by rw [HTS.out]; exact hn3) HU.out (by rw [HC.out]; exact h.col_le)).mono ?_
  rintro e w' ⟨rfl, rfl⟩
  rw [HC.out]
  go_wp2
  go_ret3
  exact ⟨rfl, hb1⟩
end Go.Proofs.YtfeffdjnjckjaaaGreatDoor.Rg.Rx

/- The four numbers of a range by its two cells, as the package computes them: a fresh row of four. -/
namespace Go.Proofs.YtfeffdjnjckjaaaGreatDoor.Rg.Rx
open Go.RowKit

/-- A fresh row of four numbers: block b of the world. -/
structure Four (w0 w : World) (b : Nat) (p q r s : Int) : Prop where
  fresh : w0.heap.size ≤ b
  old : b < w.heap.size
  c0 : w.cell? ⟨b, 0, none⟩ = some (.int .i64 p)
  c1 : w.cell? ⟨b, 1, none⟩ = some (.int .i64 q)
  c2 : w.cell? ⟨b, 2, none⟩ = some (.int .i64 r)
  c3 : w.cell? ⟨b, 3, none⟩ = some (.int .i64 s)
  free : ∀ i, w.frozen? ⟨b, i, none⟩ = false
  below : Below w0.heap.size w0 w

theorem Four.later {w0 w w' : World} {b : Nat} {p q r s : Int} (h : Four w0 w b p q r s) (hb : Below w.heap.size w w') : Four w0 w' b p q r s :=
  ⟨h.fresh, Nat.lt_of_lt_of_le h.old hb.size, (hb.cell h.old).trans h.c0, (hb.cell h.old).trans h.c1, (hb.cell h.old).trans h.c2, (hb.cell h.old).trans h.c3, fun i => (hb.frozen (p := ⟨b, i, none⟩) h.old).trans (h.free i), h.below.trans (hb.mono h.below.size)⟩

theorem Four.drew {w0 w : World} {b : Nat} {p q r s : Int} (h : Four w0 w b p q r s) : Four w0 w.drew b p q r s := h.later (Below.refl _ _).drew

theorem Four.under {w0 w1 w : World} {b : Nat} {p q r s : Int} (h : Four w1 w b p q r s) (hb : Below w0.heap.size w0 w1) : Four w0 w b p q r s :=
  ⟨Nat.le_trans hb.size h.fresh, h.old, h.c0, h.c1, h.c2, h.c3, h.free, hb.trans (h.below.mono hb.size)⟩

theorem set_same (w : World) (b i : Nat) (v u : Value) (h : w.cell? ⟨b, i, none⟩ = some u) : (w.setCell ⟨b, i, none⟩ v).cell? ⟨b, i, none⟩ = some v := by
  simp [go_sem, h]
theorem set_other (w : World) (b i j : Nat) (v : Value) (h : j ≠ i) : (w.setCell ⟨b, i, none⟩ v).cell? ⟨b, j, none⟩ = w.cell? ⟨b, j, none⟩ := by
  simp [go_sem]
theorem Four.set0 {w0 w : World} {b : Nat} {p q r s : Int} (h : Four w0 w b p q r s) (v : Int) : Four w0 (w.setCell ⟨b, 0, none⟩ (.int .i64 v)) b v q r s :=
  ⟨h.fresh, by have := h.old; simpa [World.setCell] using this, set_same w b 0 _ _ h.c0, (set_other w b 0 1 _ (by decide)).trans h.c1, (set_other w b 0 2 _ (by decide)).trans h.c2, (set_other w b 0 3 _ (by decide)).trans h.c3, fun i => (World.frozen?_setCell _ _ _ _).trans (h.free i), h.below.setCell h.fresh _⟩
theorem Four.set1 {w0 w : World} {b : Nat} {p q r s : Int} (h : Four w0 w b p q r s) (v : Int) : Four w0 (w.setCell ⟨b, 1, none⟩ (.int .i64 v)) b p v r s :=
  ⟨h.fresh, by have := h.old; simpa [World.setCell] using this, (set_other w b 1 0 _ (by decide)).trans h.c0, set_same w b 1 _ _ h.c1, (set_other w b 1 2 _ (by decide)).trans h.c2, (set_other w b 1 3 _ (by decide)).trans h.c3, fun i => (World.frozen?_setCell _ _ _ _).trans (h.free i), h.below.setCell h.fresh _⟩
theorem Four.set2 {w0 w : World} {b : Nat} {p q r s : Int} (h : Four w0 w b p q r s) (v : Int) : Four w0 (w.setCell ⟨b, 2, none⟩ (.int .i64 v)) b p q v s :=
  ⟨h.fresh, by have := h.old; simpa [World.setCell] using this, (set_other w b 2 0 _ (by decide)).trans h.c0, (set_other w b 2 1 _ (by decide)).trans h.c1, set_same w b 2 _ _ h.c2, (set_other w b 2 3 _ (by decide)).trans h.c3, fun i => (World.frozen?_setCell _ _ _ _).trans (h.free i), h.below.setCell h.fresh _⟩
theorem Four.set3 {w0 w : World} {b : Nat} {p q r s : Int} (h : Four w0 w b p q r s) (v : Int) : Four w0 (w.setCell ⟨b, 3, none⟩ (.int .i64 v)) b p q r v :=
  ⟨h.fresh, by have := h.old; simpa [World.setCell] using this, (set_other w b 3 0 _ (by decide)).trans h.c0, (set_other w b 3 1 _ (by decide)).trans h.c1, (set_other w b 3 2 _ (by decide)).trans h.c2, set_same w b 3 _ _ h.c3, fun i => (World.frozen?_setCell _ _ _ _).trans (h.free i), h.below.setCell h.fresh _⟩

theorem Four.made (w : World) (p q r s : Int) (t : TypeId) : Four w (w.alloc (.cells #[.int .i64 p, .int .i64 q, .int .i64 r, .int .i64 s] t)) w.heap.size p q r s := by
  refine ⟨Nat.le_refl _, by simp [go_sem], by simp [go_sem], by simp [go_sem], by simp [go_sem], by simp [go_sem], fun i => ?_, (Below.refl _ _).alloc (Nat.le_refl _) _⟩
  simp [go_sem]

def FourPost (w0 : World) (p q r s : Int) (e : Ending) (w : World) : Prop :=
  ∃ b, e = .returned (.tuple #[.slice (some ⟨b, 0, none⟩) 4 4, .nilIface]) ∧ Four w0 w b p q r s

set_option maxHeartbeats 1000000 in
set_option maxRecDepth 100000 in
theorem cells_any (s t : ByteArray) (n m : Nat) (p q x y : Int) (w : World) (hs : IsCell s n p q) (ht : IsCell t m x y) :
    Calls Tryz.prog 36 #[.string s, .string t] w fun e w' => FourPost w p q x y e w' := by
  have hmk : ∀ w, (Instr.makeSlice 39 (.int .i64 4) (.int .i64 4)).run Tryz.prog w = .ok (.slice (some ⟨w.heap.size, 0, none⟩) 4 4) (w.alloc (.cells #[.int .i64 0, .int .i64 0, .int .i64 0, .int .i64 0] 3)) := fun _ => by kernel_rfl
  have F0 := Four.made w 0 0 0 0 3
  go_enter Tryz.func36, Tryz.ntmps36
  go_wp2_with fail
  clear hmk
  refine (cell_any s n p q _ hs).mono ?_
  rintro e w1 ⟨rfl, hb1⟩
  replace F0 := F0.later hb1
  have f1 := F0.free
  have a0 := F0.c0
  have a1 := F0.c1
  clear hb1
  go_wp2_with fail
  refine (cell_any t m x y _ ht).mono ?_
  rintro e w2 ⟨rfl, hb2⟩
  replace F0 := ((F0.set0 p).set1 q).later hb2
  clear f1 a0 a1 hb2
  have f1 := F0.free
  have a0 := F0.c2
  have a1 := F0.c3
  go_wp2
  go_ret2
  exact ⟨_, rfl, (F0.set2 x).set3 y⟩
end Go.Proofs.YtfeffdjnjckjaaaGreatDoor.Rg.Rx

/- The four numbers of a range, as the package computes them from its text. -/
namespace Go.Proofs.YtfeffdjnjckjaaaGreatDoor.Rg.Rx
open Go.RowKit

/-- The text, without '$', is two cells with a colon between them. -/
def IsRange (t : ByteArray) (p q x y : Int) : Prop :=
  ∃ (a b : List UInt8) (n m : Nat), t.data.toList.filter (· != 36) = a ++ 58 :: b ∧ IsCell ⟨a.toArray⟩ n p q ∧ IsCell ⟨b.toArray⟩ m x y ∧ t.size ≤ 1000

theorem CellName.not_colon {s : ByteArray} {n : Nat} (h : CellName s n) : ∀ a ∈ s.data.toList, a ≠ 58 := by
  intro a ha e
  obtain ⟨k, hk, hak⟩ := List.mem_iff_getElem.1 ha
  have hsl : s.data.toList.length = s.size := by simp
  have hks : k < s.size := by omega
  have hd := data_get s k hks (by omega)
  rw [hak, e] at hd
  by_cases hn : k < n
  · have := h.letters k hks hn
    rw [hd] at this
    have h1 := this.1
    simp at h1
  · have := h.digits k hks (by omega)
    rw [hd] at this
    have h2 := this.2
    simp at h2

theorem pieces_two {a b : List UInt8} (ha : ∀ u ∈ a, u ≠ 58) (hb : ∀ u ∈ b, u ≠ 58) : pieces 58 (a ++ 58 :: b) = [a, b] := by
  have h : (a ++ 58 :: b).findIdx? (· == 58) = some a.length := by
    rw [List.findIdx?_append]
    have h0 : a.findIdx? (· == 58) = none := by
      rw [List.findIdx?_eq_none_iff]
      intro u hu
      simpa using ha u hu
    rw [h0]
    simp [List.findIdx?_cons]
  rw [pieces_some 58 _ _ h]
  have h1 : (a ++ 58 :: b).take a.length = a := by simp
  have h2 : (a ++ 58 :: b).drop (a.length + 1) = b := by
    rw [← List.drop_drop]
    simp
  rw [h1, h2, pieces_none]
  rw [List.findIdx?_eq_none_iff]
  intro u hu
  simpa using hb u hu

/-- The row of the pieces of a range. -/
theorem OwnsS.two {w : World} {B : Nat} {A : Option Addr} {m c : Nat} {a b : List UInt8} (h : OwnsS w B A m c [a, b]) :
    ∃ g, A = some ⟨g, 0, none⟩ ∧ m = 2 ∧ g < w.heap.size ∧ w.cell? ⟨g, 0, none⟩ = some (.string ⟨a.toArray⟩) ∧ w.cell? ⟨g, 1, none⟩ = some (.string ⟨b.toArray⟩) := by
  have hm : m = 2 := h.len
  subst hm
  have ho := h.own
  rcases ho.2 with ⟨h0, _⟩ | ⟨g, cap, cur, hv, _⟩
  · simp at h0
  · simp only [Value.slice.injEq] at hv
    obtain ⟨rfl, _, rfl⟩ := hv
    refine ⟨g, rfl, rfl, (ho.lt g rfl).2, ?_, ?_⟩
    · have := ho.cells (g := g) rfl 0 (.string ⟨a.toArray⟩) rfl
      simpa [addAt] using this
    · have := ho.cells (g := g) rfl 1 (.string ⟨b.toArray⟩) rfl
      simpa [addAt] using this

set_option maxHeartbeats 1000000 in
set_option maxRecDepth 100000 in
theorem range_any (t : ByteArray) (p q x y : Int) (w : World) (h : IsRange t p q x y) :
    Calls Tryz.prog 25 #[.string t] w fun e w' => FourPost w p q x y e w' := by
  obtain ⟨a, b, n, m, hf, hA, hB, ht⟩ := h
  have HP : Hid (pieces 58 (⟨(t.data.toList.filter (· != 36)).toArray⟩ : ByteArray).data.toList = [a, b]) := by
    show pieces 58 (t.data.toList.filter (· != 36)) = [a, b]
    rw [hf]
    exact pieces_two (by simpa using hA.name.not_colon) (by simpa using hB.name.not_colon)
  have HS : Hid ((⟨(t.data.toList.filter (· != 36)).toArray⟩ : ByteArray).size ≤ 1000000) := by
    show (t.data.toList.filter (· != 36)).toArray.size ≤ 1000000
    have h1 := List.length_filter_le (· != (36 : UInt8)) t.data.toList
    have h2 : t.data.toList.length = t.size := by simp
    rw [List.size_toArray]
    omega
  clear hf
  go_enter Tryz.func25, Tryz.ntmps25
  go_wp2_with fail
  refine (replace_any t 36 _ (by omega)).mono ?_
  rintro e w1 ⟨rfl, hb1⟩
  go_wp2_with fail
  refine (split_any _ 58 _ HS.out).mono ?_
  rw [HP.out]
  rintro e w2 ⟨A, k, c, rfl, hO, hb2⟩
  obtain ⟨g, rfl, rfl, hg, c0, c1⟩ := hO.two
  clear hO
  have hB2 : Below w.heap.size w w2 := hb1.trans (hb2.mono hb1.size)
  clear hb1 hb2 HP HS
  go_wp2_with fail
  go_region_held3 (fun w' => w'.cell? ⟨g, 0, none⟩ = some (.string ⟨a.toArray⟩) ∧ w'.cell? ⟨g, 1, none⟩ = some (.string ⟨b.toArray⟩))
    (first | exact ⟨c0, c1⟩ | exact ⟨k0, k1⟩ | assumption)
    (first | (go_at_call 36; refine (cells_any ⟨a.toArray⟩ ⟨b.toArray⟩ n m p q x y _ hA hB).mono ?_; rintro e w3 ⟨b3, rfl, hF⟩; have k0 := (hF.below.cell (p := ⟨g, 0, none⟩) hg).trans c0; have k1 := (hF.below.cell (p := ⟨g, 1, none⟩) hg).trans c1; replace hF := hF.under hB2.drew))
  go_wp2
  go_ret2
  exact ⟨b3, rfl, hF⟩
end Go.Proofs.YtfeffdjnjckjaaaGreatDoor.Rg.Rx

/- The doors to the four numbers of a range, and the range of the laws that must be read. -/
namespace Go.Proofs.YtfeffdjnjckjaaaGreatDoor.Rg.Rx
open Go.RowKit

/-- What a door to a row of four gives. -/
def FourYes (w0 : World) (p q r s : Int) (e : Ending) (w : World) : Prop :=
  ∃ b, e = .returned (.tuple #[.slice (some ⟨b, 0, none⟩) 4 4, .bool true]) ∧ Four w0 w b p q r s

set_option maxHeartbeats 1000000 in
theorem door_range (t : ByteArray) (p q x y : Int) (w : World) (h : IsRange t p q x y) :
    Calls Tryz.prog 19 #[.string t] w fun e w' => FourYes w p q x y e w' := by
  go_enter Tryz.func19, Tryz.ntmps19
  go_wp2_with fail
  refine (range_any t p q x y _ h).mono ?_
  rintro e w1 ⟨b, rfl, hF⟩
  go_wp2_with fail
  go_quiet (fail)
  go_wp2
  go_ret2
  exact ⟨b, rfl, hF.later (by constructor <;> first | rfl | exact Nat.le_refl _ | (intros; rfl))⟩

set_option maxHeartbeats 1000000 in
theorem impl_range (t : ByteArray) (p q x y : Int) (w : World) (h : IsRange t p q x y) :
    Calls Tryz.prog 12 #[.string t] w fun e w' => FourYes w p q x y e w' := by
  go_enter Tryz.func12, Tryz.ntmps12
  go_wp2_with fail
  refine (door_range t p q x y _ h).mono ?_
  rintro e w1 ⟨b, rfl, hF⟩
  go_wp2
  go_ret2
  exact ⟨b, rfl, hF⟩

theorem cell_b2 : IsCell ⟨[66, 50].toArray⟩ 1 2 2 := by
  refine ⟨⟨by decide, by decide, by decide, ?_, ?_⟩, by decide, by rfl, by decide, by kernel_rfl, by decide, by decide, by decide⟩
  · intro k h hk
    obtain rfl : k = 0 := by omega
    clear hk
    revert h
    unfold Up
    decide
  · intro k h hk
    have h' : k < 2 := h
    obtain rfl : k = 1 := by omega
    clear h' hk
    revert h
    unfold Dig
    decide
theorem cell_c5 : IsCell ⟨[67, 53].toArray⟩ 1 3 5 := by
  refine ⟨⟨by decide, by decide, by decide, ?_, ?_⟩, by decide, by rfl, by decide, by kernel_rfl, by decide, by decide, by decide⟩
  · intro k h hk
    obtain rfl : k = 0 := by omega
    clear hk
    revert h
    unfold Up
    decide
  · intro k h hk
    have h' : k < 2 := h
    obtain rfl : k = 1 := by omega
    clear h' hk
    revert h
    unfold Dig
    decide
theorem range_lives : IsRange ⟨#[66, 50, 58, 67, 53]⟩ 2 2 3 5 := ⟨[66, 50], [67, 53], 1, 1, by decide, cell_b2, cell_c5, by decide⟩

set_option maxHeartbeats 1000000 in
theorem lives_any (w : World) : Calls Tryz.prog 6 #[] w fun e w' => e = .returned (.bool true) ∧ Below w.heap.size w w' := by
  go_enter Tryz.func6, Tryz.ntmps6
  go_wp2_with fail
  refine (impl_range _ 2 2 3 5 _ range_lives).mono ?_
  rintro e w1 ⟨b, rfl, hF⟩
  have c0 := hF.c0
  have c1 := hF.c1
  have c2 := hF.c2
  have c3 := hF.c3
  have hb := hF.below
  clear hF
  go_wp2
  go_ret
  exact ⟨rfl, hb⟩
end Go.Proofs.YtfeffdjnjckjaaaGreatDoor.Rg.Rx
