/- The reader reads cells and areas. -/
import Derived.Test.YtfeffdjnjckjaaaGreatDoorPFail
import Derived.Test.YtfeffdjnjckjaaaGreatDoorPNumber
import Derived.Test.YtfeffdjnjckjaaaGreatDoorPQuoted
import Derived.Test.YtfeffdjnjckjaaaGreatDoorPUpper
/- The reader takes a byte that comes, or leaves another. -/
namespace Go.Proofs.YtfeffdjnjckjaaaGreatDoor.Rg
open Go.RowKit

theorem one_yes (c : UInt8) (g : Nat) (s : ByteArray) (r : List UInt8) (d : Int) (b : Bool) (w : World) (h : At w g s r d b) (hp : pk r = c) (hc : c ≠ 0) :
    Calls Tryz.prog 23 #[.pointer (some ⟨g, 0, none⟩), .string ⟨#[c]⟩] w fun e w' => e = .returned (.bool true) ∧ At w' g s r.tail d b ∧ Fr w w' g := by
  obtain ⟨r2, rfl⟩ : ∃ r2, r = [c] ++ r2 := ⟨r.tail, by rw [pk_cons (r := r) (by rw [hp]; exact hc), hp]; rfl⟩
  exact takes_yes g s [c] r2 d b w h
theorem one_no (c : UInt8) (g : Nat) (s : ByteArray) (r : List UInt8) (d : Int) (b : Bool) (w : World) (h : At w g s r d b) (hp : pk r ≠ c) :
    Calls Tryz.prog 23 #[.pointer (some ⟨g, 0, none⟩), .string ⟨#[c]⟩] w fun e w' => e = .returned (.bool false) ∧ ∃ n, w' = w.drewN n := by
  refine takes_no g s ⟨#[c]⟩ r d b w h ?_
  intro hpre
  obtain ⟨t, ht⟩ := hpre
  apply hp
  rw [← ht]
  rfl

end Go.Proofs.YtfeffdjnjckjaaaGreatDoor.Rg

/- The reader reads a cell or an area. -/
namespace Go.Proofs.YtfeffdjnjckjaaaGreatDoor.Rg
open Go.RowKit

def placeP (sheet r : List UInt8) : R :=
  let c := cellP r
  if c.ok = false ∨ isNamed (pk c.rest) = true then .bad
  else if pk c.rest = 58 then
    let e := cellP c.rest.tail
    if e.ok = false ∨ isNamed (pk e.rest) = true then .bad
    else .ok (.area sheet c.col c.row e.col e.row c.fa c.fb e.fa e.fb) e.rest
  else .ok (.cell sheet c.col c.row c.fa c.fb) c.rest

theorem exCells_4 (u : Ev) (x : Int) : (exCells u).set! 4 (.int .i64 x) = exCells { u with c := x } := by
  simp [exCells]
theorem exCells_5 (u : Ev) (x : Int) : (exCells u).set! 5 (.int .i64 x) = exCells { u with r := x } := by
  simp [exCells]
theorem exCells_6 (u : Ev) (x : Int) : (exCells u).set! 6 (.int .i64 x) = exCells { u with c2 := x } := by
  simp [exCells]
theorem exCells_7 (u : Ev) (x : Int) : (exCells u).set! 7 (.int .i64 x) = exCells { u with r2 := x } := by
  simp [exCells]
theorem exCells_0 (u : Ev) (x : ByteArray) : (exCells u).set! 0 (.string x) = exCells { u with op := x } := by
  simp [exCells]
theorem exCells_f (u : Ev) (a b c d : Bool) : ((((exCells u).set! 8 (.bool a)).set! 9 (.bool b)).set! 10 (.bool c)).set! 11 (.bool d) = exCells { u with f0 := a, f1 := b, f2 := c, f3 := d } := by
  simp [exCells]

set_option maxHeartbeats 16000000 in
set_option maxRecDepth 100000 in
theorem place_any (g : Nat) (s : ByteArray) (sheet r : List UInt8) (d : Int) (w : World) (h : At w g s r d false) :
    Calls Tryz.prog 48 #[.pointer (some ⟨g, 0, none⟩), .string (bs sheet)] w (TreePost w g s d (placeP sheet r)) := by
  obtain ⟨j, hj⟩ : ∃ j, w.heap.size = j := ⟨_, rfl⟩
  have hgj : g < j := hj ▸ h.lt
  obtain ⟨W, hW⟩ : ∃ W, (((w.alloc (.cells (exCells Ev.zero) 25)).alloc (.cells (exCells { Ev.zero with op := sCell, sheet := bs sheet }) 25)).alloc (.cells #[.bool false, .bool false] 87)).alloc (.cells #[.bool false, .bool false] 87) = W := ⟨_, rfl⟩
  have HA : Hid (At W g s r d false) := by subst hW; exact (((h.alloc _).alloc _).alloc _).alloc _
  have HF : Hid (Fr w W g) := by subst hW; exact ((((Fr.refl w g).alloc _).alloc _).alloc _).alloc _
  have HB4 : Hid (Box W j (exCells Ev.zero) 25) := by subst hW; subst hj; exact (((Box.made _ _ _).alloc _).alloc _).alloc _
  have HB5 : Hid (Box W (j + 1) (exCells { Ev.zero with op := sCell, sheet := bs sheet }) 25) := by
    show Box W (j + 1) _ _
    have e : j + 1 = (w.alloc (.cells (exCells Ev.zero) 25)).heap.size := by rw [← hj]; simp
    rw [e]
    subst hW
    exact ((Box.made _ _ _).alloc _).alloc _
  have HB6 : Hid (Box W (j + 1 + 1) #[.bool false, .bool false] 87) := by
    show Box W (j + 1 + 1) _ _
    have e : j + 1 + 1 = ((w.alloc (.cells (exCells Ev.zero) 25)).alloc (.cells (exCells { Ev.zero with op := sCell, sheet := bs sheet }) 25)).heap.size := by rw [← hj]; simp
    rw [e]
    subst hW
    exact (Box.made _ _ _).alloc _
  have HB7 : Hid (Box W (j + 1 + 1 + 1) #[.bool false, .bool false] 87) := by
    show Box W (j + 1 + 1 + 1) _ _
    have e : j + 1 + 1 + 1 = (((w.alloc (.cells (exCells Ev.zero) 25)).alloc (.cells (exCells { Ev.zero with op := sCell, sheet := bs sheet }) 25)).alloc (.cells #[.bool false, .bool false] 87)).heap.size := by rw [← hj]; simp
    rw [e]
    subst hW
    exact Box.made _ _ _
  have HJ := Lib.hid hj
  have HW := Lib.hid hW
  clear h hW
  unfold exCells at HW
  simp only [Ev.zero, sCell] at HW
  go_enter Tryz.func48, Tryz.ntmps48
  go_upto_region 4 with (fail)
  rw [HW.out]
  clear HW hj
  have CL := Lib.hid (cell_any g s r d false W HA.out)
  have HP : Hid (placeP sheet r = placeP sheet r) := Lib.hid rfl
  obtain ⟨C, hC⟩ : ∃ C, cellP r = C := ⟨_, rfl⟩
  rw [hC] at CL
  have HPC : Hid (placeP sheet r = if C.ok = false ∨ isNamed (pk C.rest) = true then .bad
      else if pk C.rest = 58 then
        if (cellP C.rest.tail).ok = false ∨ isNamed (pk (cellP C.rest.tail).rest) = true then .bad
        else .ok (.area sheet C.col C.row (cellP C.rest.tail).col (cellP C.rest.tail).row C.fa C.fb (cellP C.rest.tail).fa (cellP C.rest.tail).fb) (cellP C.rest.tail).rest
      else .ok (.cell sheet C.col C.row C.fa C.fb) C.rest) := by
    show placeP sheet r = _
    unfold placeP
    rw [hC]
  clear hC HP
  obtain ⟨col, row, fa, fb, hok, r1⟩ := C
  simp only at HPC
  unfold CellPost at CL
  simp only at CL
  go_wp2_with fail
  refine CL.out.mono ?_
  rintro e w1 ⟨rfl, hA1, hF1⟩
  have HA2 := Lib.hid hA1
  have HF2 := Lib.hid (HF.out.trans hF1)
  have HB4 := Lib.hid (HB4.out.fr hF1 (by omega))
  have HB5 := Lib.hid (HB5.out.fr hF1 (by omega))
  have HB6 := Lib.hid (HB6.out.fr hF1 (by omega))
  have HB7 := Lib.hid (HB7.out.fr hF1 (by omega))
  clear hA1 hF1 CL
  have x4 : w1.cell? ⟨j + 1, 4, none⟩ = some (.int .i64 0) := HB5.out.cell 4
  have x5 : w1.cell? ⟨j + 1, 5, none⟩ = some (.int .i64 0) := HB5.out.cell 5
  have x6 : w1.cell? ⟨j + 1 + 1, 0, none⟩ = some (.bool false) := HB6.out.cell 0
  have x7 : w1.cell? ⟨j + 1 + 1, 1, none⟩ = some (.bool false) := HB6.out.cell 1
  have y4 := HB5.out.free
  have y6 := HB6.out.free
  go_upto_region 5 with (fail)
  clear x4 x5 x6 x7 y4 y6
  have HB4 := Lib.hid ((((HB4.out.other (k := j + 1) 4 (.int .i64 col) (by omega)).other (k := j + 1) 5 (.int .i64 row) (by omega)).other (k := j + 1 + 1) 0 (.bool fa) (by omega)).other (k := j + 1 + 1) 1 (.bool fb) (by omega))
  have HB7 := Lib.hid ((((HB7.out.other (k := j + 1) 4 (.int .i64 col) (by omega)).other (k := j + 1) 5 (.int .i64 row) (by omega)).other (k := j + 1 + 1) 0 (.bool fa) (by omega)).other (k := j + 1 + 1) 1 (.bool fb) (by omega))
  have HB6 : Hid (Box ((((w1.setCell ⟨j + 1, 4, none⟩ (.int .i64 col)).setCell ⟨j + 1, 5, none⟩ (.int .i64 row)).setCell ⟨j + 1 + 1, 0, none⟩ (.bool fa)).setCell ⟨j + 1 + 1, 1, none⟩ (.bool fb)) (j + 1 + 1) #[.bool fa, .bool fb] 87) := ((((HB6.out.other (k := j + 1) 4 (.int .i64 col) (by omega)).other (k := j + 1) 5 (.int .i64 row) (by omega)).set 0 (.bool fa)).set 1 (.bool fb))
  have h5 := (HB5.out.set 4 (.int .i64 col)).set 5 (.int .i64 row)
  rw [exCells_4, exCells_5] at h5
  have HB5 := Lib.hid ((h5.other (k := j + 1 + 1) 0 (.bool fa) (by omega)).other (k := j + 1 + 1) 1 (.bool fb) (by omega))
  have HA2 := Lib.hid ((((HA2.out.other (k := j + 1) 4 (.int .i64 col) (by omega)).other (k := j + 1) 5 (.int .i64 row) (by omega)).other (k := j + 1 + 1) 0 (.bool fa) (by omega)).other (k := j + 1 + 1) 1 (.bool fb) (by omega))
  have HF2 := Lib.hid ((((HF2.out.own (j := j + 1) 4 (.int .i64 col) (by have := HJ.out; omega)).own (j := j + 1) 5 (.int .i64 row) (by have := HJ.out; omega)).own (j := j + 1 + 1) 0 (.bool fa) (by have := HJ.out; omega)).own (j := j + 1 + 1) 1 (.bool fb) (by have := HJ.out; omega))
  clear h5
  generalize ((((w1.setCell ⟨j + 1, 4, none⟩ (.int .i64 col)).setCell ⟨j + 1, 5, none⟩ (.int .i64 row)).setCell ⟨j + 1 + 1, 0, none⟩ (.bool fa)).setCell ⟨j + 1 + 1, 1, none⟩ (.bool fb)) = w2 at HA2 HF2 HB4 HB5 HB6 HB7 ⊢
  have hbad : hok = false → placeP sheet r = .bad := fun h => HPC.out.trans (if_pos (.inl h))
  have hnam : isNamed (pk r1) = true → placeP sheet r = .bad := fun h => HPC.out.trans (if_pos (.inr h))
  have hgo : hok = true → isNamed (pk r1) = false → placeP sheet r = if pk r1 = 58 then
        if (cellP r1.tail).ok = false ∨ isNamed (pk (cellP r1.tail).rest) = true then .bad
        else .ok (.area sheet col row (cellP r1.tail).col (cellP r1.tail).row fa fb (cellP r1.tail).fa (cellP r1.tail).fb) (cellP r1.tail).rest
      else .ok (.cell sheet col row fa fb) r1 := fun h1 h2 => HPC.out.trans (if_neg (by rw [h1, h2]; simp))
  have HBAD := Lib.hid hbad
  have HNAM := Lib.hid hnam
  have HGO := Lib.hid hgo
  clear hbad hnam hgo HPC
  have b3 := HA2.out.c3
  have bf := HA2.out.free 3
  have PK := Lib.hid (peek_any g s r1 d false w2 HA2.out)
  have NM := Lib.hid (fun w => named_any (pk r1) w)
  obtain ⟨y, hy⟩ : ∃ y, isNamed (pk r1) = y := ⟨_, rfl⟩
  have HY := Lib.hid hy
  rw [hy] at NM
  clear hy
  cases hok
  case false =>
    have HZ := Lib.hid (HBAD.out (by trivial))
    go_upto_region 7 with fail
    clear b3 bf PK NM
    have HAb := Lib.hid (HA2.out.setBad true)
    have HFb := Lib.hid (HF2.out.trans (Fr.set g 3 (.bool true)))
    have HBb := Lib.hid (HB4.out.other (k := g) 3 (.bool true) (by omega))
    generalize w2.setCell ⟨g, 3, none⟩ (.bool true) = w9 at HAb HFb HBb ⊢
    obtain ⟨d0, d1, d2, d3, d4, d5, d6, d7, d8, d9, d10, d11, d12, d13⟩ := HBb.out.ex
    have f := HBb.out.free
    go_wp2
    refine tree_put Ev.zero rfl rfl HBb.out ?_
    rw [HZ.out]
    exact ⟨_, _, _, rfl, HAb.out.put _ (by omega), HFb.out.put _ (by have := HJ.out; omega)⟩
  case true =>
    cases y
    case true =>
      have HZ := Lib.hid (HNAM.out HY.out)
      go_upto_region 7 with (first
        | (go_at_call 59; refine (NM.out _).mono ?_; rintro e w' ⟨rfl, rfl⟩)
        | (go_at_call 18; refine PK.out.mono ?_; rintro e w' ⟨rfl, m1, rfl⟩))
      clear b3 bf PK NM
      have HA2 := Lib.hid (HA2.out.drewN m1)
      have HF2 := Lib.hid (HF2.out.trans (Fr.drewN _ _ m1))
      have HB4 := Lib.hid (HB4.out.drewN m1)
      have HAb := Lib.hid (HA2.out.setBad true)
      have HFb := Lib.hid (HF2.out.trans (Fr.set g 3 (.bool true)))
      have HBb := Lib.hid (HB4.out.other (k := g) 3 (.bool true) (by omega))
      generalize (w2.drewN m1).setCell ⟨g, 3, none⟩ (.bool true) = w9 at HAb HFb HBb ⊢
      obtain ⟨d0, d1, d2, d3, d4, d5, d6, d7, d8, d9, d10, d11, d12, d13⟩ := HBb.out.ex
      have f := HBb.out.free
      go_wp2
      refine tree_put Ev.zero rfl rfl HBb.out ?_
      rw [HZ.out]
      exact ⟨_, _, _, rfl, HAb.out.put _ (by omega), HFb.out.put _ (by have := HJ.out; omega)⟩
    case false =>
      go_wp2_with (first
        | (go_at_call 59; refine (NM.out _).mono ?_; rintro e w' ⟨rfl, rfl⟩)
        | (go_at_call 18; refine PK.out.mono ?_; rintro e w' ⟨rfl, m1, rfl⟩))
      clear b3 bf PK NM
      have HA2 := Lib.hid (HA2.out.drewN m1)
      have HF2 := Lib.hid (HF2.out.trans (Fr.drewN _ _ m1))
      have HB4 := Lib.hid (HB4.out.drewN m1)
      have HB5 := Lib.hid (HB5.out.drewN m1)
      have HB6 := Lib.hid (HB6.out.drewN m1)
      have HB7 := Lib.hid (HB7.out.drewN m1)
      generalize w2.drewN m1 = w3 at HA2 HF2 HB4 HB5 HB6 HB7 ⊢
      by_cases hcol : pk r1 = 58
      · have HZ : Hid (placeP sheet r = if (cellP r1.tail).ok = false ∨ isNamed (pk (cellP r1.tail).rest) = true then .bad
              else .ok (.area sheet col row (cellP r1.tail).col (cellP r1.tail).row fa fb (cellP r1.tail).fa (cellP r1.tail).fb) (cellP r1.tail).rest) := Lib.hid ((HGO.out (by trivial) HY.out).trans (if_pos hcol))
        refine (one_yes 58 g s r1 d false w3 HA2.out hcol (by decide)).mono ?_
        rintro e w4 ⟨rfl, hA4, hF4⟩
        have HA2 := Lib.hid hA4
        have HF2 := Lib.hid (HF2.out.trans hF4)
        have HB4 := Lib.hid (HB4.out.fr hF4 (by omega))
        have HB5 := Lib.hid (HB5.out.fr hF4 (by omega))
        have HB6 := Lib.hid (HB6.out.fr hF4 (by omega))
        have HB7 := Lib.hid (HB7.out.fr hF4 (by omega))
        clear hA4 hF4 hcol
        generalize r1.tail = r2 at HA2 HZ
        have x0 := HB5.out.ex.c0
        have y0 := HB5.out.free
        go_upto_region 10 with fail
        clear x0 y0
        have h5 := HB5.out.set 0 (.string ⟨#[97, 114, 101, 97]⟩)
        rw [exCells_0] at h5
        have HB5 := Lib.hid h5
        have HB4 := Lib.hid (HB4.out.other (k := j + 1) 0 (.string ⟨#[97, 114, 101, 97]⟩) (by omega))
        have HB6 := Lib.hid (HB6.out.other (k := j + 1) 0 (.string ⟨#[97, 114, 101, 97]⟩) (by omega))
        have HB7 := Lib.hid (HB7.out.other (k := j + 1) 0 (.string ⟨#[97, 114, 101, 97]⟩) (by omega))
        have HA2 := Lib.hid (HA2.out.other (k := j + 1) 0 (.string ⟨#[97, 114, 101, 97]⟩) (by omega))
        have HF2 := Lib.hid (HF2.out.own (j := j + 1) 0 (.string ⟨#[97, 114, 101, 97]⟩) (by have := HJ.out; omega))
        clear h5
        generalize w4.setCell ⟨j + 1, 0, none⟩ (.string ⟨#[97, 114, 101, 97]⟩) = w5 at HA2 HF2 HB4 HB5 HB6 HB7 ⊢
        have CL := Lib.hid (cell_any g s r2 d false w5 HA2.out)
        obtain ⟨C2, hC2⟩ : ∃ C2, cellP r2 = C2 := ⟨_, rfl⟩
        rw [hC2] at CL HZ
        clear hC2
        obtain ⟨col2, row2, ga, gb, hok, r3⟩ := C2
        simp only at HZ
        unfold CellPost at CL
        simp only at CL
        go_wp2_with fail
        refine CL.out.mono ?_
        rintro e w6 ⟨rfl, hA6, hF6⟩
        have HA2 := Lib.hid hA6
        have HF2 := Lib.hid (HF2.out.trans hF6)
        have HB4 := Lib.hid (HB4.out.fr hF6 (by omega))
        have HB5 := Lib.hid (HB5.out.fr hF6 (by omega))
        have HB6 := Lib.hid (HB6.out.fr hF6 (by omega))
        have HB7 := Lib.hid (HB7.out.fr hF6 (by omega))
        clear hA6 hF6 CL
        have x4 := HB5.out.ex.c6
        have x5 := HB5.out.ex.c7
        have x6 : w6.cell? ⟨j + 1 + 1 + 1, 0, none⟩ = some (.bool false) := HB7.out.cell 0
        have x7 : w6.cell? ⟨j + 1 + 1 + 1, 1, none⟩ = some (.bool false) := HB7.out.cell 1
        have y4 := HB5.out.free
        have y6 := HB7.out.free
        go_upto_region 11 with (fail)
        clear x4 x5 x6 x7 y4 y6
        have HB4 := Lib.hid ((((HB4.out.other (k := j + 1) 6 (.int .i64 col2) (by omega)).other (k := j + 1) 7 (.int .i64 row2) (by omega)).other (k := j + 1 + 1 + 1) 0 (.bool ga) (by omega)).other (k := j + 1 + 1 + 1) 1 (.bool gb) (by omega))
        have HB6 := Lib.hid ((((HB6.out.other (k := j + 1) 6 (.int .i64 col2) (by omega)).other (k := j + 1) 7 (.int .i64 row2) (by omega)).other (k := j + 1 + 1 + 1) 0 (.bool ga) (by omega)).other (k := j + 1 + 1 + 1) 1 (.bool gb) (by omega))
        have HB7 : Hid (Box ((((w6.setCell ⟨j + 1, 6, none⟩ (.int .i64 col2)).setCell ⟨j + 1, 7, none⟩ (.int .i64 row2)).setCell ⟨j + 1 + 1 + 1, 0, none⟩ (.bool ga)).setCell ⟨j + 1 + 1 + 1, 1, none⟩ (.bool gb)) (j + 1 + 1 + 1) #[.bool ga, .bool gb] 87) := ((((HB7.out.other (k := j + 1) 6 (.int .i64 col2) (by omega)).other (k := j + 1) 7 (.int .i64 row2) (by omega)).set 0 (.bool ga)).set 1 (.bool gb))
        have h5 := (HB5.out.set 6 (.int .i64 col2)).set 7 (.int .i64 row2)
        rw [exCells_6, exCells_7] at h5
        have HB5 := Lib.hid ((h5.other (k := j + 1 + 1 + 1) 0 (.bool ga) (by omega)).other (k := j + 1 + 1 + 1) 1 (.bool gb) (by omega))
        have HA2 := Lib.hid ((((HA2.out.other (k := j + 1) 6 (.int .i64 col2) (by omega)).other (k := j + 1) 7 (.int .i64 row2) (by omega)).other (k := j + 1 + 1 + 1) 0 (.bool ga) (by omega)).other (k := j + 1 + 1 + 1) 1 (.bool gb) (by omega))
        have HF2 := Lib.hid ((((HF2.out.own (j := j + 1) 6 (.int .i64 col2) (by have := HJ.out; omega)).own (j := j + 1) 7 (.int .i64 row2) (by have := HJ.out; omega)).own (j := j + 1 + 1 + 1) 0 (.bool ga) (by have := HJ.out; omega)).own (j := j + 1 + 1 + 1) 1 (.bool gb) (by have := HJ.out; omega))
        clear h5
        generalize ((((w6.setCell ⟨j + 1, 6, none⟩ (.int .i64 col2)).setCell ⟨j + 1, 7, none⟩ (.int .i64 row2)).setCell ⟨j + 1 + 1 + 1, 0, none⟩ (.bool ga)).setCell ⟨j + 1 + 1 + 1, 1, none⟩ (.bool gb)) = w7 at HA2 HF2 HB4 HB5 HB6 HB7 ⊢
        have HBAD2 : Hid (hok = false → placeP sheet r = .bad) := Lib.hid (fun h => HZ.out.trans (if_pos (.inl h)))
        have HNAM2 : Hid (isNamed (pk r3) = true → placeP sheet r = .bad) := Lib.hid (fun h => HZ.out.trans (if_pos (.inr h)))
        have HGO2 : Hid (hok = true → isNamed (pk r3) = false → placeP sheet r = .ok (.area sheet col row col2 row2 fa fb ga gb) r3) := Lib.hid (fun h1 h2 => HZ.out.trans (if_neg (by rw [h1, h2]; simp)))
        clear HZ HGO HNAM HBAD HY
        have b3 := HA2.out.c3
        have bf := HA2.out.free 3
        have PK := Lib.hid (peek_any g s r3 d false w7 HA2.out)
        have NM := Lib.hid (fun w => named_any (pk r3) w)
        obtain ⟨y, hy⟩ : ∃ y, isNamed (pk r3) = y := ⟨_, rfl⟩
        have HY := Lib.hid hy
        rw [hy] at NM
        clear hy
        cases hok
        case false =>
          have HZ := Lib.hid (HBAD2.out (by trivial))
          go_upto_region 13 with fail
          clear b3 bf PK NM
          have HAb := Lib.hid (HA2.out.setBad true)
          have HFb := Lib.hid (HF2.out.trans (Fr.set g 3 (.bool true)))
          have HBb := Lib.hid (HB4.out.other (k := g) 3 (.bool true) (by omega))
          generalize w7.setCell ⟨g, 3, none⟩ (.bool true) = w9 at HAb HFb HBb ⊢
          obtain ⟨d0, d1, d2, d3, d4, d5, d6, d7, d8, d9, d10, d11, d12, d13⟩ := HBb.out.ex
          have f := HBb.out.free
          go_wp2
          refine tree_put Ev.zero rfl rfl HBb.out ?_
          rw [HZ.out]
          exact ⟨_, _, _, rfl, HAb.out.put _ (by omega), HFb.out.put _ (by have := HJ.out; omega)⟩
        case true =>
          cases y
          case true =>
            have HZ := Lib.hid (HNAM2.out HY.out)
            go_upto_region 13 with (first
              | (go_at_call 59; refine (NM.out _).mono ?_; rintro e w' ⟨rfl, rfl⟩)
              | (go_at_call 18; refine PK.out.mono ?_; rintro e w' ⟨rfl, m1, rfl⟩))
            clear b3 bf PK NM
            have HA2 := Lib.hid (HA2.out.drewN m1)
            have HF2 := Lib.hid (HF2.out.trans (Fr.drewN _ _ m1))
            have HB4 := Lib.hid (HB4.out.drewN m1)
            have HAb := Lib.hid (HA2.out.setBad true)
            have HFb := Lib.hid (HF2.out.trans (Fr.set g 3 (.bool true)))
            have HBb := Lib.hid (HB4.out.other (k := g) 3 (.bool true) (by omega))
            generalize (w7.drewN m1).setCell ⟨g, 3, none⟩ (.bool true) = w9 at HAb HFb HBb ⊢
            obtain ⟨d0, d1, d2, d3, d4, d5, d6, d7, d8, d9, d10, d11, d12, d13⟩ := HBb.out.ex
            have f := HBb.out.free
            go_wp2
            refine tree_put Ev.zero rfl rfl HBb.out ?_
            rw [HZ.out]
            exact ⟨_, _, _, rfl, HAb.out.put _ (by omega), HFb.out.put _ (by have := HJ.out; omega)⟩
          case false =>
            go_upto_region 14 with (first
              | (go_at_call 59; refine (NM.out _).mono ?_; rintro e w' ⟨rfl, rfl⟩)
              | (go_at_call 18; refine PK.out.mono ?_; rintro e w' ⟨rfl, m1, rfl⟩))
            clear b3 bf PK NM
            have HA2 := Lib.hid (HA2.out.drewN m1)
            have HF2 := Lib.hid (HF2.out.trans (Fr.drewN _ _ m1))
            have HB4 := Lib.hid (HB4.out.drewN m1)
            have HB5 := Lib.hid (HB5.out.drewN m1)
            have HB6 := Lib.hid (HB6.out.drewN m1)
            have HB7 := Lib.hid (HB7.out.drewN m1)
            have HZ := Lib.hid (HGO2.out (by trivial) HY.out)
            generalize w7.drewN m1 = w8 at HA2 HF2 HB4 HB5 HB6 HB7 ⊢
            have x60 : w8.cell? ⟨j + 1 + 1, 0, none⟩ = some (.bool fa) := HB6.out.cell 0
            have x61 : w8.cell? ⟨j + 1 + 1, 1, none⟩ = some (.bool fb) := HB6.out.cell 1
            have x70 : w8.cell? ⟨j + 1 + 1 + 1, 0, none⟩ = some (.bool ga) := HB7.out.cell 0
            have x71 : w8.cell? ⟨j + 1 + 1 + 1, 1, none⟩ = some (.bool gb) := HB7.out.cell 1
            have e8 := HB5.out.ex.c8
            have e9 := HB5.out.ex.c9
            have e10 := HB5.out.ex.c10
            have e11 := HB5.out.ex.c11
            have f := HB5.out.free
            go_upto_region 15 with fail
            clear x60 x61 x70 x71 e8 e9 e10 e11 f
            have h5 := (((HB5.out.set 8 (.bool fa)).set 9 (.bool fb)).set 10 (.bool ga)).set 11 (.bool gb)
            rw [exCells_f] at h5
            have HB5 := Lib.hid h5
            have HB4 := Lib.hid ((((HB4.out.other (k := j + 1) 8 (.bool fa) (by omega)).other (k := j + 1) 9 (.bool fb) (by omega)).other (k := j + 1) 10 (.bool ga) (by omega)).other (k := j + 1) 11 (.bool gb) (by omega))
            have HA := Lib.hid ((((HA2.out.other (k := j + 1) 8 (.bool fa) (by omega)).other (k := j + 1) 9 (.bool fb) (by omega)).other (k := j + 1) 10 (.bool ga) (by omega)).other (k := j + 1) 11 (.bool gb) (by omega))
            have HF := Lib.hid ((((HF2.out.own (j := j + 1) 8 (.bool fa) (by have := HJ.out; omega)).own (j := j + 1) 9 (.bool fb) (by have := HJ.out; omega)).own (j := j + 1) 10 (.bool ga) (by have := HJ.out; omega)).own (j := j + 1) 11 (.bool gb) (by have := HJ.out; omega))
            clear h5
            generalize ((((w8.setCell ⟨j + 1, 8, none⟩ (.bool fa)).setCell ⟨j + 1, 9, none⟩ (.bool fb)).setCell ⟨j + 1, 10, none⟩ (.bool ga)).setCell ⟨j + 1, 11, none⟩ (.bool gb)) = wz at HA HF HB4 HB5 ⊢
            obtain ⟨d0, d1, d2, d3, d4, d5, d6, d7, d8, d9, d10, d11, d12, d13⟩ := HB4.out.ex
            obtain ⟨e0, e1, e2, e3, e4, e5, e6, e7, e8, e9, e10, e11, e12, e13⟩ := HB5.out.ex
            have f := HB4.out.free
            go_wp2
            refine tree_put { Ev.zero with op := sArea, sheet := bs sheet, c := col, r := row, c2 := col2, r2 := row2, f0 := fa, f1 := fb, f2 := ga, f3 := gb } rfl rfl HB4.out ?_
            rw [HZ.out]
            exact ⟨_, rfl, rfl, HA.out.put _ (by omega), HF.out.put _ (by have := HJ.out; omega)⟩
      · have HZ : Hid (placeP sheet r = .ok (.cell sheet col row fa fb) r1) := Lib.hid ((HGO.out (by trivial) HY.out).trans (if_neg hcol))
        refine (one_no 58 g s r1 d false w3 HA2.out hcol).mono ?_
        rintro e w4 ⟨rfl, m2, rfl⟩
        have HA2 := Lib.hid (HA2.out.drewN m2)
        have HF2 := Lib.hid (HF2.out.trans (Fr.drewN _ _ m2))
        have HB4 := Lib.hid (HB4.out.drewN m2)
        have HB5 := Lib.hid (HB5.out.drewN m2)
        have HB6 := Lib.hid (HB6.out.drewN m2)
        have HB7 := Lib.hid (HB7.out.drewN m2)
        clear hcol
        have x60 : (w3.drewN m2).cell? ⟨j + 1 + 1, 0, none⟩ = some (.bool fa) := HB6.out.cell 0
        have x61 : (w3.drewN m2).cell? ⟨j + 1 + 1, 1, none⟩ = some (.bool fb) := HB6.out.cell 1
        have x70 : (w3.drewN m2).cell? ⟨j + 1 + 1 + 1, 0, none⟩ = some (.bool false) := HB7.out.cell 0
        have x71 : (w3.drewN m2).cell? ⟨j + 1 + 1 + 1, 1, none⟩ = some (.bool false) := HB7.out.cell 1
        have e8 := HB5.out.ex.c8
        have e9 := HB5.out.ex.c9
        have e10 := HB5.out.ex.c10
        have e11 := HB5.out.ex.c11
        have f := HB5.out.free
        go_upto_region 15 with fail
        clear x60 x61 x70 x71 e8 e9 e10 e11 f
        have h5 := (((HB5.out.set 8 (.bool fa)).set 9 (.bool fb)).set 10 (.bool false)).set 11 (.bool false)
        rw [exCells_f] at h5
        have HB5 := Lib.hid h5
        have HB4 := Lib.hid ((((HB4.out.other (k := j + 1) 8 (.bool fa) (by omega)).other (k := j + 1) 9 (.bool fb) (by omega)).other (k := j + 1) 10 (.bool false) (by omega)).other (k := j + 1) 11 (.bool false) (by omega))
        have HA := Lib.hid ((((HA2.out.other (k := j + 1) 8 (.bool fa) (by omega)).other (k := j + 1) 9 (.bool fb) (by omega)).other (k := j + 1) 10 (.bool false) (by omega)).other (k := j + 1) 11 (.bool false) (by omega))
        have HF := Lib.hid ((((HF2.out.own (j := j + 1) 8 (.bool fa) (by have := HJ.out; omega)).own (j := j + 1) 9 (.bool fb) (by have := HJ.out; omega)).own (j := j + 1) 10 (.bool false) (by have := HJ.out; omega)).own (j := j + 1) 11 (.bool false) (by have := HJ.out; omega))
        clear h5
        generalize (((((w3.drewN m2).setCell ⟨j + 1, 8, none⟩ (.bool fa)).setCell ⟨j + 1, 9, none⟩ (.bool fb)).setCell ⟨j + 1, 10, none⟩ (.bool false)).setCell ⟨j + 1, 11, none⟩ (.bool false)) = wz at HA HF HB4 HB5 ⊢
        obtain ⟨d0, d1, d2, d3, d4, d5, d6, d7, d8, d9, d10, d11, d12, d13⟩ := HB4.out.ex
        obtain ⟨e0, e1, e2, e3, e4, e5, e6, e7, e8, e9, e10, e11, e12, e13⟩ := HB5.out.ex
        have f := HB4.out.free
        go_wp2
        refine tree_put { Ev.zero with op := sCell, sheet := bs sheet, c := col, r := row, f0 := fa, f1 := fb } rfl rfl HB4.out ?_
        rw [HZ.out]
        exact ⟨_, rfl, rfl, HA.out.put _ (by omega), HF.out.put _ (by have := HJ.out; omega)⟩

end Go.Proofs.YtfeffdjnjckjaaaGreatDoor.Rg
