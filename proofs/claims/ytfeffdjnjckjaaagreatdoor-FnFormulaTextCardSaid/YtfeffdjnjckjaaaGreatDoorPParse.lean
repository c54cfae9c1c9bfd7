/- Parse: the whole text is read. -/
import Derived.Test.YtfeffdjnjckjaaaGreatDoorJTot
import Derived.BigQuiet
namespace Go.Proofs.YtfeffdjnjckjaaaGreatDoor.Rg
open Go.RowKit

/-- What Parse answers. -/
def parsP (s : ByteArray) : Option Ex :=
  if 8192 < s.size then none
  else match lv (7 * s.size + 7) 1 0 s.data.toList with
    | .ok x r => if blk r = [] then some x else none
    | _ => none
def ParsePost (w : World) (s : ByteArray) (e : Ending) (w' : World) : Prop :=
  Below w.heap.size w w' ∧ match parsP s with
    | some x => ∃ v : Ev, e = .returned (.tuple #[v.val, .bool true]) ∧ IsEx w' (From w.heap.size) x v
    | none => ∃ v : Ev, e = .returned (.tuple #[v.val, .bool false])

theorem tree_ret2 {fn : Func} {Q : Ending → World → Prop} {tmps : Array Value} {W : World} {j p q : Nat} {v : Ev} {b : Bool} (hres : fn.results = #[.cell p 25, .tmp q]) (htm : tmps[p]?.getD undef = .pointer (some ⟨j, 0, none⟩)) (htq : tmps[q]?.getD undef = .bool b) (hB : Box W j (exCells v) 25) (hq : Q (.returned (.tuple #[v.val, .bool b])) W) : bodyPost Tryz.prog fn Q Exit.ret { tmps := tmps, defers := [] } W := by
  obtain ⟨c0, c1, c2, c3, c4, c5, c6, c7, c8, c9, c10, c11, c12, c13⟩ := hB.ex
  refine bodyPost_ret (v := .tuple #[v.val, .bool b]) ?_ rfl hq
  simp only [results, hres]
  simp [go_sem, htm, htq, c0, c1, c2, c3, c4, c5, c6, c7, c8, c9, c10, c11, c12, c13, Ev.val]

theorem tree_put2 {fn : Func} {Q : Ending → World → Prop} {tmps : Array Value} {W : World} {j p q : Nat} {u : Ev} {b : Bool} (v : Ev) (hres : fn.results = #[.cell p 25, .tmp q]) (htm : tmps[p]?.getD undef = .pointer (some ⟨j, 0, none⟩)) (htq : tmps[q]?.getD undef = .bool b) (hB : Box W j (exCells u) 25) (hq : Q (.returned (.tuple #[v.val, .bool b])) (put14 W j v)) : bodyPost Tryz.prog fn Q Exit.ret { tmps := tmps, defers := [] } (put14 W j v) :=
  tree_ret2 hres htm htq (hB.put v) hq
theorem below_put {B j : Nat} {w w' : World} (h : Below B w w') (v : Ev) (hj : B ≤ j) : Below B w (put14 w' j v) :=
  (((((((((((((h.setCell hj _).setCell hj _).setCell hj _).setCell hj _).setCell hj _).setCell hj _).setCell hj _).setCell hj _).setCell hj _).setCell hj _).setCell hj _).setCell hj _).setCell hj _).setCell hj _
theorem below_fr {B g : Nat} {w w1 w2 : World} (h : Below B w w1) (hf : Fr w1 w2 g) (hg : B ≤ g) (hB : B ≤ w1.heap.size) : Below B w w2 :=
  ⟨Eq.trans hf.os h.os, Eq.trans hf.tape h.tape, Eq.trans hf.output h.output, Nat.le_trans h.size hf.size, fun i hi => Eq.trans (hf.block i (by omega) (by simp; omega)) (h.block i hi)⟩

set_option maxHeartbeats 16000000 in
set_option maxRecDepth 100000 in
theorem parse_any (s : ByteArray) (w : World) : Calls Tryz.prog 4 #[.string s] w (ParsePost w s) := by
  obtain ⟨j, hj⟩ : ∃ j, w.heap.size = j := ⟨_, rfl⟩
  obtain ⟨W, hW⟩ : ∃ W, w.alloc (.cells (exCells Ev.zero) 25) = W := ⟨_, rfl⟩
  have HF : Hid (Below w.heap.size w W) := by subst hW; exact Lib.hid ((Below.refl _ _).alloc (Nat.le_refl _) _)
  have HB : Hid (Box W j (exCells Ev.zero) 25) := by subst hW; subst hj; exact Box.made _ _ _
  have hsz : Hid (W.heap.size = j + 1) := by subst hW; subst hj; exact Lib.hid (by simp)
  have HJ := Lib.hid hj
  have HW := Lib.hid hW
  clear hj hW
  unfold exCells at HW
  simp only [Ev.zero] at HW
  by_cases hl : 8192 < s.size
  · have hd : decide (8192 < (s.size : Int)) = true := by simp; omega
    have HP : Hid (parsP s = none) := Lib.hid (if_pos hl)
    go_enter Tryz.func4, Tryz.ntmps4
    go_upto_region 1 with fail
    rw [HJ.out, HW.out]
    clear HW
    obtain ⟨x0, x1, x2, x3, x4, x5, x6, x7, x8, x9, x10, x11, x12, x13⟩ := HB.out.ex
    have ff := HB.out.free
    go_wp2
    refine tree_put2 Ev.zero rfl rfl rfl HB.out ?_
    refine ⟨below_put HF.out _ (by have := HJ.out; omega), ?_⟩
    rw [HP.out]
    exact ⟨_, rfl⟩
  · have hd : decide (8192 < (s.size : Int)) = false := by simp; omega
    obtain ⟨j2, hj2⟩ : ∃ j2, W.heap.size = j2 := ⟨_, rfl⟩
    obtain ⟨W2, hW2⟩ : ∃ W2, W.alloc (.cells #[.string s, .int .i64 0, .int .i64 0, .bool false] 37) = W2 := ⟨_, rfl⟩
    have hjj : j < j2 := hj2 ▸ HB.out.lt
    have HA : Hid (At W2 j2 s s.data.toList 0 false) := by
      have h0 : (s.size : Int) - (s.data.toList.length : Int) = 0 := by
        have : s.data.toList.length = s.size := by simp
        omega
      have h1 := Box.made W #[.string s, .int .i64 0, .int .i64 0, .bool false] 37
      refine Lib.hid ⟨?_, List.suffix_refl _, by omega⟩
      subst hW2; subst hj2
      rw [h0]
      exact h1
    have hlt2 := HA.out.lt
    have HB2 : Hid (Box W2 j (exCells Ev.zero) 25) := by subst hW2; exact Lib.hid (HB.out.alloc _)
    have HF2 : Hid (Below w.heap.size w W2) := by subst hW2; exact Lib.hid (HF.out.alloc (by have := HF.out.size; omega) _)
    have HJ2 := Lib.hid hj2
    have HW2 := Lib.hid hW2
    clear hj2 hW2 HF HB
    have HL := Lib.hid hl
    clear hl
    go_enter Tryz.func4, Tryz.ntmps4
    go_wp2_with fail
    rw [HJ.out, HW.out]
    clear HW
    have hjz : j + 1 = j2 := by
      rw [← HJ2.out, hsz.out]
    rw [hjz, HW2.out]
    clear HW2
    have htot : lv (7 * s.size + 7) 1 0 s.data.toList ≠ .out := lv_tot _ 1 0 _ (by
      have : s.data.toList.length = s.size := by simp
      omega) (by omega) (by omega)
    have HT := Lib.hid htot
    refine (lv_ok (7 * s.size + 7) 1 j2 s s.data.toList 0 W2 HA.out (by omega) (by omega) (by omega) htot).mono ?_
    intro e w9 hpost
    obtain ⟨v, r3, d3, b3, rfl, hA, hF, hv⟩ := argPost_open (f := fun d r => lv (7 * s.size + 7) 1 d r) htot hpost
    clear hpost
    have hV := Box.made w9 (exCells v) 25
    unfold Ev.val
    go_wp2_with fail
    have HA := Lib.hid (hA.alloc (.cells (exCells v) 25))
    have hbel : Below w9.heap.size w9 (w9.alloc (.cells (exCells v) 25)) := (Below.refl _ _).alloc (Nat.le_refl _) _
    have hj29 : j2 < w9.heap.size := hA.lt
    have hw2 : w.heap.size ≤ W2.heap.size := HF2.out.size
    have HF9 := Lib.hid (below_fr (below_fr HF2.out hF (by have := HJ.out; omega) hw2) (Fr.of_below j2 hbel) (by have := HJ.out; omega) (Nat.le_trans hw2 hF.size))
    have HB9 := Lib.hid ((HB2.out.fr hF (by omega)).below hbel)
    have HX : Hid ((b3 = true ∧ parsP s = none) ∨ (b3 = false ∧ ∃ x, parsP s = (if blk r3 = [] then some x else none) ∧ IsEx (w9.alloc (.cells (exCells v) 25)) (From W2.heap.size) x v)) := by
      refine Lib.hid ?_
      have hp : parsP s = _ := if_neg HL.out
      rcases hv with ⟨h1, h2⟩ | ⟨h1, _, x, h3, h4⟩
      · rw [h2] at hp
        exact .inl ⟨h1, hp⟩
      · rw [h3] at hp
        exact .inr ⟨h1, x, hp, h4.below hbel⟩
    clear hA hF hv HT HF2 HB2 htot hd
    obtain ⟨wz, hwz⟩ : ∃ wz, w9.alloc (.cells (exCells v) 25) = wz := ⟨_, rfl⟩
    rw [hwz] at HA HF9 HB9 HX hV hbel
    unfold exCells at hwz
    rw [hwz]
    clear hwz hbel
    have HV := Lib.hid hV
    clear hV
    generalize w9.heap.size = j3 at HV hj29 ⊢
    refine (blanks_any j2 s r3 d3 b3 wz HA.out).mono ?_
    rintro e w8 ⟨rfl, hA, hF⟩
    have HX2 := HX
    have c0 := hA.c0
    have c1 := hA.c1
    have c3 := hA.c3
    have HF8 := Lib.hid (below_fr HF9.out hF (by have := HJ.out; omega) (by have := HF9.out.size; omega))
    have HB8 := Lib.hid (HB9.out.fr hF (by omega))
    have HV8 := Lib.hid (HV.out.fr hF (by omega))
    have HA8 := Lib.hid hA
    have HFr := Lib.hid hF
    clear hA hF HA HX2
    cases b3 with
    | true =>
      have HP : Hid (parsP s = none) := by
        rcases HX.out with ⟨_, h⟩ | ⟨h, _⟩
        · exact Lib.hid h
        · cases h
      go_wp2
      go_quiet (fail)
      have HF8 := Lib.hid (below_fr HF8.out (Fr.drewN w8 j2 nq) (by have := HJ.out; omega) HF8.out.size)
      have HB8 := Lib.hid (HB8.out.below (below_drewN w8 nq))
      generalize w8.drewN nq = wq at HF8 HB8 ⊢
      obtain ⟨x0, x1, x2, x3, x4, x5, x6, x7, x8, x9, x10, x11, x12, x13⟩ := HB8.out.ex
      have ff := HB8.out.free
      go_wp2
      refine tree_put2 Ev.zero rfl rfl rfl HB8.out ?_
      refine ⟨below_put HF8.out _ (by have := HJ.out; omega), ?_⟩
      rw [HP.out]
      exact ⟨_, rfl⟩
    | false =>
      obtain ⟨x, hp, hx⟩ : ∃ x, parsP s = (if blk r3 = [] then some x else none) ∧ IsEx wz (From W2.heap.size) x v := by
        rcases HX.out with ⟨h, _⟩ | ⟨_, h⟩
        · cases h
        · exact h
      have hx8 := hx.fr HFr.out (fun h => by unfold From at h; omega)
      by_cases hr : blk r3 = []
      · rw [if_pos hr] at hp
        have HP := Lib.hid hp
        have HX8 := Lib.hid hx8
        rw [hr] at c1
        have hlt : decide ((s.size : Int) - (([] : List UInt8).length : Int) < (s.size : Int)) = false := by simp
        clear hp hx8 hx HX HA8 HFr hr
        go_wp2
        go_quiet (fail)
        have HF8 := Lib.hid (below_fr HF8.out (Fr.drewN w8 j2 nq) (by have := HJ.out; omega) HF8.out.size)
        have HB8 := Lib.hid (HB8.out.below (below_drewN w8 nq))
        have HV8 := Lib.hid (HV8.out.below (below_drewN w8 nq))
        have HX8 := Lib.hid (HX8.out.below (below_drewN w8 nq))
        generalize w8.drewN nq = wq at HF8 HB8 HV8 HX8 ⊢
        obtain ⟨x0, x1, x2, x3, x4, x5, x6, x7, x8, x9, x10, x11, x12, x13⟩ := HB8.out.ex
        obtain ⟨y0, y1, y2, y3, y4, y5, y6, y7, y8, y9, y10, y11, y12, y13⟩ := HV8.out.ex
        have ff := HB8.out.free
        go_wp2
        refine tree_put2 v rfl rfl rfl HB8.out ?_
        refine ⟨below_put HF8.out _ (by have := HJ.out; omega), ?_⟩
        rw [HP.out]
        exact ⟨_, rfl, (HX8.out.put (fun h => by unfold From at h; omega)).mono (fun k h _ => by unfold From at h ⊢; omega)⟩
      · rw [if_neg hr] at hp
        have HP := Lib.hid hp
        have hpos : 0 < (blk r3).length := List.length_pos_iff.mpr hr
        have hlt : decide ((s.size : Int) - ((blk r3).length : Int) < (s.size : Int)) = true := by simp; omega
        clear hp hx8 hx HX HA8 HFr hr hpos
        go_wp2
        go_quiet (fail)
        have HF8 := Lib.hid (below_fr HF8.out (Fr.drewN w8 j2 nq) (by have := HJ.out; omega) HF8.out.size)
        have HB8 := Lib.hid (HB8.out.below (below_drewN w8 nq))
        generalize w8.drewN nq = wq at HF8 HB8 ⊢
        obtain ⟨x0, x1, x2, x3, x4, x5, x6, x7, x8, x9, x10, x11, x12, x13⟩ := HB8.out.ex
        have ff := HB8.out.free
        go_wp2
        refine tree_put2 Ev.zero rfl rfl rfl HB8.out ?_
        refine ⟨below_put HF8.out _ (by have := HJ.out; omega), ?_⟩
        rw [HP.out]
        exact ⟨_, rfl⟩

end Go.Proofs.YtfeffdjnjckjaaaGreatDoor.Rg
