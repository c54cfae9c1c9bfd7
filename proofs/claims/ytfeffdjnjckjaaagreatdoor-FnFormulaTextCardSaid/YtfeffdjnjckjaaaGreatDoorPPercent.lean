/- The reader reads a signed thing, and percents behind it. -/
import Derived.Test.YtfeffdjnjckjaaaGreatDoorPSigned
namespace Go.Proofs.YtfeffdjnjckjaaaGreatDoor.Rg
open Go.RowKit

/-- What has been read, in a box of its own. -/
def Got (w : World) (B : Nat) (d : Nat) (res : R) (cont : Ex → R) (d' : Int) (b : Bool) (v : Ev) : Prop :=
  (b = true ∧ res = .bad) ∨ (b = false ∧ d' = (d : Int) ∧ ∃ x, cont x = res ∧ IsEx w (From B) x v)
theorem Got.keep {w w' : World} {B d : Nat} {res : R} {cont : Ex → R} {d' : Int} {b : Bool} {v : Ev} (h : Got w B d res cont d' b v) (hz : w.heap.size ≤ w'.heap.size) (hs : ∀ g, B ≤ g → g < w.heap.size → Same w w' g) : Got w' B d res cont d' b v := by
  rcases h with h | ⟨h1, h2, x, h3, h4⟩
  · exact .inl h
  · exact .inr ⟨h1, h2, x, h3, IsEx.keep hz (fun g a1 a2 => ⟨hs g a1 a2, a1⟩) x v h4⟩
theorem Got.fr {w w' : World} {g B d : Nat} {res : R} {cont : Ex → R} {d' : Int} {b : Bool} {v : Ev} (h : Got w B d res cont d' b v) (hf : Fr w w' g) (hg : g < B) : Got w' B d res cont d' b v :=
  h.keep hf.size (fun k h1 h2 => hf.block k h2 (by simp; omega))
theorem Got.below {w w' : World} {B d : Nat} {res : R} {cont : Ex → R} {d' : Int} {b : Bool} {v : Ev} (h : Got w B d res cont d' b v) (hf : Below w.heap.size w w') : Got w' B d res cont d' b v :=
  h.keep hf.size (fun k _ h2 => hf.block k h2)
/-- What has been read is returned. -/
theorem Got.done {w w0 : World} {g j B d : Nat} {s : ByteArray} {res : R} {cont : Ex → R} {d' : Int} {b : Bool} {v : Ev} {r : List UInt8} (h : Got w B d res cont d' b v) (hc : b = false → ∀ x, cont x = .ok x r) (hA : At w g s r d' b) (hF : Fr w0 w g) (hg : g < j) (hj : w0.heap.size = j) (hB : j < B) : TreePost w0 g s d res (.returned v.val) (put14 w j v) := by
  rcases h with ⟨rfl, h⟩ | ⟨rfl, rfl, x, h1, h2⟩
  · rw [h]
    exact ⟨_, _, _, rfl, hA.put _ (by omega), hF.put _ (by omega)⟩
  · rw [← h1, hc rfl]
    exact ⟨_, rfl, (h2.put (fun h => by unfold From at h; omega)).mono (fun k h _ => by unfold From at h ⊢; omega), hA.put _ (by omega), hF.put _ (by omega)⟩

set_option maxHeartbeats 16000000 in
set_option maxRecDepth 100000 in
theorem percent_any (f : Nat → List UInt8 → R) (hf : LvlOk f) (g : Nat) (s : ByteArray) (r : List UInt8) (d : Nat) (w : World) (h : At w g s r d false) (hd : d ≤ 360) (hout : pctP f d r ≠ .out) :
    Calls Tryz.prog 16 #[.pointer (some ⟨g, 0, none⟩)] w (TreePost w g s d (pctP f d r)) := by
  obtain ⟨j, hj⟩ : ∃ j, w.heap.size = j := ⟨_, rfl⟩
  have hgj : g < j := hj ▸ h.lt
  obtain ⟨W, hW⟩ : ∃ W, w.alloc (.cells (exCells Ev.zero) 25) = W := ⟨_, rfl⟩
  have HA : Hid (At W g s r d false) := by subst hW; exact h.alloc _
  have HF : Hid (Fr w W g) := by subst hW; exact (Fr.refl w g).alloc _
  have HB : Hid (Box W j (exCells Ev.zero) 25) := by subst hW; subst hj; exact Box.made _ _ _
  have HJ := Lib.hid hj
  have HW := Lib.hid hW
  have HOUT := Lib.hid hout
  have HLF := Lib.hid hf
  clear hout hf
  clear h hj hW
  unfold exCells at HW
  simp only [Ev.zero] at HW
  go_enter Tryz.func16, Tryz.ntmps16
  go_wp2_with fail
  rw [HJ.out, HW.out]
  clear HW
  obtain ⟨res, hres⟩ : ∃ res, pctP f d r = res := ⟨_, rfl⟩
  have HRES := Lib.hid hres
  have hso : signedA f (r.length + 1) d r ≠ .out := by
    intro h
    apply HOUT.out
    unfold pctP
    rw [h]
  have SG : Hid (Calls Tryz.prog 22 #[.pointer (some ⟨g, 0, none⟩)] W (ArgPost (fun d r => signedA f (r.length + 1) d r) g s d W r)) := Lib.hid (signed_any f HLF.out (r.length + 1) g s r d W HA.out hd hso)
  have HOUT : Hid (res ≠ .out) := by
    rw [← hres]
    exact HOUT
  refine SG.out.mono ?_
  intro e w9 hpost
  obtain ⟨v, r3, d3, b4, rfl, hA, hF, hv⟩ := argPost_open (f := fun d r => signedA f (r.length + 1) d r) hso hpost
  have hj2 : j + 1 ≤ W.heap.size := HB.out.lt
  have hv2 : Got w9 (j + 1) d res (fun x => pctL (r3.length + 1) x r3) d3 b4 v := by
    have hp := hres
    unfold pctP at hp
    rcases hv with ⟨h1, h2⟩ | ⟨h1, h2, x, h3, h4⟩
    · have h2 : signedA f (r.length + 1) d r = .bad := h2
      rw [h2] at hp
      exact .inl ⟨h1, hp.symm⟩
    · have h3 : signedA f (r.length + 1) d r = .ok x r3 := h3
      rw [h3] at hp
      exact .inr ⟨h1, h2, x, hp, h4.lower hj2⟩
  have HX := Lib.hid hv2
  clear hpost hv hv2 SG hso hres
  have HA := Lib.hid hA
  have HF := Lib.hid (HF.out.trans hF)
  have HB := Lib.hid (HB.out.fr hF (by omega))
  clear hA hF
  have hgl : g ≠ w9.heap.size := Nat.ne_of_lt HA.out.lt
  have hjl : j < w9.heap.size := HB.out.lt
  have HA := Lib.hid (HA.out.alloc (.cells (exCells v) 25))
  have HF := Lib.hid (HF.out.alloc (.cells (exCells v) 25))
  have HB := Lib.hid (HB.out.alloc (.cells (exCells v) 25))
  have HV := Lib.hid (Box.made w9 (exCells v) 25)
  have HX := Lib.hid (HX.out.below ((Below.refl w9.heap.size w9).alloc (Nat.le_refl _) (.cells (exCells v) 25)))
  obtain ⟨wz, hwz⟩ : ∃ wz, w9.alloc (.cells (exCells v) 25) = wz := ⟨_, rfl⟩
  rw [hwz] at HA HF HB HV HX
  unfold exCells at hwz
  have HWZ := Lib.hid hwz
  clear hwz
  unfold Ev.val
  go_wp2_with fail
  rw [HWZ.out]
  clear HWZ
  generalize w9.heap.size = j3 at HV hgl hjl ⊢
  go_loopw [] (fun wr => ∃ (r' : List UInt8) (d' : Int) (b : Bool) (v : Ev) (k : Nat), Hid (At wr g s r' d' b) ∧ Hid (Fr w wr g) ∧ Hid (Box wr j (exCells Ev.zero) 25) ∧ Hid (Box wr j3 (exCells v) 25) ∧ Hid (Got wr (j + 1) d res (fun x => pctL k x r') d' b v)) (fun wr => lft wr g)
  case atStart => exact ⟨_, _, _, v, _, HA, HF, HB, HV, HX⟩
  clear HA HF HB HV HX
  case round =>
    obtain ⟨r', d', b, v, k, HA, HF, HB, HV, HX⟩ := hrel
    have b3 := HA.out.c3
    cases b with
    | true =>
      obtain ⟨x0, x1, x2, x3, x4, x5, x6, x7, x8, x9, x10, x11, x12, x13⟩ := HB.out.ex
      obtain ⟨y0, y1, y2, y3, y4, y5, y6, y7, y8, y9, y10, y11, y12, y13⟩ := HV.out.ex
      have ff := HB.out.free
      go_wp2
      refine tree_put v rfl rfl HB.out ?_
      rw [HRES.out]
      exact HX.out.done (fun h => by cases h) HA.out HF.out hgj HJ.out (by omega)
    | false =>
      have HM0 := Lib.hid HA.out.lft1
      go_wp2_with fail
      clear b3
      refine (blanks_any g s r' d' false wr HA.out).mono ?_
      rintro e w4 ⟨rfl, hA, hF⟩
      have HX := Lib.hid (HX.out.fr hF (by omega))
      have HV := Lib.hid (HV.out.fr hF hgl.symm)
      have HA := Lib.hid hA
      have HF := Lib.hid (HF.out.trans hF)
      have HB := Lib.hid (HB.out.fr hF (by omega))
      clear hA hF
      go_wp2_with fail
      obtain ⟨k1, hk1⟩ : ∃ k1, k = k1 + 1 := by
        cases k with
        | zero =>
          rcases HX.out with ⟨h, _⟩ | ⟨_, _, x, h, _⟩
          · cases h
          · exact absurd h.symm HOUT.out
        | succ k1 => exact ⟨k1, rfl⟩
      subst hk1
      by_cases h37 : pk (blk r') = 37
      · refine (one_yes 37 g s _ d' false w4 HA.out h37 (by decide)).mono ?_
        rintro e w5 ⟨rfl, hA, hF⟩
        have HX := Lib.hid (HX.out.fr hF (by omega))
        have HV := Lib.hid (HV.out.fr hF hgl.symm)
        have HA := Lib.hid hA
        have HF := Lib.hid (HF.out.trans hF)
        have HB := Lib.hid (HB.out.fr hF (by omega))
        clear hA hF
        have HH := Lib.hid h37
        have hlt : (blk r').tail.length < r'.length := by
          have h1 := congrArg List.length (quo_step h37 (by decide))
          have h2 := blk_le r'
          simp only [List.length_cons] at h1
          omega
        have HLT := Lib.hid hlt
        clear hlt h37
        obtain ⟨y0, y1, y2, y3, y4, y5, y6, y7, y8, y9, y10, y11, y12, y13⟩ := HV.out.ex
        have hbel := (Below.refl w5.heap.size w5).alloc (Nat.le_refl _) (.cells (exCells v) 25)
        have HV5 := Lib.hid (HV.out.below hbel)
        have HA5 := Lib.hid (HA.out.below hbel)
        have HF5 := Lib.hid (HF.out.trans (Fr.of_below g hbel))
        have HB5 := Lib.hid (HB.out.below hbel)
        obtain ⟨x0, x1, x2, x3, x4, x5, x6, x7, x8, x9, x10, x11, x12, x13⟩ := HV5.out.ex
        have ff := HV5.out.free
        unfold exCells at x0 x1 x2 x3 x4 x5 x6 x7 x8 x9 x10 x11 x12 x13 ff
        clear hbel
        go_wp2
        go_roundw
        case rel => exact ⟨(blk r').tail, d', false, { Ev.zero with op := sPercent, A := some ⟨w5.heap.size, 0, none⟩, n := 1, k := 1 }, k1, Lib.hid (HA5.out.put { Ev.zero with op := sPercent, A := some ⟨w5.heap.size, 0, none⟩, n := 1, k := 1 } hgl), Lib.hid (HF5.out.put { Ev.zero with op := sPercent, A := some ⟨w5.heap.size, 0, none⟩, n := 1, k := 1 } (by have := HJ.out; omega)), Lib.hid (HB5.out.putOther { Ev.zero with op := sPercent, A := some ⟨w5.heap.size, 0, none⟩, n := 1, k := 1 } (by omega)), Lib.hid (HV5.out.put { Ev.zero with op := sPercent, A := some ⟨w5.heap.size, 0, none⟩, n := 1, k := 1 }), Lib.hid (by
          rcases HX.out with ⟨h, _⟩ | ⟨h1, h2, x, h3, h4⟩
          · cases h
          · refine .inr ⟨rfl, h2, .odd, ?_, by show sPercent ∈ oddOps; simp [oddOps]⟩
            have h3 : pctL (k1 + 1) x r' = res := h3
            rw [pctL, if_pos HH.out] at h3
            exact h3)⟩
        case measure =>
          have h1 := (HA5.out.put { Ev.zero with op := sPercent, A := some ⟨w5.heap.size, 0, none⟩, n := 1, k := 1 } hgl).lft1
          refine Nat.lt_of_le_of_lt (Nat.le_of_eq h1) ?_
          rw [HM0.out]
          have := HLT.out
          omega
      · refine (one_no 37 g s _ d' false w4 HA.out h37).mono ?_
        rintro e w5 ⟨rfl, m3, rfl⟩
        have HX := Lib.hid (HX.out.below (below_drewN w4 m3))
        have HA := Lib.hid (HA.out.drewN m3)
        have HF := Lib.hid (HF.out.trans (Fr.drewN _ _ m3))
        have HB := Lib.hid (HB.out.drewN m3)
        have HV := Lib.hid (HV.out.drewN m3)
        have HH := Lib.hid h37
        clear h37
        generalize w4.drewN m3 = w5 at HX HA HF HB HV ⊢
        obtain ⟨x0, x1, x2, x3, x4, x5, x6, x7, x8, x9, x10, x11, x12, x13⟩ := HB.out.ex
        obtain ⟨y0, y1, y2, y3, y4, y5, y6, y7, y8, y9, y10, y11, y12, y13⟩ := HV.out.ex
        have ff := HB.out.free
        go_wp2
        refine tree_put v rfl rfl HB.out ?_
        rw [HRES.out]
        refine HX.out.done (r := blk r') (fun _ x => ?_) HA.out HF.out hgj HJ.out (by omega)
        show pctL (k1 + 1) x r' = .ok x (blk r')
        rw [pctL, if_neg HH.out]

end Go.Proofs.YtfeffdjnjckjaaaGreatDoor.Rg
