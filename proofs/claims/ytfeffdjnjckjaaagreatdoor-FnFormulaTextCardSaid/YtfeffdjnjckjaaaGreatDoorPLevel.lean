/- The reader reads what binds at least as tightly as a level. -/
import Derived.Test.YtfeffdjnjckjaaaGreatDoorPPercent
import Derived.Test.YtfeffdjnjckjaaaGreatDoorJShr
namespace Go.Proofs.YtfeffdjnjckjaaaGreatDoor.Rg
open Go.RowKit

/-- What is known of the reader at levels and depths, for so many rounds. -/
def LvOk (k : Nat) : Prop := ∀ (n : Nat) (g : Nat) (s : ByteArray) (r : List UInt8) (d : Nat) (w : World), At w g s r d false → d ≤ 360 → 1 ≤ n → n ≤ 6 → lv k n d r ≠ .out →
    Calls Tryz.prog 10 #[.pointer (some ⟨g, 0, none⟩), .int .i64 n] w (TreePost w g s d (lv k n d r))

set_option maxHeartbeats 16000000 in
set_option maxRecDepth 100000 in
theorem level_top (k : Nat) (hf : LvlOk (fun d r => lv k 1 d r)) (n : Nat) (hn : 5 < n) (hn6 : n ≤ 6) (g : Nat) (s : ByteArray) (r : List UInt8) (d : Nat) (w : World) (h : At w g s r d false) (hd : d ≤ 360) (hout : lv (k + 1) n d r ≠ .out) :
    Calls Tryz.prog 10 #[.pointer (some ⟨g, 0, none⟩), .int .i64 n] w (TreePost w g s d (lv (k + 1) n d r)) := by
  have HZ : Hid (lv (k + 1) n d r = pctP (fun d r => lv k 1 d r) d r) := Lib.hid (if_pos hn)
  have hn2 : (5 : Int) < (n : Int) := by omega
  have hn3 : (n : Int) ≤ 6 := by omega
  have hdn : decide (5 < (n : Int)) = true := by simp; omega
  obtain ⟨j, hj⟩ : ∃ j, w.heap.size = j := ⟨_, rfl⟩
  have hgj : g < j := hj ▸ h.lt
  obtain ⟨W, hW⟩ : ∃ W, w.alloc (.cells (exCells Ev.zero) 25) = W := ⟨_, rfl⟩
  have HA : Hid (At W g s r d false) := by subst hW; exact h.alloc _
  have HF : Hid (Fr w W g) := by subst hW; exact (Fr.refl w g).alloc _
  have HB : Hid (Box W j (exCells Ev.zero) 25) := by subst hW; subst hj; exact Box.made _ _ _
  have HJ := Lib.hid hj
  have HW := Lib.hid hW
  have HOUT := Lib.hid hout
  have HLF := Lib.hid hf
  clear hout hf hn hn6
  clear h hj hW
  unfold exCells at HW
  simp only [Ev.zero] at HW
  go_enter Tryz.func10, Tryz.ntmps10
  go_wp2_with fail
  rw [HJ.out, HW.out]
  clear HW
  have hpo : pctP (fun d r => lv k 1 d r) d r ≠ .out := fun h => HOUT.out (HZ.out.trans h)
  refine (percent_any (fun d r => lv k 1 d r) HLF.out g s r d W HA.out hd hpo).mono ?_
  intro e w9 hpost
  obtain ⟨v, rfl, hB, hT⟩ := relay hpost HF.out HB.out hgj (by have := HJ.out; omega)
  have HT9 := Lib.hid hT
  have HB9 := Lib.hid hB
  clear hpost hT hB
  obtain ⟨x0, x1, x2, x3, x4, x5, x6, x7, x8, x9, x10, x11, x12, x13⟩ := HB9.out.ex
  have ff := HB9.out.free
  unfold Ev.val
  go_wp2
  refine tree_put v rfl rfl HB9.out ?_
  rw [HZ.out]
  exact HT9.out

theorem ops_ne {n : Nat} {r o : List UInt8} (h : opAt n r = some o) : o ≠ [] := by
  have h1 := List.mem_of_find?_eq_some h
  intro e
  subst e
  revert h1
  decide
theorem op_drop {n : Nat} {r o : List UInt8} (h : opAt n r = some o) : (r.drop o.length).length < r.length := by
  have h1 := List.find?_some h
  have h2 := ops_ne h
  unfold opHit at h1
  simp only [Bool.and_eq_true, decide_eq_true_eq] at h1
  have h3 := (List.isPrefixOf_iff_prefix.mp h1.2).length_le
  have h4 : 0 < o.length := List.length_pos_iff.mpr h2
  rw [List.length_drop]
  omega
/-- Two formulas in a row of their own. -/
theorem two_row (w : World) (v u : Ev) (S : Nat → Prop) (hS : S w.heap.size) : RowOf (w.alloc (.cells (exCells v ++ exCells u) 25)) S (some ⟨w.heap.size, 0, none⟩) [v, u] := by
  intro _
  refine ⟨w.heap.size, rfl, hS, by simp, fun i x hi => ?_⟩
  have h1 := (Box.made w (exCells v ++ exCells u) 25).cell i
  rw [h1]
  have e : [v, u].flatMap Ev.cells = (exCells v ++ exCells u).toList := by
    simp [Ev.cells, exCells]
  rw [e] at hi
  rw [← Array.getElem?_toList]
  exact hi

/-- What has been read, in blocks of its own. -/
def GotX (w : World) (S : Nat → Prop) (d : Nat) (res : R) (cont : Ex → R) (d' : Int) (b : Bool) (v : Ev) : Prop :=
  (b = true ∧ res = .bad) ∨ (b = false ∧ d' = (d : Int) ∧ ∃ x, cont x = res ∧ IsEx w S x v)
theorem GotX.keep {w w' : World} {S : Nat → Prop} {d : Nat} {res : R} {cont : Ex → R} {d' : Int} {b : Bool} {v : Ev} (h : GotX w S d res cont d' b v) (hz : w.heap.size ≤ w'.heap.size) (hs : ∀ g, S g → g < w.heap.size → Same w w' g) : GotX w' S d res cont d' b v := by
  rcases h with h | ⟨h1, h2, x, h3, h4⟩
  · exact .inl h
  · exact .inr ⟨h1, h2, x, h3, IsEx.keep hz (fun g a1 a2 => ⟨hs g a1 a2, a1⟩) x v h4⟩
theorem GotX.fr {w w' : World} {g : Nat} {S : Nat → Prop} {d : Nat} {res : R} {cont : Ex → R} {d' : Int} {b : Bool} {v : Ev} (h : GotX w S d res cont d' b v) (hf : Fr w w' g) (hg : ¬ S g) : GotX w' S d res cont d' b v :=
  h.keep hf.size (fun k h1 h2 => hf.block k h2 (by simp; intro e; subst e; exact hg h1))
theorem GotX.below {w w' : World} {S : Nat → Prop} {d : Nat} {res : R} {cont : Ex → R} {d' : Int} {b : Bool} {v : Ev} (h : GotX w S d res cont d' b v) (hf : Below w.heap.size w w') : GotX w' S d res cont d' b v :=
  h.keep hf.size (fun k _ h2 => hf.block k h2)
theorem GotX.put {w : World} {j : Nat} {S : Nat → Prop} {d : Nat} {res : R} {cont : Ex → R} {d' : Int} {b : Bool} {v : Ev} (h : GotX w S d res cont d' b v) (u : Ev) (hj : ¬ S j) : GotX (put14 w j u) S d res cont d' b v :=
  h.keep (by rw [put14_size]; exact Nat.le_refl _) (fun k hk _ => Same.put _ _ _ _ (fun e => hj (by subst e; exact hk)))
/-- The blocks above B, but one. -/
def Over (B j : Nat) (k : Nat) : Prop := B ≤ k ∧ k ≠ j

set_option maxHeartbeats 16000000 in
set_option maxRecDepth 100000 in
theorem level_step (k : Nat) (hk : LvOk k) (n : Nat) (hn1 : 1 ≤ n) (hn : n ≤ 5) (g : Nat) (s : ByteArray) (r : List UInt8) (d : Nat) (w : World) (h : At w g s r d false) (hd : d ≤ 360) (hout : lv (k + 1) n d r ≠ .out) :
    Calls Tryz.prog 10 #[.pointer (some ⟨g, 0, none⟩), .int .i64 n] w (TreePost w g s d (lv (k + 1) n d r)) := by
  have hn5 : ¬ 5 < n := by omega
  have HP : Hid (lv (k + 1) n d r = if 360 < d + 1 then .bad
    else match lv k (n + 1) (d + 1) r with
      | .ok x r1 => opsP (fun r => lv k (n + 1) (d + 1) r) n (r1.length + 1) x r1
      | x => x) := Lib.hid (if_neg hn5)
  have hn2 : (1 : Int) ≤ (n : Int) := by omega
  have hn3 : (n : Int) ≤ 5 := by omega
  have hdn : decide (5 < (n : Int)) = false := by simp; omega
  clear hn5
  obtain ⟨j, hj⟩ : ∃ j, w.heap.size = j := ⟨_, rfl⟩
  have hgj : g < j := hj ▸ h.lt
  obtain ⟨W, hW⟩ : ∃ W, w.alloc (.cells (exCells Ev.zero) 25) = W := ⟨_, rfl⟩
  have HA : Hid (At W g s r d false) := by subst hW; exact h.alloc _
  have HF : Hid (Fr w W g) := by subst hW; exact (Fr.refl w g).alloc _
  have HB : Hid (Box W j (exCells Ev.zero) 25) := by subst hW; subst hj; exact Box.made _ _ _
  have HJ := Lib.hid hj
  have HW := Lib.hid hW
  have HOUT := Lib.hid hout
  have HLK := Lib.hid hk
  clear hout hk
  clear h hj hW
  unfold exCells at HW
  simp only [Ev.zero] at HW
  go_enter Tryz.func10, Tryz.ntmps10
  go_upto_region 3 with fail
  rw [HJ.out, HW.out]
  clear HW
  have c2 := HA.out.c2
  have f2 := HA.out.free 2
  go_upto_region 4 with fail
  clear c2 f2 hdn
  have HA := Lib.hid (HA.out.setDeep ((d : Int) + 1))
  have HF := Lib.hid (HF.out.trans (Fr.set g 2 (.int .i64 ((d : Int) + 1))))
  have HB := Lib.hid (HB.out.other (k := g) 2 (.int .i64 ((d : Int) + 1)) (by omega))
  generalize W.setCell ⟨g, 2, none⟩ (.int .i64 ((d : Int) + 1)) = w1 at HA HF HB ⊢
  have c2 := HA.out.c2
  have b3 := HA.out.c3
  by_cases hdeep : 360 < d + 1
  · have hdd : decide (360 < (d : Int) + 1) = true := by simp; omega
    have HZ : Hid (lv (k + 1) n d r = .bad) := Lib.hid (HP.out.trans (if_pos hdeep))
    clear hdeep
    have bf := HA.out.free 3
    go_upto_region 6 with fail
    clear b3 bf c2
    have HA := Lib.hid (HA.out.setBad true)
    have HF := Lib.hid (HF.out.trans (Fr.set g 3 (.bool true)))
    have HB := Lib.hid (HB.out.other (k := g) 3 (.bool true) (by omega))
    generalize w1.setCell ⟨g, 3, none⟩ (.bool true) = wd at HA HF HB ⊢
    have b3 := HA.out.c3
    obtain ⟨x0, x1, x2, x3, x4, x5, x6, x7, x8, x9, x10, x11, x12, x13⟩ := HB.out.ex
    have ff := HB.out.free
    go_wp2
    refine tree_put Ev.zero rfl rfl HB.out ?_
    rw [HZ.out]
    exact ⟨_, _, _, rfl, HA.out.put _ (by omega), HF.out.put _ (by have := HJ.out; omega)⟩
  · have hdd : decide (360 < (d : Int) + 1) = false := by simp; omega
    have HD : Hid (d + 1 ≤ 360) := Lib.hid (by omega)
    obtain ⟨res, hres⟩ : ∃ res, lv (k + 1) n d r = res := ⟨_, rfl⟩
    have HRES := Lib.hid hres
    have hz : res = match lv k (n + 1) (d + 1) r with
        | .ok x r1 => opsP (fun r => lv k (n + 1) (d + 1) r) n (r1.length + 1) x r1
        | x => x := hres.symm.trans (HP.out.trans (if_neg hdeep))
    have hlo : lv k (n + 1) (d + 1) r ≠ .out := by
      intro h
      apply HOUT.out
      rw [hres, hz, h]
    have HOUT : Hid (res ≠ .out) := by
      rw [← hres]
      exact HOUT
    have e1 : ((d + 1 : Nat) : Int) = (d : Int) + 1 := by omega
    have e2 : ((n + 1 : Nat) : Int) = (n : Int) + 1 := by omega
    have LV : Hid (∀ (w : World) (r : List UInt8), At w g s r ((d : Int) + 1) false → lv k (n + 1) (d + 1) r ≠ .out → Calls Tryz.prog 10 #[.pointer (some ⟨g, 0, none⟩), .int .i64 ((n : Int) + 1)] w (ArgPost (fun d r => lv k (n + 1) d r) g s (d + 1) w r)) := by
      refine Lib.hid (fun w r hA ho => ?_)
      have h1 := HLK.out (n + 1) g s r (d + 1) w (by rw [e1]; exact hA) HD.out (by omega) (by omega) ho
      rw [e2] at h1
      exact h1
    have HLO := Lib.hid hlo
    have HZ := Lib.hid hz
    clear hdeep e1 e2 hlo hz hres
    go_wp2_with fail
    clear c2 b3 hdd
    refine (LV.out w1 r HA.out HLO.out).mono ?_
    intro e w9 hpost
    obtain ⟨v, r3, d3, b4, rfl, hA, hF, hv⟩ := argPost_open (f := fun d r => lv k (n + 1) d r) HLO.out hpost
    have hj2 : j + 1 ≤ w1.heap.size := HB.out.lt
    have hv2 : GotX w9 (Over (j + 1) w9.heap.size) (d + 1) res (fun x => opsP (fun r => lv k (n + 1) (d + 1) r) n (r3.length + 1) x r3) d3 b4 v := by
      have hp := HZ.out
      rcases hv with ⟨h1, h2⟩ | ⟨h1, h2, x, h3, h4⟩
      · have h2 : lv k (n + 1) (d + 1) r = .bad := h2
        rw [h2] at hp
        exact .inl ⟨h1, hp⟩
      · have h3 : lv k (n + 1) (d + 1) r = .ok x r3 := h3
        rw [h3] at hp
        exact .inr ⟨h1, h2, x, hp.symm, h4.mono (fun k hk hl => ⟨Nat.le_trans hj2 hk, by omega⟩)⟩
    have HX := Lib.hid hv2
    clear hpost hv hv2 HLO
    have HA := Lib.hid hA
    have HF := Lib.hid (HF.out.trans hF)
    have HB := Lib.hid (HB.out.fr hF (by omega))
    clear hA hF
    have hgl : g ≠ w9.heap.size := Nat.ne_of_lt HA.out.lt
    have hjl : j < w9.heap.size := HB.out.lt
    have HA := Lib.hid (HA.out.alloc (.cells (exCells v) 25))
    have HF := Lib.hid (HF.out.alloc (.cells (exCells v) 25))
    have HB := Lib.hid (HB.out.alloc (.cells (exCells v) 25))
    have HV := Lib.hid (Box.made w9 (exCells v) 25)
    have HX := Lib.hid (HX.out.below ((Below.refl w9.heap.size w9).alloc (Nat.le_refl _) (.cells (exCells v) 25)))
    have HZ3 : Hid (w9.heap.size + 1 ≤ (w9.alloc (.cells (exCells v) 25)).heap.size) := Lib.hid (by simp)
    obtain ⟨wz, hwz⟩ : ∃ wz, w9.alloc (.cells (exCells v) 25) = wz := ⟨_, rfl⟩
    rw [hwz] at HA HF HB HV HX HZ3
    unfold exCells at hwz
    have HWZ := Lib.hid hwz
    clear hwz
    unfold Ev.val
    go_wp2_with fail
    rw [HWZ.out]
    clear HWZ
    generalize w9.heap.size = j5 at HV HX hgl hjl HZ3 ⊢
    go_loopw [] (fun wr => ∃ (r' : List UInt8) (d' : Int) (b : Bool) (v : Ev) (kk : Nat), Hid (At wr g s r' d' b) ∧ Hid (Fr w wr g) ∧ Hid (Box wr j (exCells Ev.zero) 25) ∧ Hid (Box wr j5 (exCells v) 25) ∧ Hid (GotX wr (Over (j + 1) j5) (d + 1) res (fun x => opsP (fun r => lv k (n + 1) (d + 1) r) n kk x r') d' b v)) (fun wr => lft wr g)
    case atStart => exact ⟨_, _, _, v, _, HA, HF, HB, HV, HX⟩
    clear HA HF HB HV HX HZ3
    case round =>
      obtain ⟨r', d', b, v, kk, HA, HF, HB, HV, HX⟩ := hrel
      have b3 := HA.out.c3
      cases b with
      | true =>
        have HZB : Hid (res = .bad) := by
          rcases HX.out with ⟨_, h⟩ | ⟨h, _⟩
          · exact Lib.hid h
          · cases h
        have c2 := HA.out.c2
        have f2 := HA.out.free 2
        obtain ⟨d4, hd4⟩ : ∃ d4, IntKind.i64.wrap (d' - 1) = d4 := ⟨_, rfl⟩
        go_upto_region 14 with fail
        clear b3 c2 f2 hd4
        have HA := Lib.hid (HA.out.setDeep d4)
        have HF := Lib.hid (HF.out.trans (Fr.set g 2 (.int .i64 d4)))
        have HB := Lib.hid (HB.out.other (k := g) 2 (.int .i64 d4) (by omega))
        have HV := Lib.hid (HV.out.other (k := g) 2 (.int .i64 d4) hgl.symm)
        generalize wr.setCell ⟨g, 2, none⟩ (.int .i64 d4) = wy at HA HF HB HV ⊢
        obtain ⟨x0, x1, x2, x3, x4, x5, x6, x7, x8, x9, x10, x11, x12, x13⟩ := HB.out.ex
        obtain ⟨y0, y1, y2, y3, y4, y5, y6, y7, y8, y9, y10, y11, y12, y13⟩ := HV.out.ex
        have ff := HB.out.free
        go_wp2
        refine tree_put v rfl rfl HB.out ?_
        rw [HRES.out, HZB.out]
        exact ⟨_, _, _, rfl, HA.out.put _ (by omega), HF.out.put _ (by have := HJ.out; omega)⟩
      | false =>
        have HM0 := Lib.hid HA.out.lft1
        obtain ⟨kk1, hkk⟩ : ∃ k1, kk = k1 + 1 := by
          cases kk with
          | zero =>
            rcases HX.out with ⟨h, _⟩ | ⟨_, _, x, h, _⟩
            · cases h
            · exact absurd h.symm HOUT.out
          | succ k1 => exact ⟨k1, rfl⟩
        subst hkk
        have hd1 : d' = (d : Int) + 1 := by
          rcases HX.out with ⟨h, _⟩ | ⟨_, h, _⟩
          · cases h
          · omega
        subst hd1
        go_wp2_with fail
        clear b3
        refine (operator_any g s r' ((d : Int) + 1) false n wr HA.out).mono ?_
        intro e w4 hpost
        unfold OpPost at hpost
        cases hop : opAt n (blk r') with
        | none =>
          rw [hop] at hpost
          obtain ⟨rfl, hA, hF⟩ := hpost
          have HOP := Lib.hid hop
          have HX := Lib.hid (HX.out.fr hF (fun h => by have := h.1; omega))
          have HV := Lib.hid (HV.out.fr hF hgl.symm)
          have HA := Lib.hid hA
          have HF := Lib.hid (HF.out.trans hF)
          have HB := Lib.hid (HB.out.fr hF (by omega))
          clear hA hF
          clear hop
          have c2 := HA.out.c2
          have f2 := HA.out.free 2
          have hem : ((bs ([] : List UInt8)).toList == []) = true := bs_is rfl
          have hem2 : (bs ([] : List UInt8)).toList = [] := by rw [Lib.toList_data]; rfl
          go_upto_region 14 with fail
          clear c2 f2 hem hem2
          have e4 : IntKind.i64.wrap ((d : Int) + 1 - 1) = (d : Int) := by
            rw [IntKind.wrap_i64]
            have := HD.out
            omega
          try rw [e4]
          have HA := Lib.hid (HA.out.setDeep (d : Int))
          have HF := Lib.hid (HF.out.trans (Fr.set g 2 (.int .i64 (d : Int))))
          have HB := Lib.hid (HB.out.other (k := g) 2 (.int .i64 (d : Int)) (by omega))
          have HV := Lib.hid (HV.out.other (k := g) 2 (.int .i64 (d : Int)) hgl.symm)
          have HX := Lib.hid (HX.out.fr (Fr.set g 2 (.int .i64 (d : Int))) (fun h => by have := h.1; omega))
          generalize w4.setCell ⟨g, 2, none⟩ (.int .i64 (d : Int)) = wy at HA HF HB HV HX ⊢
          obtain ⟨x0, x1, x2, x3, x4, x5, x6, x7, x8, x9, x10, x11, x12, x13⟩ := HB.out.ex
          obtain ⟨y0, y1, y2, y3, y4, y5, y6, y7, y8, y9, y10, y11, y12, y13⟩ := HV.out.ex
          have ff := HB.out.free
          go_wp2
          refine tree_put v rfl rfl HB.out ?_
          rw [HRES.out]
          rcases HX.out with ⟨h, _⟩ | ⟨_, _, x, h1, h2⟩
          · cases h
          · have h3 : opsP (fun r => lv k (n + 1) (d + 1) r) n (kk1 + 1) x r' = .ok x (blk r') := by
              rw [opsP, HOP.out]
            have h1 : opsP (fun r => lv k (n + 1) (d + 1) r) n (kk1 + 1) x r' = res := h1
            rw [← h1, h3]
            exact ⟨_, rfl, (h2.put (fun h => by have := h.1; omega)).mono (fun k h _ => by have := h.1; unfold From; have := HJ.out; omega), HA.out.put _ (by omega), HF.out.put _ (by have := HJ.out; omega)⟩
        | some o =>
          rw [hop] at hpost
          obtain ⟨rfl, hA, hF⟩ := hpost
          have HOP := Lib.hid hop
          have HX := Lib.hid (HX.out.fr hF (fun h => by have := h.1; omega))
          have HV := Lib.hid (HV.out.fr hF hgl.symm)
          have HA := Lib.hid hA
          have HF := Lib.hid (HF.out.trans hF)
          have HB := Lib.hid (HB.out.fr hF (by omega))
          clear hA hF
          have hem : ((bs o).toList == []) = false := bs_not (ops_ne hop)
          clear hop
          go_wp2_with fail
          clear hem
          have hwn : IntKind.i64.wrap ((n : Int) + 1) = (n : Int) + 1 := by
            rw [IntKind.wrap_i64]
            omega
          have hlo : lv k (n + 1) (d + 1) ((blk r').drop o.length) ≠ .out := by
            intro h
            rcases HX.out with ⟨h', _⟩ | ⟨_, _, x, h1, _⟩
            · cases h'
            · have h1 : opsP (fun r => lv k (n + 1) (d + 1) r) n (kk1 + 1) x r' = res := h1
              apply HOUT.out
              rw [← h1, opsP, HOP.out]
              simp only [h]
          have HLO := Lib.hid hlo
          have HCL : Hid (Calls Tryz.prog 10 #[.pointer (some ⟨g, 0, none⟩), .int .i64 ((n : Int) + 1)] w4.drew (ArgPost (fun d r => lv k (n + 1) d r) g s (d + 1) w4.drew ((blk r').drop o.length))) := Lib.hid (LV.out w4.drew _ HA.out.drew hlo)
          have HS0 : Hid (Box w4.drew j5 (exCells v) 25) := Lib.hid (HV.out.below (Below.refl _ _).drew)
          clear hlo
          refine wp_region_late (List.replicate 9 false) [true, true, true, true, true, false, false, false, false] (S := fun w' => Box w' j5 (exCells v) 25) (by kernel_rfl) (by kernel_rfl) (by kernel_rfl) (fun d _ _ _ _ h => by cases d <;> exact h) HS0.out ?_
          simp only [List.replicate, swaps]
          iterate 5
            refine seqT_take (v := ?_) (by rfl) ?_ ?_
            rotate_left
            · intro w' hSw
              obtain ⟨y0, y1, y2, y3, y4, y5, y6, y7, y8, y9, y10, y11, y12, y13⟩ := hSw.ex
              go_simp
              try (with_reducible rfl)
            try simp only [Act.put, List.setIfInBounds_toArray, List.set_cons_zero, List.set_cons_succ]
          refine seqT_solo (by rfl) (fun K hK => ?_)
          go_simp
          refine HCL.out.mono ?_
          intro e w6 hpost
          obtain ⟨v2, r5, d5, b5, rfl, hA6, hF6, hv⟩ := argPost_open (f := fun d r => lv k (n + 1) d r) HLO.out hpost
          clear hpost
          have hFd : Fr w4 w6 g := (Fr.of_below g (Below.refl _ _).drew).trans hF6
          have hj54 : j5 < w4.heap.size := HV.out.lt
          have hz64 : w4.heap.size ≤ w6.heap.size := hFd.size
          have hbel : Below w6.heap.size w6 (w6.alloc (.cells (exCells v ++ exCells v2) 25)) := (Below.refl _ _).alloc (Nat.le_refl _) _
          have hrow := two_row w6 v v2 (Over (j + 1) j5) ⟨by omega, by omega⟩
          have hxn : GotX (w6.alloc (.cells (exCells v ++ exCells v2) 25)) (Over (j + 1) j5) (d + 1) res (fun x => opsP (fun r => lv k (n + 1) (d + 1) r) n kk1 x r5) d5 b5 { Ev.zero with op := bs o, A := some ⟨w6.heap.size, 0, none⟩, n := 2, k := 2 } := by
            rcases HX.out with ⟨h', _⟩ | ⟨_, _, x, h1, h2⟩
            · cases h'
            · have h1 : opsP (fun r => lv k (n + 1) (d + 1) r) n (kk1 + 1) x r' = res := h1
              rw [opsP, HOP.out] at h1
              rcases hv with ⟨a1, a2⟩ | ⟨a1, a2, y, a3, a4⟩
              · have a2 : lv k (n + 1) (d + 1) ((blk r').drop o.length) = .bad := a2
                simp only [a2] at h1
                exact .inl ⟨a1, h1.symm⟩
              · have a3 : lv k (n + 1) (d + 1) ((blk r').drop o.length) = .ok y r5 := a3
                simp only [a3] at h1
                refine .inr ⟨a1, a2, .bin o x y, h1, some ⟨w6.heap.size, 0, none⟩, v, v2, rfl, hrow, ?_, ?_⟩
                · exact (h2.fr hFd (fun h => by have := h.1; omega)).below hbel
                · exact (a4.mono (S' := Over (j + 1) j5) (fun k hk _ => by
                    have hk : w4.heap.size ≤ k := hk
                    exact ⟨by omega, by omega⟩)).below hbel
          have hlr : b5 = false → r5.length < r'.length := by
            intro hb
            rcases hv with ⟨a1, _⟩ | ⟨_, _, y, a3, _⟩
            · rw [a1] at hb
              cases hb
            · have a3 : lv k (n + 1) (d + 1) ((blk r').drop o.length) = .ok y r5 := a3
              have h1 := lv_le _ _ _ _ _ _ a3
              have h2 := op_drop HOP.out
              have h3 := blk_le r'
              omega
          have HLR := Lib.hid hlr
          have hV6 := HV.out.fr hFd hgl.symm
          have HA7 := Lib.hid (hA6.below hbel)
          have HF7 := Lib.hid ((HF.out.trans hFd).trans (Fr.of_below g hbel))
          have HB7 := Lib.hid ((HB.out.fr hFd (by omega)).below hbel)
          have hV7 := hV6.below hbel
          have HX7 := Lib.hid hxn
          obtain ⟨j6, hj6⟩ : ∃ j6, w6.heap.size = j6 := ⟨_, rfl⟩
          rw [hj6] at HX7
          clear hv hxn hlr hrow hbel hFd hA6 hF6 HCL HS0 HLO HOP HX HA HF HB HV
          obtain ⟨wb, hwb⟩ : ∃ wb, w6.alloc (.cells (exCells v ++ exCells v2) 25) = wb := ⟨_, rfl⟩
          rw [hwb] at HA7 HF7 HB7 hV7 HX7
          have hlit : exCells v ++ exCells v2 = #[.string v.op, .string v.text, .bool v.is, .string v.sheet, .int .i64 v.c, .int .i64 v.r, .int .i64 v.c2, .int .i64 v.r2, .bool v.f0, .bool v.f1, .bool v.f2, .bool v.f3, .int .i64 v.wide, .slice v.A v.n v.k, .string v2.op, .string v2.text, .bool v2.is, .string v2.sheet, .int .i64 v2.c, .int .i64 v2.r, .int .i64 v2.c2, .int .i64 v2.r2, .bool v2.f0, .bool v2.f1, .bool v2.f2, .bool v2.f3, .int .i64 v2.wide, .slice v2.A v2.n v2.k] := rfl
          rw [hlit] at hwb
          have HWB := Lib.hid hwb
          have HJ6 := Lib.hid hj6
          have HV7 := Lib.hid hV7
          clear hlit hwb hj6
          refine hK.out _ _ (fun _ => hV6) ?_
          clear hK K hV6 hV7 hz64 hj54
          try simp only [Act.put, List.setIfInBounds_toArray, List.set_cons_zero, List.set_cons_succ]
          refine seqT_solo (by rfl) (fun K hK => ?_)
          unfold Ev.val
          go_simp
          rw [HWB.out, HJ6.out]
          refine hK.out _ _ (fun _ => HV7.out) ?_
          clear hK K HWB HJ6
          try simp only [Act.put, List.setIfInBounds_toArray, List.set_cons_zero, List.set_cons_succ]
          refine seqT_solo (by rfl) (fun K hK => ?_)
          go_simp
          refine hK.out _ _ (fun _ => HV7.out) ?_
          clear hK K
          try simp only [Act.put, List.setIfInBounds_toArray, List.set_cons_zero, List.set_cons_succ]
          refine seqT_solo (by rfl) (fun K hK => ?_)
          obtain ⟨y0, y1, y2, y3, y4, y5, y6, y7, y8, y9, y10, y11, y12, y13⟩ := HV7.out.ex
          have ff := HV7.out.free
          go_simp
          refine hK.out _ _ (fun h => absurd rfl h) ?_
          clear hK K
          try simp only [Act.put, List.setIfInBounds_toArray, List.set_cons_zero, List.set_cons_succ]
          refine seqT_done ?_
          go_wp2_with fail
          go_roundw
          case rel => exact ⟨r5, d5, b5, { Ev.zero with op := bs o, A := some ⟨j6, 0, none⟩, n := 2, k := 2 }, kk1, Lib.hid (HA7.out.put { Ev.zero with op := bs o, A := some ⟨j6, 0, none⟩, n := 2, k := 2 } hgl), Lib.hid (HF7.out.put { Ev.zero with op := bs o, A := some ⟨j6, 0, none⟩, n := 2, k := 2 } (by have := HJ.out; omega)), Lib.hid (HB7.out.putOther { Ev.zero with op := bs o, A := some ⟨j6, 0, none⟩, n := 2, k := 2 } (by omega)), Lib.hid (HV7.out.put { Ev.zero with op := bs o, A := some ⟨j6, 0, none⟩, n := 2, k := 2 }), Lib.hid (HX7.out.put { Ev.zero with op := bs o, A := some ⟨j6, 0, none⟩, n := 2, k := 2 } (fun h => h.2 rfl))⟩
          case measure =>
            rw [HM0.out]
            cases b5 with
            | true =>
              have h1 := (HA7.out.put { Ev.zero with op := bs o, A := some ⟨j6, 0, none⟩, n := 2, k := 2 } hgl).lft0
              refine Nat.lt_of_le_of_lt (Nat.le_of_eq h1) ?_
              omega
            | false =>
              have h1 := (HA7.out.put { Ev.zero with op := bs o, A := some ⟨j6, 0, none⟩, n := 2, k := 2 } hgl).lft1
              refine Nat.lt_of_le_of_lt (Nat.le_of_eq h1) ?_
              have := HLR.out rfl
              omega

end Go.Proofs.YtfeffdjnjckjaaaGreatDoor.Rg
