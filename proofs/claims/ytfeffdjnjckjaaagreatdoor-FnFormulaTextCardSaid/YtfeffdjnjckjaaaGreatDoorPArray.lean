/- The reader reads an array. -/
import Derived.Test.YtfeffdjnjckjaaaGreatDoorPConst
import Derived.Test.YtfeffdjnjckjaaaGreatDoorJShr
namespace Go.Proofs.YtfeffdjnjckjaaaGreatDoor.Rg
open Go.RowKit

def arrE (f : Nat → List UInt8 → R) (d k wide n : Nat) (r1 : List UInt8) : R :=
  if pk (blk r1) = 44 then arrA f d k wide (n + 1) (blk r1).tail
  else if 0 < wide ∧ n + 1 ≠ wide then .bad
  else if pk (blk r1) = 125 then .ok .odd (blk r1).tail
  else if pk (blk r1) = 59 then arrA f d k (n + 1) 0 (blk r1).tail
  else .bad
theorem arrA_succ (f : Nat → List UInt8 → R) (d k wide n : Nat) (r : List UInt8) : arrA f d (k + 1) wide n r = match constP f d r with
    | .out => .out
    | .bad => .bad
    | .ok _ r1 => arrE f d k wide n r1 := by
  rw [arrA]
  rfl

def ArrInv (f : Nat → List UInt8 → R) (d wide n nk : Nat) (d' : Int) (res : R) (r' : List UInt8) (b : Bool) : Prop :=
  (b = true ∧ res = .bad) ∨ (b = false ∧ d' = (d : Int) ∧ ∃ k, arrA f d k wide n r' = res ∧ nk + r'.length ≤ 8192)
def ArrMid (f : Nat → List UInt8 → R) (d wide n nk : Nat) (d' : Int) (res : R) (r1 : List UInt8) (b : Bool) : Prop :=
  (b = true ∧ res = .bad) ∨ (b = false ∧ d' = (d : Int) ∧ ∃ k, arrE f d k wide n r1 = res ∧ nk + r1.length ≤ 8192)

set_option maxHeartbeats 16000000 in
set_option maxRecDepth 100000 in
theorem array_any (f : Nat → List UInt8 → R) (hf : LvlOk f) (g : Nat) (s : ByteArray) (r : List UInt8) (d : Nat) (w : World) (h : At w g s r d false) (hd : d ≤ 360) (hr : pk r = 123) (hout : arrA f d (r.length + 1) 0 0 r.tail ≠ .out) :
    Calls Tryz.prog 47 #[.pointer (some ⟨g, 0, none⟩)] w (TreePost w g s d (arrA f d (r.length + 1) 0 0 r.tail)) := by
  obtain ⟨j, hj⟩ : ∃ j, w.heap.size = j := ⟨_, rfl⟩
  have hgj : g < j := hj ▸ h.lt
  obtain ⟨W, hW⟩ : ∃ W, w.alloc (.cells (exCells Ev.zero) 25) = W := ⟨_, rfl⟩
  have HA : Hid (At W g s r d false) := by subst hW; exact h.alloc _
  have HF : Hid (Fr w W g) := by subst hW; exact (Fr.refl w g).alloc _
  have HB : Hid (Box W j (exCells Ev.zero) 25) := by subst hW; subst hj; exact Box.made _ _ _
  have HJ := Lib.hid hj
  have HW := Lib.hid hW
  have hr8 : r.length ≤ 8192 := by
    have := h.len
    have := h.small
    omega
  have HR8 := Lib.hid hr8
  have HC := Lib.hid (quo_step hr (by decide))
  have HOUT := Lib.hid hout
  have HLF := Lib.hid hf
  clear hout hf hr8 hr
  clear h hj hW
  unfold exCells at HW
  simp only [Ev.zero] at HW
  go_enter Tryz.func47, Tryz.ntmps47
  go_upto_region 1 with fail
  rw [HJ.out, HW.out]
  clear HW
  obtain ⟨res, hres⟩ : ∃ res, arrA f d (r.length + 1) 0 0 r.tail = res := ⟨_, rfl⟩
  have HRES := Lib.hid hres
  have HOUT : Hid (res ≠ .out) := by
    rw [← hres]
    exact HOUT
  clear hres
  obtain ⟨q, q0, q1, HQ, c1, f1⟩ := HA.out.see
  have HA : Hid (At (W.setCell ⟨g, 1, none⟩ (.int .i64 (q + 1))) g s r.tail d false) := by
    have h1 := HA.out
    rw [HC.out] at h1
    exact h1.step (q + 1) (by rw [HQ.out, ← HC.out])
  have HF := Lib.hid (HF.out.trans (Fr.set g 1 (.int .i64 (q + 1))))
  have HB := Lib.hid (HB.out.other (k := g) 1 (.int .i64 (q + 1)) (by omega))
  go_upto_region 2 with fail
  clear c1 f1
  generalize W.setCell ⟨g, 1, none⟩ (.int .i64 (q + 1)) = w1 at HA HF HB ⊢
  have hgl : g ≠ w1.heap.size := Nat.ne_of_lt HA.out.lt
  have hjl : j < w1.heap.size := HB.out.lt
  have HA := Lib.hid (HA.out.alloc (.cells (exCells { Ev.zero with op := sArray }) 25))
  have HF := Lib.hid (HF.out.alloc (.cells (exCells { Ev.zero with op := sArray }) 25))
  have HB := Lib.hid (HB.out.alloc (.cells (exCells { Ev.zero with op := sArray }) 25))
  have HV := Lib.hid (Box.made w1 (exCells { Ev.zero with op := sArray }) 25)
  have HZ3 : Hid (w1.heap.size + 1 ≤ (w1.alloc (.cells (exCells { Ev.zero with op := sArray }) 25)).heap.size) := Lib.hid (by simp)
  obtain ⟨w2, hw2⟩ : ∃ w2, w1.alloc (.cells (exCells { Ev.zero with op := sArray }) 25) = w2 := ⟨_, rfl⟩
  rw [hw2] at HA HF HB HV HZ3
  unfold exCells at hw2
  simp only [Ev.zero, sArray] at hw2
  have HW2 := Lib.hid hw2
  clear hw2
  go_upto_region 3 with fail
  rw [HW2.out]
  clear HW2
  generalize w1.heap.size = j3 at HV HZ3 hgl hjl ⊢
  go_wp2_with fail
  have HI : Hid (ArrInv f d 0 0 0 d res r.tail false) := Lib.hid (.inr ⟨rfl, rfl, r.length + 1, HRES.out, by have := HR8.out; simp; omega⟩)
  go_loopw [4] (fun n4 wr => ∃ (r' : List UInt8) (d' : Int) (b : Bool) (A : Option Addr) (nn wide nk c : Nat), n4 = .int .i64 nn ∧ Hid (At wr g s r' d' b) ∧ Hid (Fr w wr g) ∧ Hid (Box wr j (exCells Ev.zero) 25) ∧ Hid (Box wr j3 (exCells { Ev.zero with op := sArray, wide := wide, A := A, n := nk, k := c }) 25) ∧ Hid (j3 + 1 ≤ wr.heap.size) ∧ Hid (∃ vs : List Ev, wr.ownsRow (j3 + 1) 25 14 (.slice A nk c) nk (vs.flatMap Ev.cells)) ∧ Hid (ArrInv f d wide nn nk d' res r' b) ∧ nn ≤ nk ∧ wide ≤ nk) (fun _ wr => lft wr g)
  case atStart => exact ⟨_, _, _, none, 0, 0, 0, 0, rfl, HA, HF, HB, HV, HZ3, Lib.hid ⟨[], World.ownsRow_nil _ _ _ _⟩, HI, by omega, by omega⟩
  clear HA HF HB HV HZ3 HI
  case round =>
    obtain ⟨r', d', b, A, nn, wide, nk, c, rfl, HA, HF, HB, HV, HZ3, HO, HI, hnn, hwd⟩ := hrel
    have b3 := HA.out.c3
    cases b with
    | true =>
      have HZB : Hid (res = .bad) := by
        rcases HI.out with ⟨_, h⟩ | ⟨h, _⟩
        · exact Lib.hid h
        · cases h
      obtain ⟨d0, d1, d2, d3, d4, d5, d6, d7, d8, d9, d10, d11, d12, d13⟩ := HB.out.ex
      obtain ⟨e0, e1, e2, e3, e4, e5, e6, e7, e8, e9, e10, e11, e12, e13⟩ := HV.out.ex
      have ff := HB.out.free
      go_wp2
      refine tree_put { Ev.zero with op := sArray, wide := wide, A := A, n := nk, k := c } rfl rfl HB.out ?_
      rw [HRES.out, HZB.out]
      exact ⟨_, _, _, rfl, HA.out.put _ (by omega), HF.out.put _ (by have := HJ.out; omega)⟩
    | false =>
      have HM0 := Lib.hid HA.out.lft1
      have HI2 : Hid (d' = (d : Int) ∧ ∃ k, arrA f d k wide nn r' = res ∧ nk + r'.length ≤ 8192) := by
        rcases HI.out with ⟨h, _⟩ | ⟨_, h⟩
        · cases h
        · exact Lib.hid h
      obtain ⟨hd', k, hk, hroom⟩ := HI2.out
      subst hd'
      have HEQ := Lib.hid hk
      have hnk8 : nk ≤ 8192 := by omega
      have hnn8 : (nn : Int) ≤ 8192 := by omega
      have hnn0 : (0 : Int) ≤ (nn : Int) := by omega
      have HROOM := Lib.hid hroom
      clear hk hroom HI HI2
      obtain ⟨k1, hk1⟩ : ∃ k1, k = k1 + 1 := by
        cases k with
        | zero => exact absurd HEQ.out.symm HOUT.out
        | succ k1 => exact ⟨k1, rfl⟩
      subst hk1
      have heq := HEQ.out
      rw [arrA_succ] at heq
      have HEQ := Lib.hid heq
      have hco : constP f d r' ≠ .out := by
        intro h
        rw [h] at heq
        exact HOUT.out heq.symm
      have HCL : Hid (Calls Tryz.prog 57 #[.pointer (some ⟨g, 0, none⟩)] wr.drew (ArgPost (constP f) g s d wr.drew r')) := Lib.hid (const_any f HLF.out g s r' d wr.drew HA.out.drew hd hco)
      have HCO := Lib.hid hco
      obtain ⟨vs, hvs⟩ := HO.out
      have HOWN := Lib.hid hvs
      have HS0 : Hid (wr.drew.cell? ⟨j3, 13, none⟩ = some (.slice A nk c)) := Lib.hid HV.out.ex.c13
      clear hco heq hvs HO
      go_wp2_with fail
      refine wp_region_late (List.replicate 8 false) [true, true, true, false, false, false, true, false] (S := fun w' => w'.cell? ⟨j3, 13, none⟩ = some (.slice A nk c)) (by kernel_rfl) (by kernel_rfl) (by kernel_rfl) (fun d _ _ _ _ h => by cases d <;> exact h) HS0.out ?_
      simp only [List.replicate, swaps]
      iterate 3
        refine seqT_take (v := ?_) (by rfl) ?_ ?_
        rotate_left
        · intro w' hSw
          go_simp
          try (with_reducible rfl)
        try simp only [Act.put, List.setIfInBounds_toArray, List.set_cons_zero, List.set_cons_succ]
      refine seqT_solo (by rfl) (fun K hK => ?_)
      go_simp
      refine HCL.out.mono ?_
      intro e w6 hpost
      obtain ⟨v, r3, d3, b4, rfl, hA6, hF6, hv⟩ := argPost_open HCO.out hpost
      clear hpost
      have hFd : Fr wr w6 g := (Fr.of_below g (Below.refl _ _).drew).trans hF6
      have hown6 : w6.ownsRow (j3 + 1) 25 14 (.slice A nk c) nk (vs.flatMap Ev.cells) := own_same HOWN.out (fun b hb => hFd.block b (HOWN.out.lt b hb).2 (by have := (HOWN.out.lt b hb).1; simp; omega))
      have hbel : Below w6.heap.size w6 (w6.alloc (.cells (exCells v) 25)) := (Below.refl _ _).alloc (Nat.le_refl _) _
      have hz6 : j3 + 1 ≤ w6.heap.size := Nat.le_trans HZ3.out hFd.size
      obtain ⟨A', c', w7, happ, hown, hgr, hloc⟩ := push_row w6 (j3 + 1) nk c A vs v hown6 hnk8 hz6 (w6.alloc (.cells (exCells v) 25)) hbel w6.heap.size (Box.made _ _ _)
      have hob : ∀ k, (Value.slice A nk c).ownBlock = some k → j3 + 1 ≤ k ∧ k < wr.heap.size := fun k hk => HOWN.out.lt k hk
      have HB6 := Lib.hid (((HB.out.fr hFd (by omega)).below hbel).grow hgr (fun e => by have := (hob j e).1; omega))
      have h56 := HV.out.fr hFd hgl.symm
      have h57 := h56.below hbel
      have h58 := h57.grow hgr (fun e => by have := (hob j3 e).1; omega)
      have HV6 := Lib.hid h58
      have HA6 := Lib.hid ((hA6.below hbel).grow hgr (fun e => by have := (hob g e).1; omega))
      have HF6 := Lib.hid (((HF.out.trans hFd).trans (Fr.of_below g hbel)).grow hgr (fun k hk => by have := (hob k hk).1; have := HJ.out; omega))
      have HZ6 : Hid (j3 + 1 ≤ w7.heap.size) := Lib.hid (Nat.le_trans hz6 (Nat.le_trans hbel.size hgr.size))
      have HMID : Hid (ArrMid f d wide nn nk d3 res r3 b4 ∧ (b4 = false → r3.length ≤ r'.length)) := by
        have hne := HEQ.out
        rcases hv with ⟨rfl, hfb⟩ | ⟨rfl, rfl, x, hfx, hx⟩
        · rw [hfb] at hne
          exact Lib.hid ⟨.inl ⟨rfl, hne.symm⟩, fun h => by cases h⟩
        · rw [hfx] at hne
          have hsh := const_le HLF.out.shr hfx
          exact Lib.hid ⟨.inr ⟨rfl, rfl, k1, hne, by have := HROOM.out; omega⟩, fun _ => hsh⟩
      have HOWN7 := Lib.hid hown
      have x13 := h56.ex.c13
      have x14 := h57.ex.c13
      have x15 := h58.ex.c13
      have y13 := h58.free 13
      refine hK.out _ _ (fun _ => x13) ?_
      clear hK K hv hown6 hz6 hown hgr hloc hob h56 h57 hFd hA6 hF6 HCL HCO HEQ
      unfold exCells at happ x14
      try simp only [Act.put, List.setIfInBounds_toArray, List.set_cons_zero, List.set_cons_succ]
      refine seqT_solo (by rfl) (fun K hK => ?_)
      unfold Ev.val
      go_simp
      refine hK.out _ _ (fun _ => x14) ?_
      clear hK K
      try simp only [Act.put, List.setIfInBounds_toArray, List.set_cons_zero, List.set_cons_succ]
      refine seqT_solo (by rfl) (fun K hK => ?_)
      refine wp_append _ _ _ (by rfl) (by rfl) (by rfl) happ ?_
      refine hK.out _ _ (fun _ => x15) ?_
      clear hK K
      try simp only [Act.put, List.setIfInBounds_toArray, List.set_cons_zero, List.set_cons_succ]
      refine seqT_take (v := ?_) (by rfl) ?_ ?_
      rotate_left
      · intro w' hSw
        go_simp
        try (with_reducible rfl)
      try simp only [Act.put, List.setIfInBounds_toArray, List.set_cons_zero, List.set_cons_succ]
      refine seqT_solo (by rfl) (fun K hK => ?_)
      go_simp
      refine hK.out _ _ (fun h => absurd rfl h) ?_
      clear hK K
      try simp only [Act.put, List.setIfInBounds_toArray, List.set_cons_zero, List.set_cons_succ]
      refine seqT_done ?_
      have h5 := HV6.out.set 13 (.slice A' (nk + 1) c')
      rw [exCells_kids] at h5
      have HV := Lib.hid h5
      have HA := Lib.hid (HA6.out.other (k := j3) 13 (.slice A' (nk + 1) c') hgl)
      have HF := Lib.hid (HF6.out.own (j := j3) 13 (.slice A' (nk + 1) c') (by have := HJ.out; omega))
      have HB := Lib.hid (HB6.out.other (k := j3) 13 (.slice A' (nk + 1) c') (by omega))
      have HZ3 : Hid (j3 + 1 ≤ (w7.setCell ⟨j3, 13, none⟩ (.slice A' (nk + 1) c')).heap.size) := Lib.hid (by have := HZ6.out; simpa [World.setCell] using this)
      have HO : Hid (∃ us : List Ev, (w7.setCell ⟨j3, 13, none⟩ (.slice A' (nk + 1) c')).ownsRow (j3 + 1) 25 14 (.slice A' (nk + 1) c') (nk + 1) (us.flatMap Ev.cells)) := Lib.hid ⟨vs ++ [v], own_same HOWN7.out (fun b hb => Same.of_set _ _ (by have := (HOWN7.out.lt b hb).1; show b ≠ j3; omega))⟩
      clear h5 h58 happ x13 x14 x15 y13 HOWN7 HOWN hbel HS0
      go_wp2_with fail
      generalize w7.setCell ⟨j3, 13, none⟩ (.slice A' (nk + 1) c') = w8 at HA HF HB HV HZ3 HO ⊢
      refine (blanks_any g s r3 d3 b4 w8 HA.out).mono ?_
      rintro e w9 ⟨rfl, hA, hF⟩
      have HA := Lib.hid hA
      have HF := Lib.hid (HF.out.trans hF)
      have HB := Lib.hid (HB.out.fr hF (by omega))
      have HV := Lib.hid (HV.out.fr hF hgl.symm)
      obtain ⟨us, hus⟩ := HO.out
      have HO : Hid (∃ us : List Ev, w9.ownsRow (j3 + 1) 25 14 (.slice A' (nk + 1) c') (nk + 1) (us.flatMap Ev.cells)) := Lib.hid ⟨us, own_same hus (fun b hb => hF.block b (hus.lt b hb).2 (by have := (hus.lt b hb).1; simp; omega))⟩
      have HZ3 : Hid (j3 + 1 ≤ w9.heap.size) := Lib.hid (Nat.le_trans HZ3.out hF.size)
      clear hA hF hus
      go_wp2_with fail
      by_cases h44 : pk (blk r3) = 44
      · refine (one_yes 44 g s _ d3 b4 w9 HA.out h44 (by decide)).mono ?_
        rintro e w10 ⟨rfl, hA, hF⟩
        have HA := Lib.hid hA
        have HF := Lib.hid (HF.out.trans hF)
        have HB := Lib.hid (HB.out.fr hF (by omega))
        have HV := Lib.hid (HV.out.fr hF hgl.symm)
        obtain ⟨us, hus⟩ := HO.out
        have HO : Hid (∃ us : List Ev, w10.ownsRow (j3 + 1) 25 14 (.slice A' (nk + 1) c') (nk + 1) (us.flatMap Ev.cells)) := Lib.hid ⟨us, own_same hus (fun b hb => hF.block b (hus.lt b hb).2 (by have := (hus.lt b hb).1; simp; omega))⟩
        have HZ3 : Hid (j3 + 1 ≤ w10.heap.size) := Lib.hid (Nat.le_trans HZ3.out hF.size)
        clear hA hF hus
        have hlt : (blk r3).tail.length < r3.length := by
          have h1 := congrArg List.length (quo_step h44 (by decide))
          have h2 := blk_le r3
          simp only [List.length_cons] at h1
          omega
        have HLT := Lib.hid hlt
        have HH := Lib.hid h44
        clear hlt h44
        go_wp2
        go_roundw
        case rel =>
          refine ⟨_, _, b4, A', nn + 1, wide, nk + 1, c', by go_num, HA, HF, HB, HV, HZ3, HO, ?_, by omega, by omega⟩
          rcases HMID.out.1 with ⟨hb, hc⟩ | ⟨hb, hd2, k, hk, hroom⟩
          · exact Lib.hid (.inl ⟨hb, hc⟩)
          · unfold arrE at hk
            rw [if_pos HH.out] at hk
            exact Lib.hid (.inr ⟨hb, hd2, k, hk, by have := HLT.out; omega⟩)
        case measure =>
          rw [HM0.out]
          cases b4 with
          | true =>
            rw [HA.out.lft0]
            omega
          | false =>
            rw [HA.out.lft1]
            have := HLT.out
            have := HMID.out.2 rfl
            omega
      · have H44 := Lib.hid h44
        refine (one_no 44 g s _ d3 b4 w9 HA.out h44).mono ?_
        rintro e w10 ⟨rfl, m1, rfl⟩
        clear h44
        go_upto_region 9 with fail
        have HA := Lib.hid (HA.out.drewN m1)
        have HF := Lib.hid (HF.out.trans (Fr.drewN _ _ m1))
        have HB := Lib.hid (HB.out.drewN m1)
        have HV := Lib.hid (HV.out.drewN m1)
        have HO : Hid (∃ us : List Ev, (w9.drewN m1).ownsRow (j3 + 1) 25 14 (.slice A' (nk + 1) c') (nk + 1) (us.flatMap Ev.cells)) := by
          obtain ⟨us, hus⟩ := HO.out
          exact Lib.hid ⟨us, own_below hus (below_drewN _ _)⟩
        have HZ3 : Hid (j3 + 1 ≤ (w9.drewN m1).heap.size) := Lib.hid HZ3.out
        generalize w9.drewN m1 = w11 at HA HF HB HV HO HZ3 ⊢
        obtain ⟨z1, hz1⟩ : ∃ z1, decide ((0 : Int) < (wide : Int)) = z1 := ⟨_, rfl⟩
        have hz1' : decide (0 < wide) = z1 := by rw [← hz1]; congr 1; simp
        obtain ⟨z2, hz2⟩ : ∃ z2, (((nn : Int) + 1) != (wide : Int)) = z2 := ⟨_, rfl⟩
        have e12 := HV.out.ex.c12
        obtain ⟨b5, hb5⟩ : ∃ b5, (z1 && z2) = b5 := ⟨_, rfl⟩
        have HARR : Hid (∀ k, arrE f d k wide nn r3 = if b5 = true then .bad else if pk (blk r3) = 125 then .ok .odd (blk r3).tail else if pk (blk r3) = 59 then arrA f d k (nn + 1) 0 (blk r3).tail else .bad) := by
          show ∀ k, arrE f d k wide nn r3 = _
          intro k
          unfold arrE
          rw [if_neg H44.out]
          have e1 : (0 < wide ∧ nn + 1 ≠ wide) ↔ b5 = true := by
            rw [← hb5, ← hz1', ← hz2]
            simp
            omega
          by_cases hg : 0 < wide ∧ nn + 1 ≠ wide
          · rw [if_pos hg, if_pos (e1.1 hg)]
          · rw [if_neg hg, if_neg (fun h => hg (e1.2 h))]
        have HB5 := Lib.hid hb5
        clear hb5
        go_cut [39] (fun t wx => t = .bool b5 ∧ Hid (At wx g s (blk r3) d3 b4) ∧ Hid (Fr w wx g) ∧ Hid (Box wx j (exCells Ev.zero) 25) ∧ Hid (Box wx j3 (exCells { Ev.zero with op := sArray, wide := wide, A := A', n := nk + 1, k := c' }) 25) ∧ Hid (∃ us : List Ev, wx.ownsRow (j3 + 1) 25 14 (.slice A' (nk + 1) c') (nk + 1) (us.flatMap Ev.cells)) ∧ Hid (j3 + 1 ≤ wx.heap.size))
        case first =>
          cases z1
          · obtain rfl : b5 = false := HB5.out.symm
            go_wp2
            go_meet
            exact ⟨rfl, HA, HF, HB, HV, HO, HZ3⟩
          · cases z2
            · obtain rfl : b5 = false := HB5.out.symm
              go_wp2
              go_meet
              exact ⟨rfl, HA, HF, HB, HV, HO, HZ3⟩
            · obtain rfl : b5 = true := HB5.out.symm
              go_wp2
              go_meet
              exact ⟨rfl, HA, HF, HB, HV, HO, HZ3⟩
        case rest =>
          obtain ⟨rfl, HA, HF, HB, HV, HO, HZ3⟩ := hcut
          go_upto_if 39 with fail
          go_cut [] (fun wx => ∃ b2 : Bool, Hid (At wx g s (blk r3) d3 b2) ∧ Hid (Fr w wx g) ∧ Hid (Box wx j (exCells Ev.zero) 25) ∧ Hid (Box wx j3 (exCells { Ev.zero with op := sArray, wide := wide, A := A', n := nk + 1, k := c' }) 25) ∧ Hid (∃ us : List Ev, wx.ownsRow (j3 + 1) 25 14 (.slice A' (nk + 1) c') (nk + 1) (us.flatMap Ev.cells)) ∧ Hid (j3 + 1 ≤ wx.heap.size) ∧ Hid (b2 = (b4 || b5)))
          case first =>
            have b3 := HA.out.c3
            have bf := HA.out.free 3
            cases b5
            · go_wp2
              go_meet
              exact ⟨b4, HA, HF, HB, HV, HO, HZ3, Lib.hid (by simp)⟩
            · go_wp2
              go_meet
              refine ⟨true, Lib.hid (HA.out.setBad true), Lib.hid (HF.out.trans (Fr.set g 3 _)), Lib.hid (HB.out.other (k := g) 3 _ (by omega)), Lib.hid (HV.out.other (k := g) 3 _ hgl.symm), ?_, ?_, Lib.hid (by simp)⟩
              · obtain ⟨us, hus⟩ := HO.out
                exact Lib.hid ⟨us, own_same hus (fun b hb => Same.of_set _ _ (by have := (hus.lt b hb).1; show b ≠ g; omega))⟩
              · exact Lib.hid (by have := HZ3.out; simpa [World.setCell] using this)
          case rest =>
            obtain ⟨b2, HA, HF, HB, HV, HO, HZ3, HBB⟩ := hcut
            have HB2 : Hid ((b2 = true ∧ res = .bad) ∨ (b2 = false ∧ d3 = (d : Int) ∧ ∃ k, (if pk (blk r3) = 125 then .ok .odd (blk r3).tail else if pk (blk r3) = 59 then arrA f d k (nn + 1) 0 (blk r3).tail else .bad) = res ∧ nk + r3.length ≤ 8192)) := by
              rcases HMID.out.1 with ⟨hb, hc⟩ | ⟨hb, hd2, k, hk, hroom⟩
              · exact Lib.hid (.inl ⟨by rw [HBB.out, hb]; rfl, hc⟩)
              · have h1 := HARR.out k
                rw [hk] at h1
                cases b5 with
                | true => exact Lib.hid (.inl ⟨by rw [HBB.out]; simp, by rw [h1]; rfl⟩)
                | false => exact Lib.hid (.inr ⟨by rw [HBB.out, hb]; rfl, hd2, k, by rw [h1]; rfl, hroom⟩)
            have x12 := HV.out.ex.c12
            have y12 := HV.out.free 12
            go_upto_region 12 with fail
            clear x12 y12
            have h5 := HV.out.set 12 (.int .i64 ((nn : Int) + 1))
            rw [exCells_wide] at h5
            have HV := Lib.hid h5
            have HA := Lib.hid (HA.out.other (k := j3) 12 (.int .i64 ((nn : Int) + 1)) hgl)
            have HF := Lib.hid (HF.out.own (j := j3) 12 (.int .i64 ((nn : Int) + 1)) (by have := HJ.out; omega))
            have HB := Lib.hid (HB.out.other (k := j3) 12 (.int .i64 ((nn : Int) + 1)) (by omega))
            have HO : Hid (∃ us : List Ev, (wc.setCell ⟨j3, 12, none⟩ (.int .i64 ((nn : Int) + 1))).ownsRow (j3 + 1) 25 14 (.slice A' (nk + 1) c') (nk + 1) (us.flatMap Ev.cells)) := by
              obtain ⟨us, hus⟩ := HO.out
              exact Lib.hid ⟨us, own_same hus (fun b hb => Same.of_set _ _ (by have := (hus.lt b hb).1; show b ≠ j3; omega))⟩
            have HZ3 : Hid (j3 + 1 ≤ (wc.setCell ⟨j3, 12, none⟩ (.int .i64 ((nn : Int) + 1))).heap.size) := Lib.hid (by have := HZ3.out; simpa [World.setCell] using this)
            clear h5
            generalize wc.setCell ⟨j3, 12, none⟩ (.int .i64 ((nn : Int) + 1)) = w20 at HA HF HB HV HO HZ3 ⊢
            go_wp2_with fail
            by_cases h125 : pk (blk r3) = 125
            · refine (one_yes 125 g s _ d3 b2 w20 HA.out h125 (by decide)).mono ?_
              rintro e w21 ⟨rfl, hA, hF⟩
              have HA := Lib.hid hA
              have HF := Lib.hid (HF.out.trans hF)
              have HB := Lib.hid (HB.out.fr hF (by omega))
              have HV := Lib.hid (HV.out.fr hF hgl.symm)
              obtain ⟨us, hus⟩ := HO.out
              have HO : Hid (∃ us : List Ev, w21.ownsRow (j3 + 1) 25 14 (.slice A' (nk + 1) c') (nk + 1) (us.flatMap Ev.cells)) := Lib.hid ⟨us, own_same hus (fun b hb => hF.block b (hus.lt b hb).2 (by have := (hus.lt b hb).1; simp; omega))⟩
              have HZ3 : Hid (j3 + 1 ≤ w21.heap.size) := Lib.hid (Nat.le_trans HZ3.out hF.size)
              clear hA hF hus
              have HH := Lib.hid h125
              clear h125
              obtain ⟨x0, x1, x2, x3, x4, x5, x6, x7, x8, x9, x10, x11, x12, x13⟩ := HB.out.ex
              obtain ⟨y0, y1, y2, y3, y4, y5, y6, y7, y8, y9, y10, y11, y12, y13⟩ := HV.out.ex
              have ff := HB.out.free
              go_wp2
              refine tree_put { Ev.zero with op := sArray, wide := (nn : Int) + 1, A := A', n := nk + 1, k := c' } rfl rfl HB.out ?_
              rw [HRES.out]
              rcases HB2.out with ⟨rfl, hb⟩ | ⟨rfl, rfl, k, hk, _⟩
              · rw [hb]
                exact ⟨_, _, _, rfl, HA.out.put _ (by omega), HF.out.put _ (by have := HJ.out; omega)⟩
              · rw [if_pos HH.out] at hk
                rw [← hk]
                exact ⟨_, rfl, by show sArray ∈ oddOps; simp [oddOps], HA.out.put _ (by omega), HF.out.put _ (by have := HJ.out; omega)⟩
            · have H125 := Lib.hid h125
              refine (one_no 125 g s _ d3 b2 w20 HA.out h125).mono ?_
              rintro e w21 ⟨rfl, m5, rfl⟩
              clear h125
              go_wp2_with fail
              have HA := Lib.hid (HA.out.drewN m5)
              have HF := Lib.hid (HF.out.trans (Fr.drewN _ _ m5))
              have HB := Lib.hid (HB.out.drewN m5)
              have HV := Lib.hid (HV.out.drewN m5)
              have HO : Hid (∃ us : List Ev, (w20.drewN m5).ownsRow (j3 + 1) 25 14 (.slice A' (nk + 1) c') (nk + 1) (us.flatMap Ev.cells)) := by
                obtain ⟨us, hus⟩ := HO.out
                exact Lib.hid ⟨us, own_below hus (below_drewN _ _)⟩
              have HZ3 : Hid (j3 + 1 ≤ (w20.drewN m5).heap.size) := Lib.hid HZ3.out
              generalize w20.drewN m5 = w22 at HA HF HB HV HO HZ3 ⊢
              by_cases h59 : pk (blk r3) = 59
              · refine (one_yes 59 g s _ d3 b2 w22 HA.out h59 (by decide)).mono ?_
                rintro e w23 ⟨rfl, hA, hF⟩
                have HA := Lib.hid hA
                have HF := Lib.hid (HF.out.trans hF)
                have HB := Lib.hid (HB.out.fr hF (by omega))
                have HV := Lib.hid (HV.out.fr hF hgl.symm)
                obtain ⟨us, hus⟩ := HO.out
                have HO : Hid (∃ us : List Ev, w23.ownsRow (j3 + 1) 25 14 (.slice A' (nk + 1) c') (nk + 1) (us.flatMap Ev.cells)) := Lib.hid ⟨us, own_same hus (fun b hb => hF.block b (hus.lt b hb).2 (by have := (hus.lt b hb).1; simp; omega))⟩
                have HZ3 : Hid (j3 + 1 ≤ w23.heap.size) := Lib.hid (Nat.le_trans HZ3.out hF.size)
                clear hA hF hus
                have hlt : (blk r3).tail.length < r3.length := by
                  have h1 := congrArg List.length (quo_step h59 (by decide))
                  have h2 := blk_le r3
                  simp only [List.length_cons] at h1
                  omega
                have HLT := Lib.hid hlt
                have HH := Lib.hid h59
                have HLE : Hid (b2 = false → r3.length ≤ r'.length) := by
                  show b2 = false → r3.length ≤ r'.length
                  intro h
                  rw [HBB.out] at h
                  exact HMID.out.2 (by cases b4 <;> simp at h ⊢)
                clear hlt h59
                go_wp2
                go_roundw
                case rel =>
                  refine ⟨_, _, b2, A', 0, nn + 1, nk + 1, c', by go_num, HA, HF, HB, HV, HZ3, HO, ?_, by omega, by omega⟩
                  rcases HB2.out with ⟨hb, hc⟩ | ⟨hb, hd2, k, hk, hroom⟩
                  · exact Lib.hid (.inl ⟨hb, hc⟩)
                  · rw [if_neg H125.out, if_pos HH.out] at hk
                    exact Lib.hid (.inr ⟨hb, hd2, k, hk, by have := HLT.out; omega⟩)
                case measure =>
                  rw [HM0.out]
                  cases b2 with
                  | true =>
                    rw [HA.out.lft0]
                    omega
                  | false =>
                    rw [HA.out.lft1]
                    have := HLT.out
                    have := HLE.out rfl
                    omega
              · refine (one_no 59 g s _ d3 b2 w22 HA.out h59).mono ?_
                rintro e w23 ⟨rfl, m6, rfl⟩
                have HH := Lib.hid h59
                clear h59
                go_upto_region 14 with fail
                have HA := Lib.hid (HA.out.drewN m6)
                have HF := Lib.hid (HF.out.trans (Fr.drewN _ _ m6))
                have HB := Lib.hid (HB.out.drewN m6)
                have HV := Lib.hid (HV.out.drewN m6)
                have HO : Hid (∃ us : List Ev, (w22.drewN m6).ownsRow (j3 + 1) 25 14 (.slice A' (nk + 1) c') (nk + 1) (us.flatMap Ev.cells)) := by
                  obtain ⟨us, hus⟩ := HO.out
                  exact Lib.hid ⟨us, own_below hus (below_drewN _ _)⟩
                have HZ3 : Hid (j3 + 1 ≤ (w22.drewN m6).heap.size) := Lib.hid HZ3.out
                generalize w22.drewN m6 = w24 at HA HF HB HV HO HZ3 ⊢
                have b3 := HA.out.c3
                have bf := HA.out.free 3
                go_wp2
                go_roundw
                case rel =>
                  refine ⟨_, _, true, A', 0, nn + 1, nk + 1, c', by go_num, Lib.hid (HA.out.setBad true), Lib.hid (HF.out.trans (Fr.set g 3 _)), Lib.hid (HB.out.other (k := g) 3 _ (by omega)), Lib.hid (HV.out.other (k := g) 3 _ hgl.symm), Lib.hid (by have := HZ3.out; simpa [World.setCell] using this), ?_, ?_, by omega, by omega⟩
                  · obtain ⟨us, hus⟩ := HO.out
                    exact Lib.hid ⟨us, own_same hus (fun b hb => Same.of_set _ _ (by have := (hus.lt b hb).1; show b ≠ g; omega))⟩
                  · refine Lib.hid (.inl ⟨rfl, ?_⟩)
                    rcases HB2.out with ⟨hb, hc⟩ | ⟨hb, hd2, k, hk, hroom⟩
                    · exact hc
                    · rw [if_neg H125.out, if_neg HH.out] at hk
                      exact hk.symm
                case measure =>
                  rw [(HA.out.setBad true).lft0, HM0.out]
                  omega

end Go.Proofs.YtfeffdjnjckjaaaGreatDoor.Rg
