/- The reader reads the arguments of a call. -/
import Derived.Test.YtfeffdjnjckjaaaGreatDoorJPure
import Derived.Test.YtfeffdjnjckjaaaGreatDoorJPlan
import Derived.Deep.Cut
import Derived.Deep.DeepCutAuto
namespace Go.Proofs.YtfeffdjnjckjaaaGreatDoor.Rg
open Go.RowKit

/-- The measure of a loop that ends once something is bad. -/
def lft (w : World) (g : Nat) : Nat := match w.cell? ⟨g, 3, none⟩ with | some (.bool false) => Rg.left w g + 1 | _ => 0
theorem At.lft0 {w : World} {g : Nat} {s : ByteArray} {r : List UInt8} {d : Int} (h : At w g s r d true) : lft w g = 0 := by
  unfold lft
  rw [h.c3]
theorem At.lft1 {w : World} {g : Nat} {s : ByteArray} {r : List UInt8} {d : Int} (h : At w g s r d false) : lft w g = 8192 - s.size + r.length + 1 := by
  unfold lft
  rw [h.c3]
  show Rg.left w g + 1 = _
  rw [h.left]

theorem exCells_kids (u : Ev) (A : Option Addr) (n k : Nat) : (exCells u).set! 13 (.slice A n k) = exCells { u with A := A, n := n, k := k } := by
  simp [exCells]
theorem exCells_wide (u : Ev) (x : Int) : (exCells u).set! 12 (.int .i64 x) = exCells { u with wide := x } := by
  simp [exCells]

/-- The arguments read so far, and what is still to be read. -/
structure ArgInv (f : Nat → List UInt8 → R) (w : World) (B : Nat) (A : Option Addr) (n c : Nat) (d : Nat) (r0 r : List UInt8) (vs : List Ev) (acc : List Ex) (k : Nat) : Prop where
  own : w.ownsRow B 25 14 (.slice A n c) n (vs.flatMap Ev.cells)
  len : vs.length = n
  all : AllEx w (Kids B (.slice A n c)) acc vs
  eq : argsP f d k acc r = argsP f d (r0.length + 1) [] (blk r0.tail)
  room : n + r.length ≤ 8192

theorem ArgInv.keep {f : Nat → List UInt8 → R} {w w' : World} {B n c d k : Nat} {A : Option Addr} {r0 r r' : List UInt8} {vs : List Ev} {acc : List Ex} (h : ArgInv f w B A n c d r0 r vs acc k) (hz : w.heap.size ≤ w'.heap.size) (hs : ∀ g, B ≤ g → g < w.heap.size → Same w w' g) (he : argsP f d k acc r' = argsP f d k acc r) (hl : r'.length ≤ r.length) : ArgInv f w' B A n c d r0 r' vs acc k :=
  ⟨own_same h.own (fun b hb => hs b (h.own.lt b hb).1 (h.own.lt b hb).2), h.len, AllEx.keep hz (fun g h1 h2 => ⟨hs g h1.1 h2, h1⟩) acc vs h.all, he.trans h.eq, by have := h.room; omega⟩

def CallInv (f : Nat → List UInt8 → R) (name : List UInt8) (w : World) (B : Nat) (A : Option Addr) (n c d : Nat) (d' : Int) (r r' : List UInt8) (b : Bool) : Prop :=
  (b = true ∧ callP f name d r = .bad) ∨ (b = false ∧ d' = (d : Int) ∧ ∃ vs acc k, ArgInv f w B A n c d r r' vs acc k)

/-- Behind an argument. -/
def ArgDone (f : Nat → List UInt8 → R) (name : List UInt8) (w : World) (B : Nat) (A : Option Addr) (n c d : Nat) (d' : Int) (r r2 : List UInt8) (b : Bool) : Prop :=
  (b = true ∧ callP f name d r = .bad) ∨ (b = false ∧ d' = (d : Int) ∧ ∃ (vs : List Ev) (acc : List Ex) (k : Nat),
    w.ownsRow B 25 14 (.slice A n c) n (vs.flatMap Ev.cells) ∧ vs.length = n ∧ AllEx w (Kids B (.slice A n c)) acc vs ∧
    (if pk (blk r2) = 41 then .ok acc (blk r2).tail else if pk (blk r2) = 44 then argsP f d k acc (blk r2).tail else .bad) = argsP f d (r.length + 1) [] (blk r.tail) ∧ n + r2.length ≤ 8193)

theorem u8_of {a b : UInt8} (h : ((a.toNat : Int) == (b.toNat : Int)) = true) : a = b := by
  rw [beq_iff_eq] at h
  have h' : a.toNat = b.toNat := by omega
  exact UInt8.toNat_inj.1 h'
theorem ArgDone.keep {f : Nat → List UInt8 → R} {name : List UInt8} {w w' : World} {B n c d : Nat} {A : Option Addr} {d' : Int} {r r2 : List UInt8} {b : Bool} (h : ArgDone f name w B A n c d d' r r2 b) (hz : w.heap.size ≤ w'.heap.size) (hs : ∀ g, B ≤ g → g < w.heap.size → Same w w' g) : ArgDone f name w' B A n c d d' r r2 b := by
  rcases h with h | ⟨h1, h2, vs, acc, k, h3, h4, h5, h6, h7⟩
  · exact .inl h
  · exact .inr ⟨h1, h2, vs, acc, k, own_same h3 (fun b hb => hs b (h3.lt b hb).1 (h3.lt b hb).2), h4, AllEx.keep hz (fun g a1 a2 => ⟨hs g a1.1 a2, a1⟩) acc vs h5, h6, h7⟩
theorem row_of_own {w : World} {B n c : Nat} {A : Option Addr} {vs : List Ev} (h : w.ownsRow B 25 14 (.slice A n c) n (vs.flatMap Ev.cells)) (hl : vs.length = n) : RowOf w (From B) A vs := by
  intro hn
  have hn0 : 0 < n := by
    rw [← hl]
    exact List.length_pos_iff.2 hn
  obtain ⟨g, cap, hv, _⟩ := h.form hn0
  injection hv with hA hm hc
  subst hA
  have hlt := h.lt g (by rw [hm, hc]; rfl)
  refine ⟨g, rfl, hlt.1, hlt.2, fun j u hj => ?_⟩
  have h0 := h.cells (g := g) (by rw [hm, hc]; rfl) j u hj
  rw [addAt] at h0
  exact h0
/-- What reading one argument comes to. -/
def ArgPost (f : Nat → List UInt8 → R) (g : Nat) (s : ByteArray) (d : Nat) (w : World) (r : List UInt8) (e : Ending) (w' : World) : Prop := TreePost w g s d (f d r) e w'
theorem argPost_open {f : Nat → List UInt8 → R} {g : Nat} {s : ByteArray} {d : Nat} {w w' : World} {r : List UInt8} {e : Ending} (hne : f d r ≠ .out) (h : ArgPost f g s d w r e w') : ∃ (v : Ev) (r3 : List UInt8) (d3 : Int) (b3 : Bool), e = .returned v.val ∧ At w' g s r3 d3 b3 ∧ Fr w w' g ∧ ((b3 = true ∧ f d r = .bad) ∨ (b3 = false ∧ d3 = (d : Int) ∧ ∃ x, f d r = .ok x r3 ∧ IsEx w' (From w.heap.size) x v)) := by
  unfold ArgPost at h
  cases hf : f d r with
  | out => exact absurd hf hne
  | bad =>
    rw [hf] at h
    obtain ⟨v, r3, d3, he, hA, hF⟩ := h
    exact ⟨v, r3, d3, true, he, hA, hF, .inl ⟨rfl, rfl⟩⟩
  | ok x r3 =>
    rw [hf] at h
    obtain ⟨v, he, hx, hA, hF⟩ := h
    exact ⟨v, r3, d, false, he, hA, hF, .inr ⟨rfl, rfl, x, rfl, hx⟩⟩
theorem callP_bad {f : Nat → List UInt8 → R} {name : List UInt8} {d : Nat} {r : List UInt8} (h : pk (blk r.tail) ≠ 41) (h2 : argsP f d (r.length + 1) [] (blk r.tail) = .bad) : callP f name d r = .bad := by
  unfold callP
  rw [if_neg h, h2]

set_option maxHeartbeats 16000000 in
set_option maxRecDepth 100000 in
theorem call_any (f : Nat → List UInt8 → R) (hf : LvlOk f) (g : Nat) (s : ByteArray) (name r : List UInt8) (d : Nat) (w : World) (h : At w g s r d false) (hd : d ≤ 360) (hr : pk r = 40) (hout : callP f name d r ≠ .out) :
    Calls Tryz.prog 61 #[.pointer (some ⟨g, 0, none⟩), .string (bs name)] w (TreePost w g s d (callP f name d r)) := by
  obtain ⟨i0, hi, hz0, hz1, hz2⟩ := info_parts infoEx
  obtain ⟨j, hj⟩ : ∃ j, w.heap.size = j := ⟨_, rfl⟩
  have hgj : g < j := hj ▸ h.lt
  obtain ⟨W, hW⟩ : ∃ W, (w.alloc (.cells (exCells Ev.zero) 25)).alloc (.cells (exCells { Ev.zero with op := sCall, text := bs name }) 25) = W := ⟨_, rfl⟩
  have hc := pk_cons (r := r) (by rw [hr]; decide)
  have HA : Hid (At W g s r d false) := by subst hW; exact (h.alloc _).alloc _
  have HF : Hid (Fr w W g) := by subst hW; exact ((Fr.refl w g).alloc _).alloc _
  have HB4 : Hid (Box W j (exCells Ev.zero) 25) := by subst hW; subst hj; exact (Box.made _ _ _).alloc _
  have HB5 : Hid (Box W (j + 1) (exCells { Ev.zero with op := sCall, text := bs name }) 25) := by
    show Box W (j + 1) _ _
    have e : j + 1 = (w.alloc (.cells (exCells Ev.zero) 25)).heap.size := by rw [← hj]; simp
    rw [e]
    subst hW
    exact Box.made _ _ _
  have HZ5 : Hid (j + 2 ≤ W.heap.size) := by
    show j + 2 ≤ W.heap.size
    rw [← hW, ← hj]
    simp
  have HJ := Lib.hid hj
  have HW := Lib.hid hW
  have HC := Lib.hid hc
  have HOUT := Lib.hid hout
  have HLF := Lib.hid hf
  have h8 := h.small
  have hrl := h.len
  have HR8 : Hid (r.length ≤ 8192) := Lib.hid (by omega)
  clear h hW hc hout hf h8 hrl hr
  unfold exCells at HW
  simp only [Ev.zero, sCall] at HW
  go_enter Tryz.func61, Tryz.ntmps61
  go_upto_region 2 with (fail)
  rw [HW.out]
  clear HW hj
  obtain ⟨q, q0, q1, HQ, c1, f1⟩ := HA.out.see
  have HA2 : Hid (At (W.setCell ⟨g, 1, none⟩ (.int .i64 (q + 1))) g s r.tail d false) := by
    have h1 := HA.out
    rw [HC.out] at h1
    exact h1.step (q + 1) (by rw [HQ.out, ← HC.out])
  have HF2 := Lib.hid (HF.out.trans (Fr.set g 1 (.int .i64 (q + 1))))
  have HB4 := Lib.hid (HB4.out.other (k := g) 1 (.int .i64 (q + 1)) (by omega))
  have HB5 := Lib.hid (HB5.out.other (k := g) 1 (.int .i64 (q + 1)) (by omega))
  have HZ5 : Hid (j + 2 ≤ (W.setCell ⟨g, 1, none⟩ (.int .i64 (q + 1))).heap.size) := by
    have := HZ5.out
    show j + 2 ≤ (W.setCell ⟨g, 1, none⟩ (.int .i64 (q + 1))).heap.size
    simpa [World.setCell] using this
  go_wp2_with fail
  clear c1 f1
  generalize W.setCell ⟨g, 1, none⟩ (.int .i64 (q + 1)) = w1 at HA2 HF2 HB4 HB5 HZ5 ⊢
  refine (blanks_any g s r.tail d false w1 HA2.out).mono ?_
  rintro e w2 ⟨rfl, hA, hF⟩
  have HA2 := Lib.hid hA
  have HF2 := Lib.hid (HF2.out.trans hF)
  have HB4 := Lib.hid (HB4.out.fr hF (by omega))
  have HB5 := Lib.hid (HB5.out.fr hF (by omega))
  have HZ5 : Hid (j + 2 ≤ w2.heap.size) := Lib.hid (Nat.le_trans HZ5.out hF.size)
  clear hA hF
  go_wp2_with fail
  by_cases hp : pk (blk r.tail) = 41
  · have HZ : Hid (callP f name d r = .ok (.call name []) (blk r.tail).tail) := Lib.hid (if_pos hp)
    refine (one_yes 41 g s _ d false w2 HA2.out hp (by decide)).mono ?_
    rintro e w3 ⟨rfl, hA, hF⟩
    have HA2 := Lib.hid hA
    have HF2 := Lib.hid (HF2.out.trans hF)
    have HB4 := Lib.hid (HB4.out.fr hF (by omega))
    have HB5 := Lib.hid (HB5.out.fr hF (by omega))
    clear hA hF hp
    obtain ⟨d0, d1, d2, d3, d4, d5, d6, d7, d8, d9, d10, d11, d12, d13⟩ := HB4.out.ex
    obtain ⟨e0, e1, e2, e3, e4, e5, e6, e7, e8, e9, e10, e11, e12, e13⟩ := HB5.out.ex
    have ff := HB4.out.free
    go_wp2
    refine tree_put { Ev.zero with op := sCall, text := bs name } rfl rfl HB4.out ?_
    rw [HZ.out]
    refine ⟨_, rfl, ⟨none, 0, [], rfl, fun h => absurd rfl h, rfl⟩, HA2.out.put _ (by omega), HF2.out.put _ (by have := HJ.out; omega)⟩
  · have HZ : Hid (callP f name d r = match argsP f d (r.length + 1) [] (blk r.tail) with
      | .out => .out
      | .bad => .bad
      | .ok l rest => .ok (.call name l) rest) := Lib.hid (if_neg hp)
    have HBADP := Lib.hid (fun h2 => callP_bad (f := f) (name := name) (d := d) hp h2)
    have HO2 : Hid (argsP f d (r.length + 1) [] (blk r.tail) ≠ .out) := by
      show argsP f d (r.length + 1) [] (blk r.tail) ≠ .out
      intro h2
      apply HOUT.out
      rw [HZ.out, h2]
    refine (one_no 41 g s _ d false w2 HA2.out hp).mono ?_
    rintro e w3 ⟨rfl, n, rfl⟩
    clear hp
    go_wp2_with fail
    have HA2 := Lib.hid (HA2.out.drewN n)
    have HF2 := Lib.hid (HF2.out.trans (Fr.drewN _ _ n))
    have HB4 := Lib.hid (HB4.out.drewN n)
    have HB5 := Lib.hid (HB5.out.drewN n)
    have HZ5 : Hid (j + 2 ≤ (w2.drewN n).heap.size) := Lib.hid HZ5.out
    generalize w2.drewN n = w3 at HA2 HF2 HB4 HB5 HZ5 ⊢
    have HL0 : Hid ((blk r.tail).length ≤ 8192) := by
      have h1 := (blk_suf r.tail).length_le
      have h2 := HR8.out
      have h3 : r.tail.length ≤ r.length := by simp
      exact Lib.hid (by omega)
    have HI : Hid (CallInv f name w3 (j + 2) none 0 0 d d r (blk r.tail) false) := Lib.hid (.inr ⟨rfl, rfl, [], [], r.length + 1, World.ownsRow_nil _ _ _ _, rfl, rfl, rfl, by have := HL0.out; omega⟩)
    go_loopw [] (fun wr => ∃ (r' : List UInt8) (d' : Int) (b : Bool) (A : Option Addr) (n c : Nat), Hid (At wr g s r' d' b) ∧ Hid (Fr w wr g) ∧ Hid (Box wr j (exCells Ev.zero) 25) ∧ Hid (Box wr (j + 1) (exCells { Ev.zero with op := sCall, text := bs name, A := A, n := n, k := c }) 25) ∧ Hid (j + 2 ≤ wr.heap.size) ∧ Hid (CallInv f name wr (j + 2) A n c d d' r r' b)) (fun wr => lft wr g)
    case atStart => exact ⟨_, _, _, none, 0, 0, HA2, HF2, HB4, HB5, HZ5, HI⟩
    clear HA2 HF2 HB4 HB5 HZ5 HI
    case round =>
      obtain ⟨r', d', b, A, n, c, HA, HF, HB4, HB5, HZ5, HI⟩ := hrel
      have b3 := HA.out.c3
      cases b with
      | true =>
        have HZB : Hid (callP f name d r = .bad) := by
          rcases HI.out with ⟨_, h⟩ | ⟨h, _⟩
          · exact Lib.hid h
          · cases h
        obtain ⟨d0, d1, d2, d3, d4, d5, d6, d7, d8, d9, d10, d11, d12, d13⟩ := HB4.out.ex
        obtain ⟨e0, e1, e2, e3, e4, e5, e6, e7, e8, e9, e10, e11, e12, e13⟩ := HB5.out.ex
        have ff := HB4.out.free
        go_wp2
        refine tree_put { Ev.zero with op := sCall, text := bs name, A := A, n := n, k := c } rfl rfl HB4.out ?_
        rw [HZB.out]
        exact ⟨_, _, _, rfl, HA.out.put _ (by omega), HF.out.put _ (by have := HJ.out; omega)⟩
      | false =>
        have HM0 := Lib.hid HA.out.lft1
        have HI2 : Hid (d' = (d : Int) ∧ ∃ vs acc k, ArgInv f wr (j + 2) A n c d r r' vs acc k) := by
          rcases HI.out with ⟨h, _⟩ | ⟨_, h⟩
          · cases h
          · exact Lib.hid h
        obtain ⟨hd', vs, acc, k, hI⟩ := HI2.out
        subst hd'
        have HI := Lib.hid hI
        clear hI HI2
        go_wp2_with fail
        refine (blanks_any g s r' d false wr HA.out).mono ?_
        rintro e w4 ⟨rfl, hA, hF⟩
        have HI := Lib.hid (HI.out.keep hF.size (fun b hb hl => hF.block b hl (by simp; omega)) (r' := r') rfl (Nat.le_refl _))
        have HA := Lib.hid hA
        have HF := Lib.hid (HF.out.trans hF)
        have HB4 := Lib.hid (HB4.out.fr hF (by omega))
        have HB5 := Lib.hid (HB5.out.fr hF (by omega))
        have HZ5 : Hid (j + 2 ≤ w4.heap.size) := Lib.hid (Nat.le_trans HZ5.out hF.size)
        clear hA hF b3
        have PK := Lib.hid (peek_any g s (blk r') d false w4 HA.out)
        obtain ⟨k1, hk1⟩ : ∃ k1, k = k1 + 1 := by
          cases k with
          | zero => exact absurd (HI.out.eq.symm.trans rfl) HO2.out
          | succ k1 => exact ⟨k1, rfl⟩
        subst hk1
        obtain ⟨y1, hy1⟩ : ∃ y1, (((pk (blk r')).toNat : Int) == 44) = y1 := ⟨_, rfl⟩
        obtain ⟨y2, hy2⟩ : ∃ y2, (((pk (blk r')).toNat : Int) == 41) = y2 := ⟨_, rfl⟩
        cases y1
        · cases y2
          · have HSW : Hid (¬ (pk (blk r') = 44 ∨ pk (blk r') = 41)) := by
              show ¬ (pk (blk r') = 44 ∨ pk (blk r') = 41)
              rintro (h | h)
              · rw [h] at hy1
                cases hy1
              · rw [h] at hy2
                cases hy2
            go_wp2_with fail
            refine PK.out.mono ?_
            rintro e w' ⟨rfl, m1, rfl⟩
            clear PK
            have HI := Lib.hid (HI.out.keep (w' := w4.drewN m1) (Nat.le_refl _) (fun b hb hl => Same.of_below (below_drewN w4 m1) hl) (r' := r') rfl (Nat.le_refl _))
            have HA := Lib.hid (HA.out.drewN m1)
            have HF := Lib.hid (HF.out.trans (Fr.drewN _ _ m1))
            have HB4 := Lib.hid (HB4.out.drewN m1)
            have HB5 := Lib.hid (HB5.out.drewN m1)
            have HZ5 : Hid (j + 2 ≤ (w4.drewN m1).heap.size) := Lib.hid HZ5.out
            go_upto_if 35 with fail
            generalize w4.drewN m1 = w5 at HI HA HF HB4 HB5 HZ5 ⊢
            go_cut [] (fun wx => ∃ (r2 : List UInt8) (d2 : Int) (b2 : Bool) (A2 : Option Addr) (n2 c2 : Nat), Hid (At wx g s r2 d2 b2) ∧ Hid (Fr w wx g) ∧ Hid (Box wx j (exCells Ev.zero) 25) ∧ Hid (Box wx (j + 1) (exCells { Ev.zero with op := sCall, text := bs name, A := A2, n := n2, k := c2 }) 25) ∧ Hid (j + 2 ≤ wx.heap.size) ∧ Hid (ArgDone f name wx (j + 2) A2 n2 c2 d d2 r r2 b2) ∧ Hid (b2 = false → r2.length ≤ r'.length))
            case first =>
              have hNO : argsP f d (k1 + 1) acc r' = match f d (blk r') with
                  | .out => .out
                  | .bad => .bad
                  | .ok x r2 => if pk (blk r2) = 41 then .ok (acc ++ [x]) (blk r2).tail else if pk (blk r2) = 44 then argsP f d k1 (acc ++ [x]) (blk r2).tail else .bad := by
                show (match (if pk (blk r') = 44 ∨ pk (blk r') = 41 then R.ok .odd (blk r') else f d (blk r')) with
                  | .out => RL.out
                  | .bad => RL.bad
                  | .ok x r2 => if pk (blk r2) = 41 then .ok (acc ++ [x]) (blk r2).tail else if pk (blk r2) = 44 then argsP f d k1 (acc ++ [x]) (blk r2).tail else .bad) = _
                rw [if_neg HSW.out]
              have HNO := Lib.hid hNO
              have hfo : f d (blk r') ≠ .out := by
                intro h
                apply HO2.out
                rw [← HI.out.eq, hNO, h]
              have hCL := HLF.out.run g s (blk r') d w5.drew HA.out.drew hd hfo
              have HCL : Hid (Calls Tryz.prog 10 #[.pointer (some ⟨g, 0, none⟩), .int .i64 1] w5.drew (ArgPost f g s d w5.drew (blk r'))) := Lib.hid hCL
              have HFO := Lib.hid hfo
              have HS0 : Hid (w5.drew.cell? ⟨j + 1, 13, none⟩ = some (.slice A n c)) := Lib.hid HB5.out.ex.c13
              clear hNO hfo hCL
              go_wp2_with fail
              refine wp_region_late (List.replicate 8 false) [true, true, true, false, false, false, true, false] (S := fun w' => w'.cell? ⟨j + 1, 13, none⟩ = some (.slice A n c)) (by kernel_rfl) (by kernel_rfl) (by kernel_rfl) (fun d _ _ _ _ h => by cases d <;> exact h) HS0.out ?_
              simp only [List.replicate, swaps]
              iterate 3
                refine seqT_take (v := ?_) (by rfl) ?_ ?_
                rotate_left
                · intro w' hSw
                  go_simp
                  try (with_reducible rfl)
                try simp only [Act.put, List.setIfInBounds_toArray, List.set_cons_zero, List.set_cons_succ]
              refine seqT_solo (by rfl) (fun K hK => ?_)
              go_simp
              refine HCL.out.mono ?_
              intro e w6 hpost
              obtain ⟨v, r3, d3, b3, rfl, hA6, hF6, hv⟩ := argPost_open HFO.out hpost
              clear hpost
              have hn8 : n ≤ 8192 := by have := HI.out.room; omega
              have hFd : Fr w5 w6 g := (Fr.of_below g (Below.refl _ _).drew).trans hF6
              have hown6 : w6.ownsRow (j + 2) 25 14 (.slice A n c) n (vs.flatMap Ev.cells) := own_same HI.out.own (fun b hb => hFd.block b (HI.out.own.lt b hb).2 (by have := (HI.out.own.lt b hb).1; simp; omega))
              have hall6 : AllEx w6 (Kids (j + 2) (.slice A n c)) acc vs := HI.out.all.fr hFd (fun h => by have := h.1; omega)
              have hbel : Below w6.heap.size w6 (w6.alloc (.cells (exCells v) 25)) := (Below.refl _ _).alloc (Nat.le_refl _) _
              have hz6 : j + 2 ≤ w6.heap.size := Nat.le_trans HZ5.out hFd.size
              obtain ⟨A', c', w7, happ, hown, hgr, hloc⟩ := push_row w6 (j + 2) n c A vs v hown6 hn8 hz6 (w6.alloc (.cells (exCells v) 25)) hbel w6.heap.size (Box.made _ _ _)
              have hob : ∀ k, (Value.slice A n c).ownBlock = some k → j + 2 ≤ k ∧ k < w5.heap.size := fun k hk => HI.out.own.lt k hk
              have HB46 := Lib.hid (((HB4.out.fr hFd (by omega)).below hbel).grow hgr (fun e => by have := (hob j e).1; omega))
              have h56 := HB5.out.fr hFd (by omega)
              have h57 := h56.below hbel
              have h58 := h57.grow hgr (fun e => by have := (hob (j + 1) e).1; omega)
              have HB56 := Lib.hid h58
              have HA6 := Lib.hid ((hA6.below hbel).grow hgr (fun e => by have := (hob g e).1; omega))
              have HF6 := Lib.hid (((HF.out.trans hFd).trans (Fr.of_below g hbel)).grow hgr (fun k hk => by have := (hob k hk).1; have := HJ.out; omega))
              have HZ6 : Hid (j + 2 ≤ w7.heap.size) := Lib.hid (Nat.le_trans hz6 (Nat.le_trans hbel.size hgr.size))
              have hcut2 : ArgDone f name (w7.setCell ⟨j + 1, 13, none⟩ (.slice A' (n + 1) c')) (j + 2) A' (n + 1) c' d d3 r r3 b3 ∧ (b3 = false → r3.length ≤ r'.length) := by
                have hne : argsP f d (k1 + 1) acc r' = argsP f d (r.length + 1) [] (blk r.tail) := HI.out.eq
                rw [HNO.out] at hne
                rcases hv with ⟨rfl, hfb⟩ | ⟨rfl, rfl, x, hfx, hx⟩
                · rw [hfb] at hne
                  exact ⟨.inl ⟨rfl, HBADP.out hne.symm⟩, fun h => by cases h⟩
                · rw [hfx] at hne
                  have hsh := Nat.le_trans (HLF.out.shr _ _ _ _ hfx) (blk_suf r').length_le
                  have hpa := push_all (V' := .slice A' (n + 1) c') (hall6.below hbel) (hx.below hbel) (fun g1 h1 h2 => by
                    have hz5 := HZ5.out
                    have h3 : w5.heap.size ≤ g1 := h1
                    refine ⟨by omega, fun e => ?_⟩
                    have := (hob g1 e).2
                    omega) hgr hloc
                  refine ⟨.inr ⟨rfl, rfl, vs ++ [v], acc ++ [x], k1, own_same hown (fun b hb => Same.of_set _ _ (by have := (hown.lt b hb).1; show b ≠ j + 1; omega)), by rw [List.length_append, HI.out.len]; rfl, hpa.set (fun h => by have := h.1; omega), hne, ?_⟩, fun _ => hsh⟩
                  have := HI.out.room
                  omega
              have HCUT := Lib.hid hcut2
              have x13 := h56.ex.c13
              have x14 := h57.ex.c13
              have x15 := h58.ex.c13
              have y13 := h58.free 13
              refine hK.out _ _ (fun _ => x13) ?_
              clear hK K hcut2 hv hown6 hall6 hz6 hown hgr hloc hob h56 h57 hFd hA6 hF6 HCL HFO HI
              unfold exCells at happ x14
              try simp only [Act.put, List.setIfInBounds_toArray, List.set_cons_zero, List.set_cons_succ]
              refine seqT_solo (by rfl) (fun K hK => ?_)
              unfold Ev.val
              go_simp
              refine hK.out _ _ (fun _ => x14) ?_
              clear hK K
              try simp only [Act.put, List.setIfInBounds_toArray, List.set_cons_zero, List.set_cons_succ]
              refine seqT_solo (by rfl) (fun K hK => ?_)
              refine wp_append _ _ _ (by rfl) (by rfl) (by rfl) happ ?_
              refine hK.out _ _ (fun _ => x15) ?_
              clear hK K
              try simp only [Act.put, List.setIfInBounds_toArray, List.set_cons_zero, List.set_cons_succ]
              refine seqT_take (v := ?_) (by rfl) ?_ ?_
              rotate_left
              · intro w' hSw
                go_simp
                try (with_reducible rfl)
              try simp only [Act.put, List.setIfInBounds_toArray, List.set_cons_zero, List.set_cons_succ]
              refine seqT_solo (by rfl) (fun K hK => ?_)
              go_simp
              refine hK.out _ _ (fun h => absurd rfl h) ?_
              clear hK K
              try simp only [Act.put, List.setIfInBounds_toArray, List.set_cons_zero, List.set_cons_succ]
              refine seqT_done ?_
              go_wp2_with fail
              have h5 := HB56.out.set 13 (.slice A' (n + 1) c')
              rw [exCells_kids] at h5
              go_meet
              exact ⟨r3, d3, b3, A', n + 1, c', Lib.hid (HA6.out.other (k := j + 1) 13 _ (by omega)), Lib.hid (HF6.out.own (j := j + 1) 13 _ (by have := HJ.out; omega)), Lib.hid (HB46.out.other (k := j + 1) 13 _ (by omega)), Lib.hid h5, Lib.hid (by have := HZ6.out; simpa [World.setCell] using this), Lib.hid HCUT.out.1, Lib.hid HCUT.out.2⟩
            case rest =>
              obtain ⟨r2, d2, b2, A2, n2, c2, HA, HF, HB4, HB5, HZ5, HD, HL2⟩ := hcut
              go_wp2_with fail
              refine (blanks_any g s r2 d2 b2 wc HA.out).mono ?_
              rintro e w7 ⟨rfl, hA, hF⟩
              have HD := Lib.hid (HD.out.keep hF.size (fun b hb hl => hF.block b hl (by simp; omega)))
              have HA := Lib.hid hA
              have HF := Lib.hid (HF.out.trans hF)
              have HB4 := Lib.hid (HB4.out.fr hF (by omega))
              have HB5 := Lib.hid (HB5.out.fr hF (by omega))
              have HZ5 : Hid (j + 2 ≤ w7.heap.size) := Lib.hid (Nat.le_trans HZ5.out hF.size)
              clear hA hF
              go_wp2_with fail
              by_cases h41 : pk (blk r2) = 41
              · refine (one_yes 41 g s _ d2 b2 w7 HA.out h41 (by decide)).mono ?_
                rintro e w8 ⟨rfl, hA, hF⟩
                have HD := Lib.hid (HD.out.keep hF.size (fun b hb hl => hF.block b hl (by simp; omega)))
                have HA := Lib.hid hA
                have HF := Lib.hid (HF.out.trans hF)
                have HB4 := Lib.hid (HB4.out.fr hF (by omega))
                have HB5 := Lib.hid (HB5.out.fr hF (by omega))
                have HH := Lib.hid h41
                clear hA hF h41
                obtain ⟨d0, d1, d2', d3, d4, d5, d6, d7, d8, d9, d10, d11, d12, d13⟩ := HB4.out.ex
                obtain ⟨e0, e1, e2, e3, e4, e5, e6, e7, e8, e9, e10, e11, e12, e13⟩ := HB5.out.ex
                have ff := HB4.out.free
                go_wp2
                refine tree_put { Ev.zero with op := sCall, text := bs name, A := A2, n := n2, k := c2 } rfl rfl HB4.out ?_
                rcases HD.out with ⟨rfl, hb⟩ | ⟨rfl, rfl, vs', acc', k', h1, h2, h3, h4, h5⟩
                · rw [hb]
                  exact ⟨_, _, _, rfl, HA.out.put _ (by omega), HF.out.put _ (by have := HJ.out; omega)⟩
                · rw [if_pos HH.out] at h4
                  rw [HZ.out, ← h4]
                  have hlen := AllEx.len _ _ h3
                  have hsub : ∀ k, From (j + 2) k → k < w8.heap.size → From w.heap.size k := fun k h _ => by
                    have := HJ.out
                    unfold From at h ⊢
                    omega
                  have hall : AllEx (put14 w8 j { Ev.zero with op := sCall, text := bs name, A := A2, n := n2, k := c2 }) (From w.heap.size) acc' vs' := (h3.mono (S' := From (j + 2)) (fun k h _ => h.1)).put (fun h => by unfold From at h; omega) |>.mono (fun k h _ => by
                    have := HJ.out
                    unfold From at h ⊢
                    omega)
                  have hrow : RowOf (put14 w8 j { Ev.zero with op := sCall, text := bs name, A := A2, n := n2, k := c2 }) (From w.heap.size) A2 vs' := ((row_of_own h1 h2).put (fun h => by unfold From at h; omega)).keep (Nat.le_refl _) (fun k h _ => ⟨rfl, by
                    have := HJ.out
                    unfold From at h ⊢
                    omega⟩)
                  exact ⟨_, rfl, ⟨A2, c2, vs', by rw [← hlen, h2], hrow, hall⟩, HA.out.put _ (by omega), HF.out.put _ (by have := HJ.out; omega)⟩
              · have H41 := Lib.hid h41
                refine (one_no 41 g s _ d2 b2 w7 HA.out h41).mono ?_
                rintro e w8 ⟨rfl, m2, rfl⟩
                have HD := Lib.hid (HD.out.keep (w' := w7.drewN m2) (Nat.le_refl _) (fun b hb hl => Same.of_below (below_drewN w7 m2) hl))
                have HA := Lib.hid (HA.out.drewN m2)
                have HF := Lib.hid (HF.out.trans (Fr.drewN _ _ m2))
                have HB4 := Lib.hid (HB4.out.drewN m2)
                have HB5 := Lib.hid (HB5.out.drewN m2)
                have HZ5 : Hid (j + 2 ≤ (w7.drewN m2).heap.size) := Lib.hid HZ5.out
                clear h41
                go_wp2_with fail
                generalize w7.drewN m2 = w8 at HD HA HF HB4 HB5 HZ5 ⊢
                by_cases h44 : pk (blk r2) = 44
                · refine (one_yes 44 g s _ d2 b2 w8 HA.out h44 (by decide)).mono ?_
                  rintro e w9 ⟨rfl, hA, hF⟩
                  have HD := Lib.hid (HD.out.keep hF.size (fun b hb hl => hF.block b hl (by simp; omega)))
                  have HA := Lib.hid hA
                  have HF := Lib.hid (HF.out.trans hF)
                  have HB4 := Lib.hid (HB4.out.fr hF (by omega))
                  have HB5 := Lib.hid (HB5.out.fr hF (by omega))
                  have HZ5 : Hid (j + 2 ≤ w9.heap.size) := Lib.hid (Nat.le_trans HZ5.out hF.size)
                  have HH := Lib.hid h44
                  have hlt : (blk r2).tail.length < r2.length := by
                    have h1 := congrArg List.length (pk_cons (r := blk r2) (by rw [h44]; decide))
                    have h2 := (blk_suf r2).length_le
                    simp only [List.length_cons] at h1
                    omega
                  have HLT := Lib.hid hlt
                  clear hA hF h44 hlt
                  go_wp2
                  go_roundw
                  case rel =>
                    refine ⟨_, _, b2, A2, n2, c2, HA, HF, HB4, HB5, HZ5, ?_⟩
                    rcases HD.out with ⟨hb, hc⟩ | ⟨hb, hd2, vs', acc', k', h1, h2, h3, h4, h5⟩
                    · exact Lib.hid (.inl ⟨hb, hc⟩)
                    · rw [if_neg H41.out, if_pos HH.out] at h4
                      exact Lib.hid (.inr ⟨hb, hd2, vs', acc', k', h1, h2, h3, h4, by have := HLT.out; omega⟩)
                  case measure =>
                    rw [HM0.out]
                    cases b2 with
                    | true =>
                      rw [HA.out.lft0]
                      omega
                    | false =>
                      rw [HA.out.lft1]
                      have := HLT.out
                      have := HL2.out rfl
                      omega
                · refine (one_no 44 g s _ d2 b2 w8 HA.out h44).mono ?_
                  rintro e w9 ⟨rfl, m3, rfl⟩
                  have HH := Lib.hid h44
                  clear h44
                  have HA := Lib.hid (HA.out.drewN m3)
                  have HF := Lib.hid (HF.out.trans (Fr.drewN _ _ m3))
                  have HB4 := Lib.hid (HB4.out.drewN m3)
                  have HB5 := Lib.hid (HB5.out.drewN m3)
                  have HZ5 : Hid (j + 2 ≤ (w8.drewN m3).heap.size) := Lib.hid HZ5.out
                  generalize w8.drewN m3 = w9 at HA HF HB4 HB5 HZ5 ⊢
                  have b3 := HA.out.c3
                  have bf := HA.out.free 3
                  go_wp2
                  go_roundw
                  case rel =>
                    refine ⟨_, _, true, A2, n2, c2, Lib.hid (HA.out.setBad true), Lib.hid (HF.out.trans (Fr.set g 3 _)), Lib.hid (HB4.out.other (k := g) 3 _ (by omega)), Lib.hid (HB5.out.other (k := g) 3 _ (by omega)), Lib.hid (by have := HZ5.out; simpa [World.setCell] using this), Lib.hid (.inl ⟨rfl, ?_⟩)⟩
                    rcases HD.out with ⟨hb, hc⟩ | ⟨hb, hd2, vs', acc', k', h1, h2, h3, h4, h5⟩
                    · exact hc
                    · rw [if_neg H41.out, if_neg HH.out] at h4
                      exact HBADP.out h4.symm
                  case measure =>
                    rw [(HA.out.setBad true).lft0, HM0.out]
                    omega
          · have HSW : Hid (pk (blk r') = 44 ∨ pk (blk r') = 41) := Lib.hid (.inr (u8_of hy2))
            go_wp2_with fail
            refine PK.out.mono ?_
            rintro e w' ⟨rfl, m1, rfl⟩
            clear PK
            have HI := Lib.hid (HI.out.keep (w' := w4.drewN m1) (Nat.le_refl _) (fun b hb hl => Same.of_below (below_drewN w4 m1) hl) (r' := r') rfl (Nat.le_refl _))
            have HA := Lib.hid (HA.out.drewN m1)
            have HF := Lib.hid (HF.out.trans (Fr.drewN _ _ m1))
            have HB4 := Lib.hid (HB4.out.drewN m1)
            have HB5 := Lib.hid (HB5.out.drewN m1)
            have HZ5 : Hid (j + 2 ≤ (w4.drewN m1).heap.size) := Lib.hid HZ5.out
            go_upto_if 35 with fail
            generalize w4.drewN m1 = w5 at HI HA HF HB4 HB5 HZ5 ⊢
            go_cut [] (fun wx => ∃ (r2 : List UInt8) (d2 : Int) (b2 : Bool) (A2 : Option Addr) (n2 c2 : Nat), Hid (At wx g s r2 d2 b2) ∧ Hid (Fr w wx g) ∧ Hid (Box wx j (exCells Ev.zero) 25) ∧ Hid (Box wx (j + 1) (exCells { Ev.zero with op := sCall, text := bs name, A := A2, n := n2, k := c2 }) 25) ∧ Hid (j + 2 ≤ wx.heap.size) ∧ Hid (ArgDone f name wx (j + 2) A2 n2 c2 d d2 r r2 b2) ∧ Hid (b2 = false → r2.length ≤ r'.length))
            case first =>
              have hNO : argsP f d (k1 + 1) acc r' = if pk (blk (blk r')) = 41 then .ok (acc ++ [.odd]) (blk (blk r')).tail else if pk (blk (blk r')) = 44 then argsP f d k1 (acc ++ [.odd]) (blk (blk r')).tail else .bad := by
                show (match (if pk (blk r') = 44 ∨ pk (blk r') = 41 then R.ok .odd (blk r') else f d (blk r')) with
                  | .out => RL.out
                  | .bad => RL.bad
                  | .ok x r2 => if pk (blk r2) = 41 then .ok (acc ++ [x]) (blk r2).tail else if pk (blk r2) = 44 then argsP f d k1 (acc ++ [x]) (blk r2).tail else .bad) = _
                rw [if_pos HSW.out]
              have HNO := Lib.hid hNO
              have hn8 : n ≤ 8192 := by have := HI.out.room; omega
              obtain ⟨A', c', w6, happ, hown, hgr, hloc⟩ := push_row w5 (j + 2) n c A vs { Ev.zero with op := sNone } HI.out.own hn8 HZ5.out (w5.alloc (.cells (exCells { Ev.zero with op := sNone }) 25)) ((Below.refl _ _).alloc (Nat.le_refl _) _) w5.heap.size (Box.made _ _ _)
              have hbel : Below w5.heap.size w5 (w5.alloc (.cells (exCells { Ev.zero with op := sNone }) 25)) := (Below.refl _ _).alloc (Nat.le_refl _) _
              have hob : ∀ k, (Value.slice A n c).ownBlock = some k → j + 2 ≤ k := fun k hk => (HI.out.own.lt k hk).1
              have HALL := Lib.hid (push_all (V' := .slice A' (n + 1) c') (x := .odd) (v := { Ev.zero with op := sNone }) (S := fun _ => False) (HI.out.all.below hbel) (by show sNone ∈ oddOps; simp [oddOps]) (fun g h _ => h.elim) hgr hloc)
              have HOWN := Lib.hid hown
              have HA6 := Lib.hid ((HA.out.below hbel).grow hgr (fun e => by have := hob g e; omega))
              have HF6 := Lib.hid (((HF.out.trans (Fr.of_below g hbel))).grow hgr (fun k hk => by have := hob k hk; have := HJ.out; omega))
              have HB46 := Lib.hid ((HB4.out.below hbel).grow hgr (fun e => by have := hob j e; omega))
              have HB56 := Lib.hid ((HB5.out.below hbel).grow hgr (fun e => by have := hob (j + 1) e; omega))
              have HZ6 : Hid (j + 2 ≤ w6.heap.size) := Lib.hid (Nat.le_trans HZ5.out (Nat.le_trans hbel.size hgr.size))
              have HROOM := Lib.hid HI.out.room
              have HEQ := Lib.hid HI.out.eq
              have HLEN := Lib.hid HI.out.len
              have e13 := HB5.out.ex.c13
              have x13 := HB56.out.ex.c13
              have y13 := HB56.out.free 13
              unfold exCells at happ
              simp only [Ev.zero, sNone] at happ
              clear hNO hown hgr hloc hbel hob HI HB4 HB5 HA HF HZ5
              go_wp2_with (at_builtin; refine wpList_plain rfl fun K hK => wp_append _ _ _ rfl rfl rfl happ (hK _ _ ?_))
              clear happ e13 x13 y13
              have h5 := HB56.out.set 13 (.slice A' (n + 1) c')
              rw [exCells_kids] at h5
              go_meet
              refine ⟨blk r', _, false, A', n + 1, c', Lib.hid (HA6.out.other (k := j + 1) 13 _ (by omega)), Lib.hid (HF6.out.own (j := j + 1) 13 _ (by have := HJ.out; omega)), Lib.hid (HB46.out.other (k := j + 1) 13 _ (by omega)), Lib.hid h5, Lib.hid (by have := HZ6.out; simpa [World.setCell] using this), Lib.hid (.inr ⟨rfl, rfl, vs ++ [{ Ev.zero with op := sNone }], acc ++ [.odd], k1, own_same HOWN.out (fun b hb => Same.of_set _ _ (by have := (HOWN.out.lt b hb).1; show b ≠ j + 1; omega)), by rw [List.length_append, HLEN.out]; rfl, HALL.out.set (fun h => by have := h.1; omega), HNO.out.symm.trans HEQ.out, ?_⟩), Lib.hid (fun _ => (blk_suf r').length_le)⟩
              have := HROOM.out
              have := (blk_suf r').length_le
              omega
            case rest =>
              obtain ⟨r2, d2, b2, A2, n2, c2, HA, HF, HB4, HB5, HZ5, HD, HL2⟩ := hcut
              go_wp2_with fail
              refine (blanks_any g s r2 d2 b2 wc HA.out).mono ?_
              rintro e w7 ⟨rfl, hA, hF⟩
              have HD := Lib.hid (HD.out.keep hF.size (fun b hb hl => hF.block b hl (by simp; omega)))
              have HA := Lib.hid hA
              have HF := Lib.hid (HF.out.trans hF)
              have HB4 := Lib.hid (HB4.out.fr hF (by omega))
              have HB5 := Lib.hid (HB5.out.fr hF (by omega))
              have HZ5 : Hid (j + 2 ≤ w7.heap.size) := Lib.hid (Nat.le_trans HZ5.out hF.size)
              clear hA hF
              go_wp2_with fail
              by_cases h41 : pk (blk r2) = 41
              · refine (one_yes 41 g s _ d2 b2 w7 HA.out h41 (by decide)).mono ?_
                rintro e w8 ⟨rfl, hA, hF⟩
                have HD := Lib.hid (HD.out.keep hF.size (fun b hb hl => hF.block b hl (by simp; omega)))
                have HA := Lib.hid hA
                have HF := Lib.hid (HF.out.trans hF)
                have HB4 := Lib.hid (HB4.out.fr hF (by omega))
                have HB5 := Lib.hid (HB5.out.fr hF (by omega))
                have HH := Lib.hid h41
                clear hA hF h41
                obtain ⟨d0, d1, d2', d3, d4, d5, d6, d7, d8, d9, d10, d11, d12, d13⟩ := HB4.out.ex
                obtain ⟨e0, e1, e2, e3, e4, e5, e6, e7, e8, e9, e10, e11, e12, e13⟩ := HB5.out.ex
                have ff := HB4.out.free
                go_wp2
                refine tree_put { Ev.zero with op := sCall, text := bs name, A := A2, n := n2, k := c2 } rfl rfl HB4.out ?_
                rcases HD.out with ⟨rfl, hb⟩ | ⟨rfl, rfl, vs', acc', k', h1, h2, h3, h4, h5⟩
                · rw [hb]
                  exact ⟨_, _, _, rfl, HA.out.put _ (by omega), HF.out.put _ (by have := HJ.out; omega)⟩
                · rw [if_pos HH.out] at h4
                  rw [HZ.out, ← h4]
                  have hlen := AllEx.len _ _ h3
                  have hsub : ∀ k, From (j + 2) k → k < w8.heap.size → From w.heap.size k := fun k h _ => by
                    have := HJ.out
                    unfold From at h ⊢
                    omega
                  have hall : AllEx (put14 w8 j { Ev.zero with op := sCall, text := bs name, A := A2, n := n2, k := c2 }) (From w.heap.size) acc' vs' := (h3.mono (S' := From (j + 2)) (fun k h _ => h.1)).put (fun h => by unfold From at h; omega) |>.mono (fun k h _ => by
                    have := HJ.out
                    unfold From at h ⊢
                    omega)
                  have hrow : RowOf (put14 w8 j { Ev.zero with op := sCall, text := bs name, A := A2, n := n2, k := c2 }) (From w.heap.size) A2 vs' := ((row_of_own h1 h2).put (fun h => by unfold From at h; omega)).keep (Nat.le_refl _) (fun k h _ => ⟨rfl, by
                    have := HJ.out
                    unfold From at h ⊢
                    omega⟩)
                  exact ⟨_, rfl, ⟨A2, c2, vs', by rw [← hlen, h2], hrow, hall⟩, HA.out.put _ (by omega), HF.out.put _ (by have := HJ.out; omega)⟩
              · have H41 := Lib.hid h41
                refine (one_no 41 g s _ d2 b2 w7 HA.out h41).mono ?_
                rintro e w8 ⟨rfl, m2, rfl⟩
                have HD := Lib.hid (HD.out.keep (w' := w7.drewN m2) (Nat.le_refl _) (fun b hb hl => Same.of_below (below_drewN w7 m2) hl))
                have HA := Lib.hid (HA.out.drewN m2)
                have HF := Lib.hid (HF.out.trans (Fr.drewN _ _ m2))
                have HB4 := Lib.hid (HB4.out.drewN m2)
                have HB5 := Lib.hid (HB5.out.drewN m2)
                have HZ5 : Hid (j + 2 ≤ (w7.drewN m2).heap.size) := Lib.hid HZ5.out
                clear h41
                go_wp2_with fail
                generalize w7.drewN m2 = w8 at HD HA HF HB4 HB5 HZ5 ⊢
                by_cases h44 : pk (blk r2) = 44
                · refine (one_yes 44 g s _ d2 b2 w8 HA.out h44 (by decide)).mono ?_
                  rintro e w9 ⟨rfl, hA, hF⟩
                  have HD := Lib.hid (HD.out.keep hF.size (fun b hb hl => hF.block b hl (by simp; omega)))
                  have HA := Lib.hid hA
                  have HF := Lib.hid (HF.out.trans hF)
                  have HB4 := Lib.hid (HB4.out.fr hF (by omega))
                  have HB5 := Lib.hid (HB5.out.fr hF (by omega))
                  have HZ5 : Hid (j + 2 ≤ w9.heap.size) := Lib.hid (Nat.le_trans HZ5.out hF.size)
                  have HH := Lib.hid h44
                  have hlt : (blk r2).tail.length < r2.length := by
                    have h1 := congrArg List.length (pk_cons (r := blk r2) (by rw [h44]; decide))
                    have h2 := (blk_suf r2).length_le
                    simp only [List.length_cons] at h1
                    omega
                  have HLT := Lib.hid hlt
                  clear hA hF h44 hlt
                  go_wp2
                  go_roundw
                  case rel =>
                    refine ⟨_, _, b2, A2, n2, c2, HA, HF, HB4, HB5, HZ5, ?_⟩
                    rcases HD.out with ⟨hb, hc⟩ | ⟨hb, hd2, vs', acc', k', h1, h2, h3, h4, h5⟩
                    · exact Lib.hid (.inl ⟨hb, hc⟩)
                    · rw [if_neg H41.out, if_pos HH.out] at h4
                      exact Lib.hid (.inr ⟨hb, hd2, vs', acc', k', h1, h2, h3, h4, by have := HLT.out; omega⟩)
                  case measure =>
                    rw [HM0.out]
                    cases b2 with
                    | true =>
                      rw [HA.out.lft0]
                      omega
                    | false =>
                      rw [HA.out.lft1]
                      have := HLT.out
                      have := HL2.out rfl
                      omega
                · refine (one_no 44 g s _ d2 b2 w8 HA.out h44).mono ?_
                  rintro e w9 ⟨rfl, m3, rfl⟩
                  have HH := Lib.hid h44
                  clear h44
                  have HA := Lib.hid (HA.out.drewN m3)
                  have HF := Lib.hid (HF.out.trans (Fr.drewN _ _ m3))
                  have HB4 := Lib.hid (HB4.out.drewN m3)
                  have HB5 := Lib.hid (HB5.out.drewN m3)
                  have HZ5 : Hid (j + 2 ≤ (w8.drewN m3).heap.size) := Lib.hid HZ5.out
                  generalize w8.drewN m3 = w9 at HA HF HB4 HB5 HZ5 ⊢
                  have b3 := HA.out.c3
                  have bf := HA.out.free 3
                  go_wp2
                  go_roundw
                  case rel =>
                    refine ⟨_, _, true, A2, n2, c2, Lib.hid (HA.out.setBad true), Lib.hid (HF.out.trans (Fr.set g 3 _)), Lib.hid (HB4.out.other (k := g) 3 _ (by omega)), Lib.hid (HB5.out.other (k := g) 3 _ (by omega)), Lib.hid (by have := HZ5.out; simpa [World.setCell] using this), Lib.hid (.inl ⟨rfl, ?_⟩)⟩
                    rcases HD.out with ⟨hb, hc⟩ | ⟨hb, hd2, vs', acc', k', h1, h2, h3, h4, h5⟩
                    · exact hc
                    · rw [if_neg H41.out, if_neg HH.out] at h4
                      exact HBADP.out h4.symm
                  case measure =>
                    rw [(HA.out.setBad true).lft0, HM0.out]
                    omega
        · have HSW : Hid (pk (blk r') = 44 ∨ pk (blk r') = 41) := Lib.hid (.inl (u8_of hy1))
          go_wp2_with fail
          refine PK.out.mono ?_
          rintro e w' ⟨rfl, m1, rfl⟩
          clear PK
          have HI := Lib.hid (HI.out.keep (w' := w4.drewN m1) (Nat.le_refl _) (fun b hb hl => Same.of_below (below_drewN w4 m1) hl) (r' := r') rfl (Nat.le_refl _))
          have HA := Lib.hid (HA.out.drewN m1)
          have HF := Lib.hid (HF.out.trans (Fr.drewN _ _ m1))
          have HB4 := Lib.hid (HB4.out.drewN m1)
          have HB5 := Lib.hid (HB5.out.drewN m1)
          have HZ5 : Hid (j + 2 ≤ (w4.drewN m1).heap.size) := Lib.hid HZ5.out
          go_upto_if 35 with fail
          generalize w4.drewN m1 = w5 at HI HA HF HB4 HB5 HZ5 ⊢
          go_cut [] (fun wx => ∃ (r2 : List UInt8) (d2 : Int) (b2 : Bool) (A2 : Option Addr) (n2 c2 : Nat), Hid (At wx g s r2 d2 b2) ∧ Hid (Fr w wx g) ∧ Hid (Box wx j (exCells Ev.zero) 25) ∧ Hid (Box wx (j + 1) (exCells { Ev.zero with op := sCall, text := bs name, A := A2, n := n2, k := c2 }) 25) ∧ Hid (j + 2 ≤ wx.heap.size) ∧ Hid (ArgDone f name wx (j + 2) A2 n2 c2 d d2 r r2 b2) ∧ Hid (b2 = false → r2.length ≤ r'.length))
          case first =>
            have hNO : argsP f d (k1 + 1) acc r' = if pk (blk (blk r')) = 41 then .ok (acc ++ [.odd]) (blk (blk r')).tail else if pk (blk (blk r')) = 44 then argsP f d k1 (acc ++ [.odd]) (blk (blk r')).tail else .bad := by
              show (match (if pk (blk r') = 44 ∨ pk (blk r') = 41 then R.ok .odd (blk r') else f d (blk r')) with
                | .out => RL.out
                | .bad => RL.bad
                | .ok x r2 => if pk (blk r2) = 41 then .ok (acc ++ [x]) (blk r2).tail else if pk (blk r2) = 44 then argsP f d k1 (acc ++ [x]) (blk r2).tail else .bad) = _
              rw [if_pos HSW.out]
            have HNO := Lib.hid hNO
            have hn8 : n ≤ 8192 := by have := HI.out.room; omega
            obtain ⟨A', c', w6, happ, hown, hgr, hloc⟩ := push_row w5 (j + 2) n c A vs { Ev.zero with op := sNone } HI.out.own hn8 HZ5.out (w5.alloc (.cells (exCells { Ev.zero with op := sNone }) 25)) ((Below.refl _ _).alloc (Nat.le_refl _) _) w5.heap.size (Box.made _ _ _)
            have hbel : Below w5.heap.size w5 (w5.alloc (.cells (exCells { Ev.zero with op := sNone }) 25)) := (Below.refl _ _).alloc (Nat.le_refl _) _
            have hob : ∀ k, (Value.slice A n c).ownBlock = some k → j + 2 ≤ k := fun k hk => (HI.out.own.lt k hk).1
            have HALL := Lib.hid (push_all (V' := .slice A' (n + 1) c') (x := .odd) (v := { Ev.zero with op := sNone }) (S := fun _ => False) (HI.out.all.below hbel) (by show sNone ∈ oddOps; simp [oddOps]) (fun g h _ => h.elim) hgr hloc)
            have HOWN := Lib.hid hown
            have HA6 := Lib.hid ((HA.out.below hbel).grow hgr (fun e => by have := hob g e; omega))
            have HF6 := Lib.hid (((HF.out.trans (Fr.of_below g hbel))).grow hgr (fun k hk => by have := hob k hk; have := HJ.out; omega))
            have HB46 := Lib.hid ((HB4.out.below hbel).grow hgr (fun e => by have := hob j e; omega))
            have HB56 := Lib.hid ((HB5.out.below hbel).grow hgr (fun e => by have := hob (j + 1) e; omega))
            have HZ6 : Hid (j + 2 ≤ w6.heap.size) := Lib.hid (Nat.le_trans HZ5.out (Nat.le_trans hbel.size hgr.size))
            have HROOM := Lib.hid HI.out.room
            have HEQ := Lib.hid HI.out.eq
            have HLEN := Lib.hid HI.out.len
            have e13 := HB5.out.ex.c13
            have x13 := HB56.out.ex.c13
            have y13 := HB56.out.free 13
            unfold exCells at happ
            simp only [Ev.zero, sNone] at happ
            clear hNO hown hgr hloc hbel hob HI HB4 HB5 HA HF HZ5
            go_wp2_with (at_builtin; refine wpList_plain rfl fun K hK => wp_append _ _ _ rfl rfl rfl happ (hK _ _ ?_))
            clear happ e13 x13 y13
            have h5 := HB56.out.set 13 (.slice A' (n + 1) c')
            rw [exCells_kids] at h5
            go_meet
            refine ⟨blk r', _, false, A', n + 1, c', Lib.hid (HA6.out.other (k := j + 1) 13 _ (by omega)), Lib.hid (HF6.out.own (j := j + 1) 13 _ (by have := HJ.out; omega)), Lib.hid (HB46.out.other (k := j + 1) 13 _ (by omega)), Lib.hid h5, Lib.hid (by have := HZ6.out; simpa [World.setCell] using this), Lib.hid (.inr ⟨rfl, rfl, vs ++ [{ Ev.zero with op := sNone }], acc ++ [.odd], k1, own_same HOWN.out (fun b hb => Same.of_set _ _ (by have := (HOWN.out.lt b hb).1; show b ≠ j + 1; omega)), by rw [List.length_append, HLEN.out]; rfl, HALL.out.set (fun h => by have := h.1; omega), HNO.out.symm.trans HEQ.out, ?_⟩), Lib.hid (fun _ => (blk_suf r').length_le)⟩
            have := HROOM.out
            have := (blk_suf r').length_le
            omega
          case rest =>
            obtain ⟨r2, d2, b2, A2, n2, c2, HA, HF, HB4, HB5, HZ5, HD, HL2⟩ := hcut
            go_wp2_with fail
            refine (blanks_any g s r2 d2 b2 wc HA.out).mono ?_
            rintro e w7 ⟨rfl, hA, hF⟩
            have HD := Lib.hid (HD.out.keep hF.size (fun b hb hl => hF.block b hl (by simp; omega)))
            have HA := Lib.hid hA
            have HF := Lib.hid (HF.out.trans hF)
            have HB4 := Lib.hid (HB4.out.fr hF (by omega))
            have HB5 := Lib.hid (HB5.out.fr hF (by omega))
            have HZ5 : Hid (j + 2 ≤ w7.heap.size) := Lib.hid (Nat.le_trans HZ5.out hF.size)
            clear hA hF
            go_wp2_with fail
            by_cases h41 : pk (blk r2) = 41
            · refine (one_yes 41 g s _ d2 b2 w7 HA.out h41 (by decide)).mono ?_
              rintro e w8 ⟨rfl, hA, hF⟩
              have HD := Lib.hid (HD.out.keep hF.size (fun b hb hl => hF.block b hl (by simp; omega)))
              have HA := Lib.hid hA
              have HF := Lib.hid (HF.out.trans hF)
              have HB4 := Lib.hid (HB4.out.fr hF (by omega))
              have HB5 := Lib.hid (HB5.out.fr hF (by omega))
              have HH := Lib.hid h41
              clear hA hF h41
              obtain ⟨d0, d1, d2', d3, d4, d5, d6, d7, d8, d9, d10, d11, d12, d13⟩ := HB4.out.ex
              obtain ⟨e0, e1, e2, e3, e4, e5, e6, e7, e8, e9, e10, e11, e12, e13⟩ := HB5.out.ex
              have ff := HB4.out.free
              go_wp2
              refine tree_put { Ev.zero with op := sCall, text := bs name, A := A2, n := n2, k := c2 } rfl rfl HB4.out ?_
              rcases HD.out with ⟨rfl, hb⟩ | ⟨rfl, rfl, vs', acc', k', h1, h2, h3, h4, h5⟩
              · rw [hb]
                exact ⟨_, _, _, rfl, HA.out.put _ (by omega), HF.out.put _ (by have := HJ.out; omega)⟩
              · rw [if_pos HH.out] at h4
                rw [HZ.out, ← h4]
                have hlen := AllEx.len _ _ h3
                have hsub : ∀ k, From (j + 2) k → k < w8.heap.size → From w.heap.size k := fun k h _ => by
                  have := HJ.out
                  unfold From at h ⊢
                  omega
                have hall : AllEx (put14 w8 j { Ev.zero with op := sCall, text := bs name, A := A2, n := n2, k := c2 }) (From w.heap.size) acc' vs' := (h3.mono (S' := From (j + 2)) (fun k h _ => h.1)).put (fun h => by unfold From at h; omega) |>.mono (fun k h _ => by
                  have := HJ.out
                  unfold From at h ⊢
                  omega)
                have hrow : RowOf (put14 w8 j { Ev.zero with op := sCall, text := bs name, A := A2, n := n2, k := c2 }) (From w.heap.size) A2 vs' := ((row_of_own h1 h2).put (fun h => by unfold From at h; omega)).keep (Nat.le_refl _) (fun k h _ => ⟨rfl, by
                  have := HJ.out
                  unfold From at h ⊢
                  omega⟩)
                exact ⟨_, rfl, ⟨A2, c2, vs', by rw [← hlen, h2], hrow, hall⟩, HA.out.put _ (by omega), HF.out.put _ (by have := HJ.out; omega)⟩
            · have H41 := Lib.hid h41
              refine (one_no 41 g s _ d2 b2 w7 HA.out h41).mono ?_
              rintro e w8 ⟨rfl, m2, rfl⟩
              have HD := Lib.hid (HD.out.keep (w' := w7.drewN m2) (Nat.le_refl _) (fun b hb hl => Same.of_below (below_drewN w7 m2) hl))
              have HA := Lib.hid (HA.out.drewN m2)
              have HF := Lib.hid (HF.out.trans (Fr.drewN _ _ m2))
              have HB4 := Lib.hid (HB4.out.drewN m2)
              have HB5 := Lib.hid (HB5.out.drewN m2)
              have HZ5 : Hid (j + 2 ≤ (w7.drewN m2).heap.size) := Lib.hid HZ5.out
              clear h41
              go_wp2_with fail
              generalize w7.drewN m2 = w8 at HD HA HF HB4 HB5 HZ5 ⊢
              by_cases h44 : pk (blk r2) = 44
              · refine (one_yes 44 g s _ d2 b2 w8 HA.out h44 (by decide)).mono ?_
                rintro e w9 ⟨rfl, hA, hF⟩
                have HD := Lib.hid (HD.out.keep hF.size (fun b hb hl => hF.block b hl (by simp; omega)))
                have HA := Lib.hid hA
                have HF := Lib.hid (HF.out.trans hF)
                have HB4 := Lib.hid (HB4.out.fr hF (by omega))
                have HB5 := Lib.hid (HB5.out.fr hF (by omega))
                have HZ5 : Hid (j + 2 ≤ w9.heap.size) := Lib.hid (Nat.le_trans HZ5.out hF.size)
                have HH := Lib.hid h44
                have hlt : (blk r2).tail.length < r2.length := by
                  have h1 := congrArg List.length (pk_cons (r := blk r2) (by rw [h44]; decide))
                  have h2 := (blk_suf r2).length_le
                  simp only [List.length_cons] at h1
                  omega
                have HLT := Lib.hid hlt
                clear hA hF h44 hlt
                go_wp2
                go_roundw
                case rel =>
                  refine ⟨_, _, b2, A2, n2, c2, HA, HF, HB4, HB5, HZ5, ?_⟩
                  rcases HD.out with ⟨hb, hc⟩ | ⟨hb, hd2, vs', acc', k', h1, h2, h3, h4, h5⟩
                  · exact Lib.hid (.inl ⟨hb, hc⟩)
                  · rw [if_neg H41.out, if_pos HH.out] at h4
                    exact Lib.hid (.inr ⟨hb, hd2, vs', acc', k', h1, h2, h3, h4, by have := HLT.out; omega⟩)
                case measure =>
                  rw [HM0.out]
                  cases b2 with
                  | true =>
                    rw [HA.out.lft0]
                    omega
                  | false =>
                    rw [HA.out.lft1]
                    have := HLT.out
                    have := HL2.out rfl
                    omega
              · refine (one_no 44 g s _ d2 b2 w8 HA.out h44).mono ?_
                rintro e w9 ⟨rfl, m3, rfl⟩
                have HH := Lib.hid h44
                clear h44
                have HA := Lib.hid (HA.out.drewN m3)
                have HF := Lib.hid (HF.out.trans (Fr.drewN _ _ m3))
                have HB4 := Lib.hid (HB4.out.drewN m3)
                have HB5 := Lib.hid (HB5.out.drewN m3)
                have HZ5 : Hid (j + 2 ≤ (w8.drewN m3).heap.size) := Lib.hid HZ5.out
                generalize w8.drewN m3 = w9 at HA HF HB4 HB5 HZ5 ⊢
                have b3 := HA.out.c3
                have bf := HA.out.free 3
                go_wp2
                go_roundw
                case rel =>
                  refine ⟨_, _, true, A2, n2, c2, Lib.hid (HA.out.setBad true), Lib.hid (HF.out.trans (Fr.set g 3 _)), Lib.hid (HB4.out.other (k := g) 3 _ (by omega)), Lib.hid (HB5.out.other (k := g) 3 _ (by omega)), Lib.hid (by have := HZ5.out; simpa [World.setCell] using this), Lib.hid (.inl ⟨rfl, ?_⟩)⟩
                  rcases HD.out with ⟨hb, hc⟩ | ⟨hb, hd2, vs', acc', k', h1, h2, h3, h4, h5⟩
                  · exact hc
                  · rw [if_neg H41.out, if_neg HH.out] at h4
                    exact HBADP.out h4.symm
                case measure =>
                  rw [(HA.out.setBad true).lft0, HM0.out]
                  omega

end Go.Proofs.YtfeffdjnjckjaaaGreatDoor.Rg
