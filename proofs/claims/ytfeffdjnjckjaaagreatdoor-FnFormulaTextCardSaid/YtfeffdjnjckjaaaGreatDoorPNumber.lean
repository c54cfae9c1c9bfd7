/- The reader reads a number. -/
import Derived.Test.YtfeffdjnjckjaaaGreatDoorJTree
import Derived.Test.YtfeffdjnjckjaaaGreatDoorPCell
import Derived.Test.YtfeffdjnjckjaaaGreatDoorJPlan
import Derived.Deep.Cut
import Derived.Deep.DeepCutAuto
namespace Go.Proofs.YtfeffdjnjckjaaaGreatDoor.Rg
open Go.RowKit

/-- What is left behind digits, and digits behind a point. -/
def numRest (r1 : List UInt8) : List UInt8 := if pk r1 = 46 then r1.tail.dropWhile isNum else r1
def numBad (r1 : List UInt8) : Bool := decide (pk r1 = 46) && !isNum (pk r1.tail)
def numP (r : List UInt8) : R :=
  let r3 := numRest (r.dropWhile isNum)
  if numBad (r.dropWhile isNum) = true ∨ 15 < r.length - r3.length then .bad else .ok (.num (r.take (r.length - r3.length))) r3

theorem numRest_suf (r : List UInt8) : numRest (r.dropWhile isNum) <:+ r := by
  unfold numRest
  split
  · exact (List.dropWhile_suffix _).trans ((List.tail_suffix _).trans (List.dropWhile_suffix _))
  · exact List.dropWhile_suffix _

theorem drop_num {r : List UInt8} (h : isNum (pk r) = true) : r.dropWhile isNum = r.tail.dropWhile isNum := by
  have h2 := pk_cons (num_pos h)
  rw [h2, List.dropWhile_cons, if_pos h]
  rfl
theorem drop_stop {r : List UInt8} (h : isNum (pk r) = false) : r.dropWhile isNum = r := by
  cases r with
  | nil => rfl
  | cons a r => rw [List.dropWhile_cons, if_neg (by rw [show a = pk (a :: r) from rfl, h]; simp)]

/-- The text between two places. -/
theorem text_between {s : ByteArray} {r r3 : List UInt8} {k m : Nat} (hk : k + r.length = s.size) (hr : r = s.data.toList.drop k) (hm : m + r3.length = s.size) (h3 : r3.length ≤ r.length) : s.extract k m = bs (r.take (r.length - r3.length)) := by
  refine ByteArray.ext (Array.ext' ?_)
  have e : m = k + (r.length - r3.length) := by omega
  rw [e, extract_bytes, ← hr]
  rfl

theorem tree_put_drew {fn : Func} {Q : Ending → World → Prop} {tmps : Array Value} {W : World} {j p : Nat} {u : Ev} (v : Ev) (hres : fn.results = #[.cell p 25]) (htm : tmps[p]?.getD undef = .pointer (some ⟨j, 0, none⟩)) (hB : Box W j (exCells u) 25) (hq : Q (.returned v.val) (put14 W j v).drew) : bodyPost Tryz.prog fn Q Exit.ret { tmps := tmps, defers := [] } (put14 W j v).drew :=
  tree_ret hres htm ((hB.put v).below (Below.refl _ _).drew) hq
theorem At.drew {w : World} {g : Nat} {s : ByteArray} {r : List UInt8} {d : Int} {b : Bool} (h : At w g s r d b) : At w.drew g s r d b := h.below (Below.refl _ _).drew
theorem Fr.drew {w w' : World} {g : Nat} (h : Fr w w' g) : Fr w w'.drew g := h.trans (Fr.of_below g (Below.refl _ _).drew)

/-- What the walk sees of a place that is a number. -/
theorem At.nat {w : World} {g : Nat} {s : ByteArray} {r : List UInt8} {d : Int} {b : Bool} (h : At w g s r d b) : ∃ k : Nat, k ≤ 8192 ∧ k ≤ s.size ∧ Hid (k + r.length = s.size) ∧ Hid (r = s.data.toList.drop k) ∧ w.cell? ⟨g, 1, none⟩ = some (.int .i64 k) := by
  obtain ⟨k, h1, h2, h3⟩ := h.pos
  have := h.small
  refine ⟨k, by omega, by omega, Lib.hid h2, Lib.hid h3, ?_⟩
  rw [← h1]
  exact h.c1

set_option maxHeartbeats 8000000 in
set_option maxRecDepth 100000 in
theorem number_any (g : Nat) (s : ByteArray) (r : List UInt8) (d : Int) (w : World) (h : At w g s r d false) :
    Calls Tryz.prog 44 #[.pointer (some ⟨g, 0, none⟩)] w (TreePost w g s d (numP r)) := by
  obtain ⟨j, hj⟩ : ∃ j, w.heap.size = j := ⟨_, rfl⟩
  have hgj : g < j := hj ▸ h.lt
  obtain ⟨W, hW⟩ : ∃ W, w.alloc (.cells (exCells Ev.zero) 25) = W := ⟨_, rfl⟩
  have HA : Hid (At W g s r d false) := by subst hW; exact h.alloc _
  have HF : Hid (Fr w W g) := by subst hW; exact (Fr.refl w g).alloc _
  have HB : Hid (Box W j (exCells Ev.zero) 25) := by subst hW; subst hj; exact Box.made _ _ _
  have HJ := Lib.hid hj
  have HW := Lib.hid hW
  clear h hj hW
  unfold exCells at HW
  simp only [Ev.zero] at HW
  go_enter Tryz.func44, Tryz.ntmps44
  go_upto_region 1 with (fail)
  rw [HJ.out, HW.out]
  clear HW
  obtain ⟨k, hk, hks, HK1, HK2, c1⟩ := HA.out.nat
  go_wp2_with fail
  clear c1
  go_loopw [] (fun wr => ∃ r', Hid (r'.dropWhile isNum = r.dropWhile isNum) ∧ Hid (At wr g s r' d false) ∧ Hid (Fr w wr g) ∧ Hid (Box wr j (exCells Ev.zero) 25)) (fun wr => left wr g)
  case atStart => exact ⟨r, Lib.hid rfl, HA, HF, HB⟩
  clear HA HF HB
  case round =>
    obtain ⟨r', HR, HA, HF, HB⟩ := hrel
    have PK := Lib.hid (peek_any g s r' d false wr HA.out)
    have NM := Lib.hid (fun w => num_any (pk r') w)
    by_cases hn : isNum (pk r') = true
    · rw [hn] at NM
      have HR2 := Lib.hid ((drop_num hn).symm.trans HR.out)
      have HC := Lib.hid (pk_cons (num_pos hn))
      obtain ⟨q, q0, q1, HQ, c1, f1⟩ := HA.out.see
      clear hn
      go_wp2_with (first
        | (go_at_call 43; refine (NM.out _).mono ?_; rintro e w' ⟨rfl, rfl⟩)
        | (go_at_call 18; refine PK.out.mono ?_; rintro e w' ⟨rfl, m1, rfl⟩))
      have h1 := HA.out.drewN m1
      rw [HC.out] at h1
      have h2 := h1.step (q + 1) (by rw [HQ.out, ← HC.out])
      go_roundw
      case rel => exact ⟨r'.tail, HR2, Lib.hid h2, Lib.hid ((HF.out.trans (Fr.drewN _ _ _)).trans (Fr.set _ _ _)), Lib.hid ((HB.out.drewN _).other _ _ (by omega))⟩
      case measure =>
        rw [h2.left, HA.out.left, HC.out]
        simp
    · have hn : isNum (pk r') = false := by simpa using hn
      rw [hn] at NM
      have HR2 := Lib.hid ((drop_stop hn).symm.trans HR.out)
      clear hn
      have PK2 := Lib.hid (fun n => peek_any g s r' d false (wr.drewN n) (HA.out.drewN n))
      go_upto_if 20 with (first
        | (go_at_call 43; refine (NM.out _).mono ?_; rintro e w' ⟨rfl, rfl⟩)
        | (go_at_call 18; refine PK.out.mono ?_; rintro e w' ⟨rfl, m1, rfl⟩)
        | (go_at_call 18; refine (PK2.out _).mono ?_; rintro e w' ⟨rfl, m2, rfl⟩))
      have HA := Lib.hid (HA.out.drewN (m1 + m2))
      have HF := Lib.hid (HF.out.trans (Fr.drewN _ _ (m1 + m2)))
      have HB := Lib.hid (HB.out.drewN (m1 + m2))
      clear PK PK2 NM
      generalize wr.drewN (m1 + m2) = w2 at HA HF HB ⊢
      go_cut [] (fun wx => Hid (At wx g s (numRest r') d (numBad r')) ∧ Hid (Fr w wx g) ∧ Hid (Box wx j (exCells Ev.zero) 25))
      case first =>
        by_cases hp : pk r' = 46
        · have HR3 : Hid (numRest r' = r'.tail.dropWhile isNum) := Lib.hid (if_pos hp)
          have HB3 : Hid (numBad r' = !isNum (pk r'.tail)) := by
            show numBad r' = !isNum (pk r'.tail)
            simp [numBad, hp]
          have HC := Lib.hid (pk_cons (r := r') (by rw [hp]; decide))
          have hp2 : (((pk r').toNat : Int) == 46) = true := by rw [hp]; rfl
          obtain ⟨q, q0, q1, HQ, c1, f1⟩ := HA.out.see
          have h2 : At (w2.setCell ⟨g, 1, none⟩ (.int .i64 (q + 1))) g s r'.tail d false := by
            have h1 := HA.out
            rw [HC.out] at h1
            exact h1.step (q + 1) (by rw [HQ.out, ← HC.out])
          have HA := Lib.hid h2
          have HF := Lib.hid (HF.out.trans (Fr.set g 1 (.int .i64 (q + 1))))
          have HB := Lib.hid (HB.out.other (k := g) 1 (.int .i64 (q + 1)) (by omega))
          generalize r'.tail = t at HR3 HB3 HA
          clear hp h2
          go_wp2_with fail
          clear hp2 f1 c1
          generalize w2.setCell ⟨g, 1, none⟩ (.int .i64 (q + 1)) = w3 at HA HF HB ⊢
          refine (peek_any g s t d false w3 HA.out).mono ?_
          rintro e w' ⟨rfl, m3, rfl⟩
          have HA := Lib.hid (HA.out.drewN m3)
          have HF := Lib.hid (HF.out.trans (Fr.drewN _ _ m3))
          have HB := Lib.hid (HB.out.drewN m3)
          generalize w3.drewN m3 = w4 at HA HF HB ⊢
          have NM := Lib.hid (fun w => num_any (pk t) w)
          have b3 := HA.out.c3
          have bf := HA.out.free 3
          obtain ⟨y, hy⟩ : ∃ y, isNum (pk t) = y := ⟨_, rfl⟩
          rw [hy] at NM HB3
          clear hy
          cases y
          · go_upto_region 8 with (refine (NM.out _).mono ?_; rintro e w' ⟨rfl, rfl⟩)
            have HA : Hid (At (w4.setCell ⟨g, 3, none⟩ (.bool true)) g s t d (!false)) := HA.out.setBad true
            have HF := Lib.hid (HF.out.trans (Fr.set g 3 (.bool true)))
            have HB := Lib.hid (HB.out.other (k := g) 3 (.bool true) (by omega))
            clear b3 bf NM
            generalize w4.setCell ⟨g, 3, none⟩ (.bool true) = w5 at HA HF HB ⊢
            generalize (!false) = bb at HA HB3
            go_loopw [] (fun wr => ∃ r3, Hid (r3.dropWhile isNum = t.dropWhile isNum) ∧ Hid (At wr g s r3 d bb) ∧ Hid (Fr w wr g) ∧ Hid (Box wr j (exCells Ev.zero) 25)) (fun wr => left wr g)
            case atStart => exact ⟨t, Lib.hid rfl, HA, HF, HB⟩
            clear HA HF HB
            case round =>
              obtain ⟨r3, HR, HA, HF, HB⟩ := hrel
              have PK := Lib.hid (peek_any g s r3 d bb wr HA.out)
              have NM := Lib.hid (fun w => num_any (pk r3) w)
              by_cases hn : isNum (pk r3) = true
              · rw [hn] at NM
                have HR2 := Lib.hid ((drop_num hn).symm.trans HR.out)
                have HC := Lib.hid (pk_cons (num_pos hn))
                obtain ⟨q, q0, q1, HQ, c1, f1⟩ := HA.out.see
                clear hn
                go_wp2_with (first
                  | (go_at_call 43; refine (NM.out _).mono ?_; rintro e w' ⟨rfl, rfl⟩)
                  | (go_at_call 18; refine PK.out.mono ?_; rintro e w' ⟨rfl, m1, rfl⟩))
                have h1 := HA.out.drewN m1
                rw [HC.out] at h1
                have h2 := h1.step (q + 1) (by rw [HQ.out, ← HC.out])
                go_roundw
                case rel => exact ⟨r3.tail, HR2, Lib.hid h2, Lib.hid ((HF.out.trans (Fr.drewN _ _ _)).trans (Fr.set _ _ _)), Lib.hid ((HB.out.drewN _).other _ _ (by omega))⟩
                case measure =>
                  rw [h2.left, HA.out.left, HC.out]
                  simp
              · have hn : isNum (pk r3) = false := by simpa using hn
                rw [hn] at NM
                have HR2 := Lib.hid ((drop_stop hn).symm.trans HR.out)
                clear hn
                go_wp2_with (first
                  | (go_at_call 43; refine (NM.out _).mono ?_; rintro e w' ⟨rfl, rfl⟩)
                  | (go_at_call 18; refine PK.out.mono ?_; rintro e w' ⟨rfl, m1, rfl⟩))
                go_meet
                rw [HR3.out, ← HR2.out, HB3.out]
                exact ⟨Lib.hid (HA.out.drewN m1), Lib.hid (HF.out.trans (Fr.drewN _ _ m1)), Lib.hid (HB.out.drewN m1)⟩
          · go_upto_region 8 with (refine (NM.out _).mono ?_; rintro e w' ⟨rfl, rfl⟩)
            have HA : Hid (At w4 g s t d (!true)) := HA
            clear b3 bf NM
            generalize (!true) = bb at HA HB3
            go_loopw [] (fun wr => ∃ r3, Hid (r3.dropWhile isNum = t.dropWhile isNum) ∧ Hid (At wr g s r3 d bb) ∧ Hid (Fr w wr g) ∧ Hid (Box wr j (exCells Ev.zero) 25)) (fun wr => left wr g)
            case atStart => exact ⟨t, Lib.hid rfl, HA, HF, HB⟩
            clear HA HF HB
            case round =>
              obtain ⟨r3, HR, HA, HF, HB⟩ := hrel
              have PK := Lib.hid (peek_any g s r3 d bb wr HA.out)
              have NM := Lib.hid (fun w => num_any (pk r3) w)
              by_cases hn : isNum (pk r3) = true
              · rw [hn] at NM
                have HR2 := Lib.hid ((drop_num hn).symm.trans HR.out)
                have HC := Lib.hid (pk_cons (num_pos hn))
                obtain ⟨q, q0, q1, HQ, c1, f1⟩ := HA.out.see
                clear hn
                go_wp2_with (first
                  | (go_at_call 43; refine (NM.out _).mono ?_; rintro e w' ⟨rfl, rfl⟩)
                  | (go_at_call 18; refine PK.out.mono ?_; rintro e w' ⟨rfl, m1, rfl⟩))
                have h1 := HA.out.drewN m1
                rw [HC.out] at h1
                have h2 := h1.step (q + 1) (by rw [HQ.out, ← HC.out])
                go_roundw
                case rel => exact ⟨r3.tail, HR2, Lib.hid h2, Lib.hid ((HF.out.trans (Fr.drewN _ _ _)).trans (Fr.set _ _ _)), Lib.hid ((HB.out.drewN _).other _ _ (by omega))⟩
                case measure =>
                  rw [h2.left, HA.out.left, HC.out]
                  simp
              · have hn : isNum (pk r3) = false := by simpa using hn
                rw [hn] at NM
                have HR2 := Lib.hid ((drop_stop hn).symm.trans HR.out)
                clear hn
                go_wp2_with (first
                  | (go_at_call 43; refine (NM.out _).mono ?_; rintro e w' ⟨rfl, rfl⟩)
                  | (go_at_call 18; refine PK.out.mono ?_; rintro e w' ⟨rfl, m1, rfl⟩))
                go_meet
                rw [HR3.out, ← HR2.out, HB3.out]
                exact ⟨Lib.hid (HA.out.drewN m1), Lib.hid (HF.out.trans (Fr.drewN _ _ m1)), Lib.hid (HB.out.drewN m1)⟩
        · have HR3 : Hid (numRest r' = r') := Lib.hid (if_neg hp)
          have HB3 : Hid (numBad r' = false) := by
            show numBad r' = false
            simp [numBad, hp]
          have hp2 : (((pk r').toNat : Int) == 46) = false := by
            rw [beq_eq_false_iff_ne]
            intro h
            apply hp
            have h' : (pk r').toNat = 46 := by omega
            exact UInt8.toNat_inj.1 h'
          clear hp
          go_wp2
          go_meet
          rw [HR3.out, HB3.out]
          exact ⟨HA, HF, HB⟩
      case rest =>
        obtain ⟨HA, HF, HB⟩ := hcut
        have HP : Hid (numP r = if numBad r' = true ∨ 15 < r.length - (numRest r').length then .bad else .ok (.num (r.take (r.length - (numRest r').length))) (numRest r')) := by
          have e := HR2.out
          show numP r = _
          unfold numP
          rw [← e]
        have HS : Hid ((numRest r').length ≤ r.length) := by
          rw [HR2.out]
          exact Lib.hid (numRest_suf r).length_le
        generalize numRest r' = r3 at HA HP HS
        generalize numBad r' = bb at HA HP
        obtain ⟨m, hm, hms, HM1, HM2, c1⟩ := HA.out.nat
        have hkm : (k : Int) ≤ (m : Int) := by
          have := HK1.out
          have := HM1.out
          have := HS.out
          omega
        have hm8 : (m : Int) ≤ 8192 := by omega
        have HT : Hid (s.extract k m = bs (r.take (r.length - r3.length))) := Lib.hid (text_between HK1.out HK2.out HM1.out HS.out)
        have hw0 : IntKind.i64.wrap ((m : Int) - (k : Int)) = (m : Int) - (k : Int) := by rw [IntKind.wrap_i64]; omega
        have b3 := HA.out.c3
        have bf := HA.out.free 3
        by_cases hbig : 15 < r.length - r3.length
        · have hd : decide (15 < (m : Int) - (k : Int)) = true := by
            have := HK1.out
            have := HM1.out
            simp
            omega
          have HP : Hid (numP r = .bad) := Lib.hid (HP.out.trans (if_pos (.inr hbig)))
          clear hbig
          go_upto_region 12 with (fail)
          have HA := Lib.hid (HA.out.setBad true)
          have HF := Lib.hid (HF.out.trans (Fr.set g 3 (.bool true)))
          have HB := Lib.hid (HB.out.other (k := g) 3 (.bool true) (by omega))
          clear b3 bf c1 hd hw0
          generalize wc.setCell ⟨g, 3, none⟩ (.bool true) = w6 at HA HF HB ⊢
          obtain ⟨m', hm', hms', HM1', HM2', c1⟩ := HA.out.nat
          obtain rfl : m' = m := by
            have := HM1.out
            have := HM1'.out
            omega
          have c0 := HA.out.c0
          obtain ⟨d0, d1, d2, d3, d4, d5, d6, d7, d8, d9, d10, d11, d12, d13⟩ := HB.out.ex
          have f := HB.out.free
          have g0 : (0 : Int) ≤ (m' : Int) := by omega
          have g1 : (m' : Int) ≤ (s.size : Int) := by omega
          go_region
          go_wp2
          refine tree_put_drew { Ev.zero with op := sNum, text := s.extract k m' } rfl rfl HB.out ?_
          rw [HP.out]
          exact ⟨_, _, _, rfl, (HA.out.put _ (by omega)).drew, (HF.out.put _ (by have := HJ.out; omega)).drew⟩
        · have hd : decide (15 < (m : Int) - (k : Int)) = false := by
            have := HK1.out
            have := HM1.out
            simp
            omega
          have HP : Hid (numP r = if bb = true then .bad else .ok (.num (r.take (r.length - r3.length))) r3) := by
            have h := HP.out
            show numP r = _
            rw [h]
            cases bb <;> simp [hbig]
          clear hbig
          go_upto_region 12 with (fail)
          clear b3 bf c1 hd hw0
          obtain ⟨m', hm', hms', HM1', HM2', c1⟩ := HA.out.nat
          obtain rfl : m' = m := by
            have := HM1.out
            have := HM1'.out
            omega
          have c0 := HA.out.c0
          obtain ⟨d0, d1, d2, d3, d4, d5, d6, d7, d8, d9, d10, d11, d12, d13⟩ := HB.out.ex
          have f := HB.out.free
          have g0 : (0 : Int) ≤ (m' : Int) := by omega
          have g1 : (m' : Int) ≤ (s.size : Int) := by omega
          go_region
          go_wp2
          refine tree_put_drew { Ev.zero with op := sNum, text := s.extract k m' } rfl rfl HB.out ?_
          rw [HP.out, HT.out]
          cases bb with
          | true => exact ⟨_, _, _, rfl, (HA.out.put _ (by omega)).drew, (HF.out.put _ (by have := HJ.out; omega)).drew⟩
          | false => exact ⟨_, rfl, rfl, (HA.out.put _ (by omega)).drew, (HF.out.put _ (by have := HJ.out; omega)).drew⟩

end Go.Proofs.YtfeffdjnjckjaaaGreatDoor.Rg
