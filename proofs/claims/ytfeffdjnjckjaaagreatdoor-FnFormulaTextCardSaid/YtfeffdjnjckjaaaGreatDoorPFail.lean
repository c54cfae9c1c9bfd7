/- The reader reads an error's name. -/
import Derived.Test.YtfeffdjnjckjaaaGreatDoorJTree
import Derived.Test.YtfeffdjnjckjaaaGreatDoorPOperator
import Derived.Deep.Cut
namespace Go.Proofs.YtfeffdjnjckjaaaGreatDoor.Rg
open Go.RowKit

def errsL : List (List UInt8) := [[35, 78, 85, 76, 76, 33], [35, 68, 73, 86, 47, 48, 33], [35, 86, 65, 76, 85, 69, 33], [35, 82, 69, 70, 33], [35, 78, 65, 77, 69, 63], [35, 78, 85, 77, 33], [35, 78, 47, 65]]
def failP (r : List UInt8) : R := match errsL.find? (fun t => t.isPrefixOf r) with
  | some t => .ok (.err t) (r.drop t.length)
  | none => .bad
def errCells : Array Value := #[.string ⟨#[35, 78, 85, 76, 76, 33]⟩, .string ⟨#[35, 68, 73, 86, 47, 48, 33]⟩, .string ⟨#[35, 86, 65, 76, 85, 69, 33]⟩, .string ⟨#[35, 82, 69, 70, 33]⟩, .string ⟨#[35, 78, 65, 77, 69, 63]⟩, .string ⟨#[35, 78, 85, 77, 33]⟩, .string ⟨#[35, 78, 47, 65]⟩]
theorem errCells_get (k : Nat) (o : List UInt8) (h : errsL[k]? = some o) : errCells[k]? = some (.string (bs o)) := by
  have e : errCells = (errsL.map fun o => Value.string (bs o)).toArray := rfl
  rw [e]
  simp [h]

set_option maxHeartbeats 4000000 in
theorem errors_any (w : World) : Calls Tryz.prog 56 #[] w fun e w' => ∃ g0, e = .returned (.slice (some ⟨g0, 0, none⟩) 7 7) ∧ g0 = w.heap.size ∧ Box w' g0 errCells 9 ∧ Below w.heap.size w w' := by
  go_enter Tryz.func56, Tryz.ntmps56
  go_wp2
  go_ret
  exact ⟨w.heap.size, rfl, rfl, Box.made _ _ _, (Below.refl _ _).alloc (Nat.le_refl _) _⟩

set_option maxHeartbeats 4000000 in
theorem failure_any (g : Nat) (s : ByteArray) (r : List UInt8) (d : Int) (w : World) (h : At w g s r d false) :
    Calls Tryz.prog 46 #[.pointer (some ⟨g, 0, none⟩)] w (TreePost w g s d (failP r)) := by
  obtain ⟨j, hj⟩ : ∃ j, w.heap.size = j := ⟨_, rfl⟩
  have hgj : g < j := hj ▸ h.lt
  obtain ⟨W, hW⟩ : ∃ W, w.alloc (.cells (exCells Ev.zero) 25) = W := ⟨_, rfl⟩
  have HA : Hid (At W g s r d false) := by subst hW; exact h.alloc _
  have HF : Hid (Fr w W g) := by subst hW; exact (Fr.refl w g).alloc _
  have HB : Hid (Box W j (exCells Ev.zero) 25) := by subst hW; subst hj; exact Box.made _ _ _
  have HJ := Lib.hid hj
  have HW := Lib.hid hW
  clear h hj hW
  go_enter Tryz.func46, Tryz.ntmps46
  go_wp2_with fail
  rw [HJ.out]
  unfold exCells at HW
  simp only [Ev.zero] at HW
  rw [HW.out]
  clear HW
  refine (errors_any W).mono ?_
  rintro e w1 ⟨g0, rfl, hg0, hE, hb⟩
  replace HA := Lib.hid (HA.out.below hb)
  replace HF := Lib.hid (HF.out.trans (Fr.of_below g hb))
  have HBl := Lib.hid HB.out.lt
  replace HB := Lib.hid (HB.out.below hb)
  have HE := Lib.hid hE
  have hne : g0 ≠ j := by
    have := HBl.out
    omega
  clear hE hb hg0
  go_wp2
  go_loopw [7] (fun i wr => ∃ k : Nat, k ≤ 7 ∧ i = .int .i64 k ∧ Hid (At wr g s r d false) ∧ Hid (Fr w wr g) ∧ Hid (Box wr j (exCells Ev.zero) 25) ∧ Hid (Box wr g0 errCells 9) ∧ Hid (errsL.find? (fun t => t.isPrefixOf r) = (errsL.drop k).find? (fun t => t.isPrefixOf r))) (fun i _ => 7 - (intOf i).toNat)
  case atStart => exact ⟨0, by omega, rfl, HA, HF, HB, HE, Lib.hid rfl⟩
  clear HA HF HB HE
  case round =>
    obtain ⟨k, hk, rfl, HA, HF, HB, HE, HO⟩ := hrel
    by_cases hk7 : k < 7
    · obtain ⟨o, ho⟩ : ∃ o, errsL[k]? = some o := ⟨_, List.getElem?_eq_getElem (by simpa [errsL] using hk7)⟩
      have c0 : wr.cell? ⟨g0, k, none⟩ = some (.string (bs o)) := by
        rw [HE.out.cell]
        exact errCells_get k o ho
      have hd : errsL.drop k = o :: errsL.drop (k + 1) := by
        rw [List.drop_eq_getElem_cons (by simpa [errsL] using hk7)]
        congr 1
        rw [List.getElem?_eq_getElem (by simpa [errsL] using hk7)] at ho
        exact Option.some.inj ho
      have i0 : (0 : Int) ≤ (k : Int) := by omega
      have i1 : (k : Int) < 7 := by omega
      by_cases hp : o <+: r
      · have HW : Hid (failP r = .ok (.err o) (r.drop o.length)) := by
          show failP r = .ok (.err o) (r.drop o.length)
          unfold failP
          rw [HO.out, hd, List.find?_cons]
          have : o.isPrefixOf r = true := by simpa using hp
          rw [this]
        obtain ⟨r2, rfl⟩ := hp
        have TK := Lib.hid (takes_yes g s o r2 d false wr HA.out)
        clear hd ho HO
        go_wp2_with fail
        refine TK.out.mono ?_
        rintro e w3 ⟨rfl, hA3, hF3⟩
        replace HB := Lib.hid (HB.out.fr hF3 (by omega))
        obtain ⟨c0, c1, c2, c3, c4, c5, c6, c7, c8, c9, c10, c11, c12, c13⟩ := HB.out.ex
        have f := HB.out.free
        have HA := Lib.hid hA3
        have HF := Lib.hid (HF.out.trans hF3)
        clear hA3 hF3
        go_wp2
        refine tree_put { Ev.zero with op := sError, text := bs o } rfl rfl HB.out ?_
        rw [HW.out, List.drop_left]
        exact ⟨_, rfl, rfl, HA.out.put _ (by omega), HF.out.put _ (by have := HJ.out; omega)⟩
      · have HO2 : Hid (errsL.find? (fun t => t.isPrefixOf r) = (errsL.drop (k + 1)).find? (fun t => t.isPrefixOf r)) := by
          show errsL.find? (fun t => t.isPrefixOf r) = (errsL.drop (k + 1)).find? (fun t => t.isPrefixOf r)
          rw [HO.out, hd, List.find?_cons]
          have : o.isPrefixOf r = false := by rw [Bool.eq_false_iff]; simpa using hp
          rw [this]
        have TK := Lib.hid (takes_no g s (bs o) r d false wr HA.out hp)
        clear hd ho HO hp
        go_wp2_with fail
        refine TK.out.mono ?_
        rintro e w3 ⟨rfl, n, rfl⟩
        go_wp2
        go_roundw
        case rel => exact ⟨k + 1, by omega, by go_num, Lib.hid (HA.out.drewN n), Lib.hid (HF.out.trans (Fr.drewN _ _ n)), HB, HE, HO2⟩
        case measure => simp [intOf]; omega
    · obtain rfl : k = 7 := by omega
      have HW : Hid (failP r = .bad) := by
        show failP r = .bad
        unfold failP
        rw [HO.out]
        rfl
      clear HO
      have b3 := HA.out.c3
      have bf := HA.out.free 3
      go_upto_region 8 with (fail)
      clear b3 bf
      replace HB := Lib.hid (HB.out.other (k := g) 3 (.bool true) (by omega))
      replace HA := Lib.hid (HA.out.setBad true)
      replace HF := Lib.hid (HF.out.trans (Fr.set g 3 (.bool true)))
      generalize wr.setCell ⟨g, 3, none⟩ (.bool true) = w3 at HA HB HF ⊢
      obtain ⟨c0, c1, c2, c3, c4, c5, c6, c7, c8, c9, c10, c11, c12, c13⟩ := HB.out.ex
      have f := HB.out.free
      go_wp2
      refine tree_put Ev.zero rfl rfl HB.out ?_
      rw [HW.out]
      exact ⟨_, _, _, rfl, HA.out.put _ (by omega), HF.out.put _ (by have := HJ.out; omega)⟩

end Go.Proofs.YtfeffdjnjckjaaaGreatDoor.Rg
