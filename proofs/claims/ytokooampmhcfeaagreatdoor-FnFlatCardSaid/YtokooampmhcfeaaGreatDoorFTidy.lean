/- Columns that rise, each with rows that rise, are tidy. -/
import Derived.Test.YtokooampmhcfeaaGreatDoorFHas
namespace Go.Proofs.YtokooampmhcfeaaGreatDoor.Rg
open Go.RowKit Go.Maps

theorem pair_next {L : List Int} (h : L.Pairwise (· < ·)) {j : Nat} {x y : Int} (hx : L[j]? = some x) (hy : L[j + 1]? = some y) : x < y := by
  obtain ⟨h1, rfl⟩ := List.getElem?_eq_some_iff.1 hx
  obtain ⟨h2, rfl⟩ := List.getElem?_eq_some_iff.1 hy
  exact List.pairwise_iff_getElem.1 h j (j + 1) h1 h2 (by omega)

set_option maxHeartbeats 3200000 in
set_option maxRecDepth 100000 in
theorem tidy_any {B : Nat} {A : Option Addr} {c : Nat} {K : List (Int × Value)} {R : Int → List Int} (w : World) (h : Cols w B (.slice A K.length c) K R) (ht : TidyK K R) (hn : K.length ≤ 1000000) (hr : ∀ p ∈ K, (R p.1).length ≤ 1000000) :
    Calls Tryz.prog 8 #[.slice A K.length c] w fun e w' => e = .returned (.bool true) ∧ Below w.heap.size w w' := by
  have H := Lib.hid h
  have HT := Lib.hid ht
  have HR := Lib.hid hr
  clear h ht hr
  go_enter Tryz.func8, Tryz.ntmps8
  go_wp2
  go_loopw [3] (fun i wr => ∃ k : Nat, k ≤ K.length ∧ i = .int .i64 k ∧ Below w.heap.size w wr) (fun i _ => K.length - (intOf i).toNat)
  case atStart => exact ⟨0, by omega, rfl, Below.refl _ _⟩
  case round =>
    obtain ⟨k, hk, rfl, hb⟩ := hrel
    by_cases hlt : k < K.length
    · obtain ⟨p, hp⟩ : ∃ p, K[k]? = some p := ⟨_, List.getElem?_eq_getElem hlt⟩
      have HB := Lib.hid hb
      have hmem := List.mem_of_getElem? hp
      have hlen := HR.out p hmem
      have hne : 0 < (R p.1).length := List.length_pos_iff.2 (HT.out.some_ p hmem)
      have HRS := Lib.hid (HT.out.rows_ p hmem)
      have HAT := Lib.hid (fun w' (hb' : Below w.heap.size w w') => (H.out.keep hb').at hp)
      obtain ⟨g, Ap, cp, rfl, c0, c1, hrows⟩ := HAT.out _ HB.out
      have i0' : (0 : Int) ≤ (k : Int) := by omega
      have i1' : (k : Int) < (K.length : Int) := by omega
      clear hrows hmem
      have m0 : (((R p.1).length : Int) == 0) = false := beq_false_of_ne (by omega)
      have hk1 : (k : Int) + 1 ≤ 1000001 := by omega
      -- the pair of columns
      by_cases h0 : k = 0
      · have d0 : decide (0 < k) = false := decide_eq_false (by omega)
        have H0 := Lib.hid h0
        clear h0 hp
        go_wp2_with fail
        go_quiet (fail)
        have HBQ := Lib.hid (HB.out.trans ((below_drewN wr nq).mono HB.out.size))
        generalize wr.drewN nq = wq at *
        clear c0 c1
        go_wp2
        go_loopw [4] (fun i wv => ∃ j : Nat, 1 ≤ j ∧ j ≤ (R p.1).length ∧ i = .int .i64 j ∧ Below w.heap.size w wv) (fun i _ => (R p.1).length - (intOf i).toNat)
        case atStart => exact ⟨1, by omega, by omega, rfl, HBQ.out⟩
        clear HBQ
        case round =>
          obtain ⟨j, hj1, hj, rfl, hb⟩ := hrel
          obtain ⟨g2, Ap2, cp2, eg2, c0, c1, hrows⟩ := HAT.out _ hb
          obtain rfl : g = g2 := by cases eg2; rfl
          by_cases hjl : j < (R p.1).length
          · obtain ⟨x, hx⟩ : ∃ x, (R p.1)[j - 1]? = some x := ⟨_, List.getElem?_eq_getElem (by omega)⟩
            obtain ⟨y, hy⟩ : ∃ y, (R p.1)[j]? = some y := ⟨_, List.getElem?_eq_getElem hjl⟩
            obtain ⟨gp, eA, cx⟩ := hrows _ x hx
            obtain ⟨gp', eA', cy⟩ := hrows _ y hy
            rw [eA] at c1 eA'
            obtain rfl : gp = gp' := by cases eA'; rfl
            have hxy : x < y := pair_next HRS.out hx (by rw [show j - 1 + 1 = j by omega]; exact hy)
            have d1 : decide (y ≤ x) = false := decide_eq_false (by omega)
            have j1' : (0 : Int) ≤ (j : Int) - 1 := by omega
            have j2' : (j : Int) - 1 < ((R p.1).length : Int) := by omega
            have j3' : ((j : Int) - 1).toNat = j - 1 := by omega
            have j4' : (j : Int) < ((R p.1).length : Int) := by omega
            clear hrows hx hy eA eA' eg2 hxy c0
            go_wp2_with fail
            go_quiet (fail)
            have hb2 := hb.trans ((below_drewN wr nq).mono hb.size)
            generalize wr.drewN nq = wq2 at *
            clear cx cy c1 hb
            go_wp2
            go_roundw
            case rel => exact ⟨j + 1, by omega, by omega, by go_num, hb2⟩
            case measure => simp [intOf]; omega
          · obtain rfl : j = (R p.1).length := by omega
            clear hrows c0 eg2
            go_wp2
            go_roundw
            case rel => exact ⟨k + 1, by omega, by go_num, hb⟩
            case measure => simp [intOf]; omega
      · have d0 : decide (0 < k) = true := decide_eq_true (by omega)
        obtain ⟨p', hp'⟩ : ∃ p', K[k - 1]? = some p' := ⟨_, List.getElem?_eq_getElem (by omega)⟩
        obtain ⟨g', Ap', cp', eg, e0, e1, _⟩ := (H.out.keep HB.out).at hp'
        obtain rfl : g = g' := by cases eg; rfl
        have hlt2 : p'.1 < p.1 := pair_next HT.out.cols_ (j := k - 1) (by rw [List.getElem?_map, hp']; rfl) (by rw [show k - 1 + 1 = k by omega, List.getElem?_map, hp]; rfl)
        have d1 : decide (p.1 ≤ p'.1) = false := decide_eq_false (by omega)
        have k1' : (0 : Int) ≤ (k : Int) - 1 := by omega
        have k2' : (k : Int) - 1 < (K.length : Int) := by omega
        have k3' : ((k : Int) - 1).toNat = k - 1 := by omega
        clear hp hp' e1 hlt2 eg
        go_wp2_with fail
        go_quiet (fail)
        have HBQ := Lib.hid (HB.out.trans ((below_drewN wr nq).mono HB.out.size))
        generalize wr.drewN nq = wq at *
        clear c0 c1 e0 d1
        go_wp2
        go_loopw [4] (fun i wv => ∃ j : Nat, 1 ≤ j ∧ j ≤ (R p.1).length ∧ i = .int .i64 j ∧ Below w.heap.size w wv) (fun i _ => (R p.1).length - (intOf i).toNat)
        case atStart => exact ⟨1, by omega, by omega, rfl, HBQ.out⟩
        clear HBQ
        case round =>
          obtain ⟨j, hj1, hj, rfl, hb⟩ := hrel
          obtain ⟨g2, Ap2, cp2, eg2, c0, c1, hrows⟩ := HAT.out _ hb
          obtain rfl : g = g2 := by cases eg2; rfl
          by_cases hjl : j < (R p.1).length
          · obtain ⟨x, hx⟩ : ∃ x, (R p.1)[j - 1]? = some x := ⟨_, List.getElem?_eq_getElem (by omega)⟩
            obtain ⟨y, hy⟩ : ∃ y, (R p.1)[j]? = some y := ⟨_, List.getElem?_eq_getElem hjl⟩
            obtain ⟨gp, eA, cx⟩ := hrows _ x hx
            obtain ⟨gp', eA', cy⟩ := hrows _ y hy
            rw [eA] at c1 eA'
            obtain rfl : gp = gp' := by cases eA'; rfl
            have hxy : x < y := pair_next HRS.out hx (by rw [show j - 1 + 1 = j by omega]; exact hy)
            have d1 : decide (y ≤ x) = false := decide_eq_false (by omega)
            have j1' : (0 : Int) ≤ (j : Int) - 1 := by omega
            have j2' : (j : Int) - 1 < ((R p.1).length : Int) := by omega
            have j3' : ((j : Int) - 1).toNat = j - 1 := by omega
            have j4' : (j : Int) < ((R p.1).length : Int) := by omega
            clear hrows hx hy eA eA' eg2 hxy c0
            go_wp2_with fail
            go_quiet (fail)
            have hb2 := hb.trans ((below_drewN wr nq).mono hb.size)
            generalize wr.drewN nq = wq2 at *
            clear cx cy c1 hb
            go_wp2
            go_roundw
            case rel => exact ⟨j + 1, by omega, by omega, by go_num, hb2⟩
            case measure => simp [intOf]; omega
          · obtain rfl : j = (R p.1).length := by omega
            clear hrows c0 eg2
            go_wp2
            go_roundw
            case rel => exact ⟨k + 1, by omega, by go_num, hb⟩
            case measure => simp [intOf]; omega
    · obtain rfl : k = K.length := by omega
      go_wp2
      go_ret
      exact ⟨rfl, hb⟩
end Go.Proofs.YtokooampmhcfeaaGreatDoor.Rg
