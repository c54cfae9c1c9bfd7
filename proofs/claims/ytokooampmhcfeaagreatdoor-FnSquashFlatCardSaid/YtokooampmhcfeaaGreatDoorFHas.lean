/- Whether columns hold a cell. -/
import Derived.Test.YtokooampmhcfeaaGreatDoorFPlain
namespace Go.Proofs.YtokooampmhcfeaaGreatDoor.Rg
open Go.RowKit Go.Maps

theorem colCells_len (p : Int × Value) : (colCells p).length = 2 := rfl

/-- Record k of the columns: its column, its rows. -/
theorem Cols.at {w : World} {B : Nat} {A : Option Addr} {n c : Nat} {K : List (Int × Value)} {R : Int → List Int} (h : Cols w B (.slice A n c) K R) {k : Nat} {p : Int × Value} (hk : K[k]? = some p) :
    ∃ (g : Nat) (Ap : Option Addr) (cp : Nat), A = some ⟨g, 0, none⟩ ∧ w.cell? ⟨g, k * 2, none⟩ = some (.int .i64 p.1) ∧ w.cell? ⟨g, k * 2 + 1, none⟩ = some (.slice Ap (R p.1).length cp) ∧
      ∀ j x, (R p.1)[j]? = some x → ∃ gp, Ap = some ⟨gp, 0, none⟩ ∧ w.cell? ⟨gp, j, none⟩ = some (.int .i64 x) := by
  have hlt : k < K.length := (List.getElem?_eq_some_iff.1 hk).1
  have ho := h.own
  obtain ⟨g, cap, hv, _⟩ := ho.form (by omega)
  injection hv with hA hn hc
  subst hA
  have hr := h.rows p (List.mem_of_getElem? hk)
  obtain ⟨Ap, cp, e⟩ := own_slice hr
  have c0 := ho.cells (g := g) (by rw [hn, hc]; rfl) (k * 2) (.int .i64 p.1) (by
    have := flat_cell colCells 2 colCells_len K k 0 p hk (by decide)
    rw [Nat.add_zero] at this
    rw [this]
    rfl)
  have c1 := ho.cells (g := g) (by rw [hn, hc]; rfl) (k * 2 + 1) p.2 (by
    rw [flat_cell colCells 2 colCells_len K k 1 p hk (by decide)]
    rfl)
  rw [addAt] at c0 c1
  rw [e] at c1 hr
  refine ⟨g, Ap, cp, rfl, c0, c1, fun j x hj => ?_⟩
  have hjl : j < (R p.1).length := (List.getElem?_eq_some_iff.1 hj).1
  obtain ⟨gp, cap', hv', _⟩ := hr.form (by omega)
  injection hv' with hA' hn' hc'
  subst hA'
  have := hr.cells (g := gp) (by rw [hc']; rfl) j (.int .i64 x) (by simp [hj])
  rw [addAt] at this
  exact ⟨gp, rfl, this⟩

theorem any_take {L : List Int} {r : Int} {j : Nat} {x : Int} (h : L[j]? = some x) : ((L.take (j + 1)).any fun x => decide (x = r)) = ((L.take j).any (fun x => decide (x = r)) || decide (x = r)) := by
  rw [List.take_add_one, h, List.any_append]
  simp

set_option maxHeartbeats 1600000 in
set_option maxRecDepth 100000 in
theorem has_any {B : Nat} {A : Option Addr} {c : Nat} {K : List (Int × Value)} {R : Int → List Int} (cc r : Int) (w : World) (h : Cols w B (.slice A K.length c) K R) (hn : K.length ≤ 1000000) (hr : ∀ p ∈ K, (R p.1).length ≤ 1000000) :
    Calls Tryz.prog 21 #[.slice A K.length c, .int .i64 cc, .int .i64 r] w fun e w' => e = .returned (.bool (hasIn K R cc r)) ∧ w = w' := by
  have H := Lib.hid h
  have HR := Lib.hid hr
  clear h hr
  go_enter Tryz.func21, Tryz.ntmps21
  go_wp2
  go_loopw [7] (fun i wr => ∃ k : Nat, k ≤ K.length ∧ i = .int .i64 k ∧ hasIn (K.take k) R cc r = false ∧ w = wr) (fun i _ => K.length - (intOf i).toNat)
  case atStart => exact ⟨0, by omega, rfl, rfl, rfl⟩
  case round =>
    obtain ⟨k, hk, rfl, hno, rfl⟩ := hrel
    by_cases hlt : k < K.length
    · obtain ⟨p, hp⟩ : ∃ p, K[k]? = some p := ⟨_, List.getElem?_eq_getElem hlt⟩
      obtain ⟨g, Ap, cp, rfl, c0, c1, hrows⟩ := H.out.at hp
      have HT := Lib.hid (hasIn_take (R := R) (c := cc) (r := r) hp)
      have HOF := Lib.hid (fun h1 h2 => hasIn_of (R := R) (c := cc) (r := r) (List.mem_of_getElem? hp) h1 h2)
      have HRW := Lib.hid hrows
      have HNO := Lib.hid hno
      have hxl := HR.out p (List.mem_of_getElem? hp)
      have i0' : (0 : Int) ≤ (k : Int) := by omega
      have i1' : (k : Int) < (K.length : Int) := by omega
      clear hp hrows hno
      obtain ⟨p1, p2⟩ := p
      simp only at c0 c1 HT HOF HRW hxl
      generalize hX : R p1 = X at *
      go_wp2
      go_loopw [8] (fun i wr => ∃ j : Nat, j ≤ X.length ∧ i = .int .i64 j ∧ Hid (p1 = cc → ((X.take j).any fun x => decide (x = r)) = false) ∧ w = wr) (fun i _ => X.length - (intOf i).toNat)
      case atStart => exact ⟨0, by omega, rfl, fun _ => rfl, rfl⟩
      case round =>
        obtain ⟨j, hj, rfl, hnj, rfl⟩ := hrel
        by_cases hjl : j < X.length
        · obtain ⟨x, hx⟩ : ∃ x, X[j]? = some x := ⟨_, List.getElem?_eq_getElem hjl⟩
          obtain ⟨gp, rfl, cx⟩ := HRW.out j x hx
          have HX := Lib.hid (any_take (r := r) hx)
          have HM := Lib.hid (List.mem_of_getElem? hx)
          have HNJ := hnj
          have j0' : (0 : Int) ≤ (j : Int) := by omega
          have j1' : (j : Int) < (X.length : Int) := by omega
          clear hx hnj
          by_cases h1 : p1 = cc
          · subst h1
            by_cases h2 : x = r
            · subst h2
              have HY := Lib.hid (HOF.out rfl HM.out)
              go_wp2
              go_ret
              exact ⟨by rw [HY.out]; rfl, rfl⟩
            · go_wp2
              go_roundw
              case rel => exact ⟨j + 1, by omega, by go_num, (show Hid (_ → _) from fun _ => by rw [HX.out, HNJ.out rfl]; simp [h2]), by trivial⟩
              case measure => simp [intOf]; omega
          · go_wp2
            go_roundw
            case rel => exact ⟨j + 1, by omega, by go_num, (show Hid (_ → _) from fun h => absurd h h1), by trivial⟩
            case measure => simp [intOf]; omega
        · obtain rfl : j = X.length := by omega
          rw [List.take_length] at hnj
          have HN := hnj
          clear hnj
          go_wp2
          go_roundw
          case rel =>
            refine ⟨k + 1, by omega, by go_num, ?_, by trivial⟩
            rw [HT.out, HNO.out]
            by_cases h1 : p1 = cc
            · simp [h1, HN.out h1]
            · simp [h1]
          case measure => simp [intOf]; omega
    · obtain rfl : k = K.length := by omega
      rw [List.take_length] at hno
      go_wp2
      go_ret
      exact ⟨by rw [hno]; rfl, rfl⟩
end Go.Proofs.YtokooampmhcfeaaGreatDoor.Rg
