/- An argument of four numbers, opened. -/
import Derived.Test.YtokooampmhcfeaaGreatDoorProg
import Derived.WalkKit
import Derived.ProofKit
import Derived.OpenShut
namespace Go.Proofs.YtokooampmhcfeaaGreatDoor.Rg
open Go.ChangeShapes Go.WideShapes Go.ChangeAt Go.RowKit

theorem open_four_of {P : Program} {t e : TypeId} (ht : P.underlying t = some (.array 4 e)) (he : P.underlying e = some (.int .i64)) (h4 : P.cellsOf t = 4) (h1 : P.cellsOf e = 1) {H : Type} {enc : TypeId × Value → H} {W : World} {r : Reach} {b0 : Nat} {v : Value} {d : DataW H} {p : List MemPlace} (hv : Value.okWide P W r b0 t v) (h : DataW.Trod enc P W 0 (fun _ => true) true t v d p) :
    ∃ x y z u : Int, v = .agg #[.int .i64 x, .int .i64 y, .int .i64 z, .int .i64 u] := by
  unfold Value.okWide at hv
  rw [ht] at hv
  obtain ⟨cs, rfl, hsz, _⟩ := hv
  rw [h4] at hsz
  obtain ⟨fuel, hf⟩ := h
  obtain ⟨xs, m, _, _, _, hl, hel⟩ := DataW.trod_array ht hf
  have each : ∀ i, i < 4 → ∃ n : Int, cs.toList[i]? = some (.int .i64 n) := by
    intro i hi
    have hE := hel i hi
    rw [h1, Nat.mul_one, List.getElem?_eq_getElem (by omega)] at hE
    obtain ⟨n, e1, _, _⟩ := DataW.trod_int he hE
    refine ⟨n, ?_⟩
    have h0 : (((Value.agg cs).cells.toList.drop i).take 1)[0]? = some (.int .i64 n) := by rw [e1]; rfl
    simpa [Value.cells] using h0
  obtain ⟨x, hx⟩ := each 0 (by decide)
  obtain ⟨y, hy⟩ := each 1 (by decide)
  obtain ⟨z, hz⟩ := each 2 (by decide)
  obtain ⟨u, hu⟩ := each 3 (by decide)
  refine ⟨x, y, z, u, ?_⟩
  congr 1
  apply Array.ext'
  apply List.ext_getElem?
  intro i
  rcases i with _ | _ | _ | _ | i
  · simpa using hx
  · simpa using hy
  · simpa using hz
  · simpa using hu
  · have : cs.toList.length ≤ i + 1 + 1 + 1 + 1 := by simp; omega
    rw [List.getElem?_eq_none this]
    simp

set_option maxRecDepth 100000 in
theorem open_four {H : Type} {enc : TypeId × Value → H} {W : World} {r : Reach} {b0 : Nat} {v : Value} {d : DataW H} {p : List MemPlace} (hv : Value.okWide Tryz.prog W r b0 41 v) (h : DataW.Trod enc Tryz.prog W 0 (fun _ => true) true 41 v d p) :
    ∃ x y z u : Int, v = .agg #[.int .i64 x, .int .i64 y, .int .i64 z, .int .i64 u] :=
  open_four_of Tryz.underlying41 Tryz.underlying3 (by kernel_rfl) (by kernel_rfl) hv h
end Go.Proofs.YtokooampmhcfeaaGreatDoor.Rg
