/- An argument that is a list of arrays of four numbers, opened. -/
import Derived.Test.YtokooampmhcfeaaGreatDoorROpen
import Derived.Test.YtokooampmhcfeaaGreatDoorRApart
namespace Go.Proofs.YtokooampmhcfeaaGreatDoor.Rg
open Go.ChangeShapes Go.WideShapes Go.ChangeAt Go.RowKit

theorem cell_old (w : World) (a : Addr) (v : Value) (h : w.cell? a = some v) : a.block < w.heap.size := by
  rcases Nat.lt_or_ge a.block w.heap.size with h' | h'
  · exact h'
  · simp [World.cell?, Array.getElem?_eq_none h'] at h

theorem open_fours_of {P : Program} {t e q : TypeId} (ht : P.underlying t = some (.slice e)) (he : P.underlying e = some (.array 4 q)) (hq : P.underlying q = some (.int .i64)) (h4 : P.cellsOf e = 4) (h1 : P.cellsOf q = 1) {H : Type} {enc : TypeId × Value → H} {W : World} {A : Option Addr} {len cap : Nat} {d : DataW H} {p : List MemPlace} (h : DataW.Trod enc P W 0 (fun _ => true) true t (.slice A len cap) d p) (hp : 0 < len) :
    ∃ b off, A = some ⟨b, off, none⟩ ∧ ∀ k, k < len → ∃ f : Nat → Int, ∀ j, j < 4 → W.cell? ⟨b, off + k * 4 + j, none⟩ = some (.int .i64 (f j)) := by
  obtain ⟨fuel, hf⟩ := h
  rcases DataW.trod_slice ht hf with ⟨hcs, _⟩ | ⟨a, len', cap', elems, rest, n, _, hcs, _, hb, hl, hm, hlen, hel, _⟩
  · simp [Value.cells] at hcs
    omega
  · simp only [Value.cells] at hcs
    injection hcs with hcs _
    injection hcs with hA hn hc
    subst hA
    subst hn
    obtain ⟨b, off, spot⟩ := a
    have each : ∀ k, k < len → ∃ f : Nat → Int, ∀ j, j < 4 → W.cell? (((⟨b, off, spot⟩ : Addr).add (k * 4)).add j) = some (.int .i64 (f j)) := by
      intro k hk
      have hE := hel k hk
      rw [h4, List.getElem?_eq_getElem (by omega), Option.bind_eq_some_iff] at hE
      obtain ⟨cs', hc1, hc2⟩ := hE
      obtain ⟨xs, m, _, _, hlc, hxl, hin⟩ := DataW.trod_array he hc2
      have hcell : ∀ j, j < 4 → ∃ z : Int, W.cell? (((⟨b, off, spot⟩ : Addr).add (k * 4)).add j) = some (.int .i64 z) := by
        intro j hj
        have hI := hin j hj
        rw [h1, Nat.mul_one, List.getElem?_eq_getElem (by omega)] at hI
        obtain ⟨z, e1, _, _⟩ := DataW.trod_int hq hI
        refine ⟨z, ?_⟩
        have h0 : ((cs'.drop j).take 1)[0]? = some (.int .i64 z) := by rw [e1]; rfl
        have h2 : cs'[j]? = some (.int .i64 z) := by simpa using h0
        unfold World.cells? at hc1
        rw [if_pos (Nat.zero_le _)] at hc1
        have h3 := mapM_some_get hc1 j j (by simp [hj])
        rw [h3, h2]
      refine ⟨fun j => if hj : j < 4 then (hcell j hj).choose else 0, fun j hj => ?_⟩
      simp only [dif_pos hj]
      exact (hcell j hj).choose_spec
    obtain ⟨f0, hf0⟩ := each 0 hp
    have hspot : spot = none := by
      have := World.cell?_spot (hf0 0 (by decide))
      simpa [Addr.add] using this
    subst hspot
    refine ⟨b, off, rfl, fun k hk => ?_⟩
    obtain ⟨f, hf⟩ := each k hk
    refine ⟨f, fun j hj => ?_⟩
    have := hf j hj
    rwa [Go.WideShapes.add_plain, Go.WideShapes.add_plain] at this

set_option maxRecDepth 100000 in
theorem open_fours {H : Type} {enc : TypeId × Value → H} {W : World} {A : Option Addr} {len cap : Nat} {d : DataW H} {p : List MemPlace} (h : DataW.Trod enc Tryz.prog W 0 (fun _ => true) true 22 (.slice A len cap) d p) : ArgR W A len := by
  intro hp
  obtain ⟨b, off, rfl, hc⟩ := open_fours_of Tryz.underlying22 Tryz.underlying41 Tryz.underlying3 (by kernel_rfl) (by kernel_rfl) h hp
  obtain ⟨f0, hf0⟩ := hc 0 hp
  refine ⟨b, off, rfl, cell_old W ⟨b, off + 0 * 4 + 0, none⟩ _ (hf0 0 (by decide)), fun k hk => ?_⟩
  obtain ⟨f, hf⟩ := hc k hk
  exact ⟨⟨f 0, f 1, f 2, f 3⟩, hf 0 (by decide), hf 1 (by decide), hf 2 (by decide), hf 3 (by decide)⟩
end Go.Proofs.YtokooampmhcfeaaGreatDoor.Rg
