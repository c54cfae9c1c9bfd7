/- The thin package's Flat. -/
import Derived.Test.YtokooampmhcfeaaGreatDoorFCols
namespace Go.Proofs.YtokooampmhcfeaaGreatDoor.Rg
open Go.RowKit Go.Maps

/-- Columns that rise, each with the rows of areas in it, which rise too. -/
def FlatColsPost (w : World) (L : List Ar) (e : Ending) (w' : World) : Prop := ∃ (v : Value) (K : List (Int × Value)) (R : Int → List Int), e = .returned (.tuple #[v, .bool true]) ∧ Cols w' w.heap.size v K R ∧
  (∀ c, (ik c).wf = true → (R c).Perm (cols L c) ∧ (R c).Pairwise (· ≤ ·)) ∧ (∀ c, (ik c).wf = true → R c ≠ [] → c ∈ K.map Prod.fst) ∧ (∀ p ∈ K, (ik p.1).wf = true ∧ R p.1 ≠ []) ∧ (K.map Prod.fst).Pairwise (· < ·) ∧ Below w.heap.size w w'

set_option maxHeartbeats 1600000 in
set_option maxRecDepth 100000 in
theorem impl_flat (L : List Ar) (w : World) (hn2 : L.length ≤ 5) (hG : ∀ a ∈ L, Good a) (htab : Lib.TabIs Tryz.prog w "strings.asciiSpace" .u8 Lib.asciiSpaceTab) :
    Calls Tryz.prog 6 #[.string ⟨(joined (texts L)).toArray⟩] w (FlatColsPost w L) := by
  have DF := door_flat L w hn2 hG htab
  go_enter Tryz.func6, Tryz.ntmps6
  go_wp2_with fail
  refine DF.mono ?_
  rintro e w1 ⟨b, base, N, rfl, h1, h2, h3, h4, ⟨n, D, V, G, hGr, hn, hr⟩, h6⟩
  go_wp2_with fail
  refine (cols_any w1 hGr (by omega)).mono ?_
  rintro e w2 ⟨v, K, rfl, hC, hk1, hk2, hk3, hb2⟩
  have hs := h6.size
  obtain ⟨A, c, rfl⟩ := own_slice hC.own
  go_wp2
  go_ret2
  exact ⟨_, K, _, rfl, ⟨own_lower hC.own hs, fun p hp => own_lower (hC.rows p hp) hs, hC.nodup⟩, fun c hc => ⟨(hr c hc).1, by rw [List.pairwise_map]; exact (hr c hc).2⟩, hk1, hk2, hk3, h6.trans (hb2.mono hs)⟩
end Go.Proofs.YtokooampmhcfeaaGreatDoor.Rg
