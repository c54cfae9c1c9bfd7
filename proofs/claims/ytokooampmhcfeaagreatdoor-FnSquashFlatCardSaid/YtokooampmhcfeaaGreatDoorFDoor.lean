/- The door of the package's flat. -/
import Derived.Test.YtokooampmhcfeaaGreatDoorFFlat
namespace Go.Proofs.YtokooampmhcfeaaGreatDoor.Rg
open Go.RowKit Go.Maps

def DoorPost (w : World) (L : List Ar) (e : Ending) (w' : World) : Prop := ∃ (b base N : Nat), e = .returned (.tuple #[.map (some b), .bool true]) ∧ w.heap.size ≤ b ∧ b < base ∧ N ≤ 9000 ∧ base ≤ w'.heap.size ∧ Rise w' b base N (cols L) ∧ Below w.heap.size w w'

theorem Rise.keep {w w' : World} {b base N : Nat} {F : Int → List Int} (h : Rise w b base N F) (hb : Below w.heap.size w w') : Rise w' b base N F := by
  obtain ⟨n, D, V, G, hG, hn, hr⟩ := h
  exact ⟨n, D, V, G, hG.keep hb, hn, hr⟩

set_option maxHeartbeats 1600000 in
set_option maxRecDepth 100000 in
theorem door_flat (L : List Ar) (w : World) (hn2 : L.length ≤ 5) (hG : ∀ a ∈ L, Good a) (htab : Lib.TabIs Tryz.prog w "strings.asciiSpace" .u8 Lib.asciiSpaceTab) :
    Calls Tryz.prog 17 #[.string ⟨(joined (texts L)).toArray⟩] w (DoorPost w L) := by
  have FA := flat_any L w hn2 hG htab
  go_enter Tryz.func17, Tryz.ntmps17
  go_wp2_with fail
  refine FA.mono ?_
  rintro e w1 ⟨b, base, N, rfl, h1, h2, h3, h4, h5, h6⟩
  go_wp2_with fail
  go_quiet (fail)
  go_wp2
  go_ret2
  have hb := below_drewN w1 nq
  exact ⟨b, base, N, rfl, h1, h2, h3, Nat.le_trans h4 hb.size, h5.keep hb, h6.trans (hb.mono h6.size)⟩
end Go.Proofs.YtokooampmhcfeaaGreatDoor.Rg
