/- Flat returns exactly the cells of areas, column by column: the statement's function, walked. -/
import Derived.Test.YtokooampmhcfeaaGreatDoorFImpl
import Derived.Test.YtokooampmhcfeaaGreatDoorFTidy
import Derived.Test.YtokooampmhcfeaaGreatDoorFCovers
namespace Go.Proofs.YtokooampmhcfeaaGreatDoor.Rg
open Go.RowKit Go.Maps

theorem rise_len : ∀ (l : List Int) (lo hi : Int), lo ≤ hi + 1 → l.Pairwise (· < ·) → (∀ x ∈ l, lo ≤ x ∧ x ≤ hi) → l.length ≤ (hi + 1 - lo).toNat := by
  intro l
  induction l with
  | nil => intro lo hi _ _ _; simp
  | cons a l ih =>
    intro lo hi _ hp hb
    obtain ⟨h1, h2⟩ := List.pairwise_cons.1 hp
    have ha := hb a (by simp)
    have := ih (a + 1) hi (by omega) h2 (fun x hx => ⟨by have := h1 x hx; omega, (hb x (by simp [hx])).2⟩)
    simp only [List.length_cons]
    omega

theorem cols_good {L : List Ar} (hG : ∀ a ∈ L, Good a) {c r : Int} (h : r ∈ cols L c) : 1 ≤ c ∧ c ≤ 30 ∧ 1 ≤ r ∧ r ≤ 60 := by
  rw [mem_cols, List.any_eq_true] at h
  obtain ⟨a, ha, hw⟩ := h
  have g := hG a ha
  have := g.p1
  have := g.x30
  have := g.q1
  have := g.y60
  unfold within at hw
  simp only [Bool.and_eq_true, decide_eq_true_eq] at hw
  omega

set_option maxHeartbeats 3200000 in
set_option maxRecDepth 100000 in
theorem flat_law (A : Option Addr) (n c : Nat) (w : World) (hn : n ≤ 2147483647) (hA : ArgR w A n) (htab : Lib.TabIs Tryz.prog w "strings.asciiSpace" .u8 Lib.asciiSpaceTab) :
    Calls Tryz.prog 3 #[.slice A n c] w fun e w' => e = .returned (.bool true) ∧ Below w.heap.size w w' := by
  have HA := Lib.hid (refapart_any A n c w hn hA)
  have HT := Lib.hid htab
  clear hA htab
  go_enter Tryz.func3, Tryz.ntmps3
  go_wp2_with fail
  refine HA.out.mono ?_
  rintro e w1 ⟨A1, m, c1, L, rfl, hO, hap, hgd, hm5, hb1⟩
  have hm := hO.len
  have hrd := hO.reads
  have hA2 := areas_any A1 m c1 L w1 hm hm5 hgd hrd
  have HA2 := Lib.hid hA2
  have HRD := Lib.hid hrd
  have HAP := Lib.hid hap
  have HGD := Lib.hid hgd
  have HM := Lib.hid hm
  have HB1 := Lib.hid hb1
  clear hO hap hgd hrd hA2 hb1 HA hm
  go_wp2_with fail
  refine HA2.out.mono ?_
  rintro e w2 ⟨rfl, hb2⟩
  have HB2 := Lib.hid (HB1.out.trans (hb2.mono HB1.out.size))
  have HRD2 := Lib.hid (HRD.out.later hb2)
  have HIF := Lib.hid (impl_flat L w2 (by have := HM.out; omega) HGD.out (tab_stays HT.out HB2.out))
  clear hb2 HA2 HB1 HRD HT
  go_wp2_with fail
  refine HIF.out.mono ?_
  rintro e w3 ⟨v, K, R, rfl, hC, h1, h2, h3, h4, hb3⟩
  obtain ⟨A3, c3, rfl⟩ := own_slice hC.own
  have HB3 := Lib.hid (HB2.out.trans (hb3.mono HB2.out.size))
  have HRD3 := Lib.hid (HRD2.out.later hb3)
  have hK : K.length ≤ 30 := by
    have := rise_len (K.map Prod.fst) 1 30 (by decide) h4 (fun x hx => by
      obtain ⟨p, hp, rfl⟩ := List.mem_map.1 hx
      obtain ⟨hw, hne⟩ := h3 p hp
      obtain ⟨r, hr⟩ := List.exists_mem_of_ne_nil _ hne
      have := cols_good HGD.out ((h1 _ hw).1.mem_iff.1 hr)
      omega)
    rw [List.length_map] at this
    exact this
  have hrise : ∀ p ∈ K, (R p.1).Pairwise (· < ·) := fun p hp => rows_rise HAP.out (h1 _ (h3 p hp).1).1 (h1 _ (h3 p hp).1).2
  have hrl : ∀ p ∈ K, (R p.1).length ≤ 60 := fun p hp => rise_len _ 1 60 (by decide) (hrise p hp) (fun x hx => by
    have := cols_good HGD.out ((h1 _ (h3 p hp).1).1.mem_iff.1 hx)
    omega)
  have HC := Lib.hid hC
  have HRL : Hid (∀ p ∈ K, (R p.1).length ≤ 1000000) := fun p hp => by have := hrl p hp; omega
  have HALL : Hid (∀ c r : Int, 1 ≤ c → c ≤ 30 → 1 ≤ r → r ≤ 60 → hasIn K R c r = L.any fun a => within c r a) := by
    intro c r hc1 hc2 _ _
    have hw : (ik c).wf = true := WalkArith.wf_i64 (by omega)
    exact hasIn_eq (h1 c hw).1 (h2 c hw) r
  have HTD := Lib.hid (tidy_any w3 hC ⟨fun p hp => (h3 p hp).2, h4, hrise⟩ (by omega) HRL.out)
  clear hC h1 h2 h3 h4 hb3 HRD2 HIF HB2 hrise hrl
  go_wp2_with fail
  refine HTD.out.mono ?_
  rintro e w4 ⟨rfl, hb4⟩
  have HCV := Lib.hid (covers_any (A2 := A1) (m := m) (c2 := c1) (L := L) w4 (HC.out.keep hb4) (by omega) HRL.out HM.out hm5 (HRD3.out.later hb4) HALL.out)
  have HB4 := Lib.hid (HB3.out.trans (hb4.mono HB3.out.size))
  clear hb4 HTD HC HRD3 HALL HB3
  go_wp2_with fail
  refine HCV.out.mono ?_
  rintro e w5 ⟨rfl, hb5⟩
  have HB5 := Lib.hid (HB4.out.trans (hb5.mono HB4.out.size))
  clear hb5 HCV HB4
  go_wp2_with fail
  refine (lives_any _).mono ?_
  rintro e w6 ⟨rfl, hb6⟩
  go_wp2
  go_ret
  exact ⟨rfl, HB5.out.trans (hb6.mono HB5.out.size)⟩

set_option maxHeartbeats 1600000 in
set_option maxRecDepth 100000 in
theorem flat_big (A : Option Addr) (n c : Nat) (w : World) (hn : 2147483647 < n) :
    Calls Tryz.prog 3 #[.slice A n c] w fun e w' => e = .returned (.bool true) ∧ Below w.heap.size w w' := by
  have hi : (2147483647 : Int) < (n : Int) := by omega
  go_enter Tryz.func3, Tryz.ntmps3
  go_wp2
  go_ret
  exact ⟨rfl, Below.refl _ _⟩

theorem flat_all (A : Option Addr) (n c : Nat) (w : World) (hA : ArgR w A n) (htab : Lib.TabIs Tryz.prog w "strings.asciiSpace" .u8 Lib.asciiSpaceTab) :
    Calls Tryz.prog 3 #[.slice A n c] w fun e w' => e = .returned (.bool true) ∧ Below w.heap.size w w' := by
  by_cases hn : n ≤ 2147483647
  · exact flat_law A n c w hn hA htab
  · exact flat_big A n c w (by omega)
end Go.Proofs.YtokooampmhcfeaaGreatDoor.Rg
