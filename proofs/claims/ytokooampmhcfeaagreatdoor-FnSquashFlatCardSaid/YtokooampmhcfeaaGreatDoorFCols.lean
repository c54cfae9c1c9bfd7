/- The map's columns, as a slice of records. -/
import Derived.Test.YtokooampmhcfeaaGreatDoorFDoor
import Derived.Test.YtokooampmhcfeaaGreatDoorFColSort
import Derived.Test.YtokooampmhcfeaaGreatDoorFColsDef
namespace Go.Proofs.YtokooampmhcfeaaGreatDoor.Rg
open Go.RowKit Go.Maps

theorem infoCol : (Tryz.prog.info? 24).map (fun i => i.size) = some 1 := by kernel_rfl
theorem infoColumn : (Tryz.prog.info? 38).map (fun i => (i.zero, i.size, i.bytes)) = some (some (.agg #[.int .i64 0, .slice none 0 0]), 2, 32) := by kernel_rfl

theorem Grp.keepBut {w w' : World} {e : TypeId} {b base n : Nat} {D : DataW Value} {V : Int → Value} {G : Int → List (Int × Nat)} (h : Grp w b base n D V G) (hk : KeepBut w w' e) (h1 : 32 ≠ e) (h2 : 3 ≠ e) (hm : w'.heap[b]? = w.heap[b]?) : Grp w' b base n D V G := by
  have hown := h.own
  obtain ⟨es, clock, hmm, F, hn, hD⟩ := hown
  exact ⟨⟨es, clock, hm.trans hmm, F, hn, hD⟩, h.at_, h.has, fun c => hk.own (h.rows c) h1, h.apart, fun c p hp => ⟨(h.inner c p hp).1, Eq.trans (hk p.2 _ h2 (h.inTag hp)) (h.inner c p hp).2⟩, h.len⟩

theorem ranges_same {w w' : World} {b r n cnt : Nat} {D : DataW Value} {left : Lit → Bool} (h : w.ranges Tryz.prog 3 held b r n D left cnt) (hb : w'.heap[b]? = w.heap[b]?) (hr : w'.heap[r]? = w.heap[r]?) : w'.ranges Tryz.prog 3 held b r n D left cnt := by
  obtain ⟨es, clock, since, seen, c0, h1, F, h2, h3, h4, rest⟩ := h
  exact ⟨es, clock, since, seen, c0, hb.trans h1, F, h2, h3, hr.trans h4, rest⟩

theorem ranges_tags {w : World} {b r n cnt : Nat} {D : DataW Value} {left : Lit → Bool} (h : w.ranges Tryz.prog 3 held b r n D left cnt) {g : Nat} {t : TypeId} (ht : Tag w g t) : g ≠ b ∧ g ≠ r := by
  obtain ⟨cs, hc⟩ := ht
  obtain ⟨es, clock, since, seen, c0, h1, _, _, _, h4, _⟩ := h
  refine ⟨?_, ?_⟩ <;> rintro rfl
  · rw [hc] at h1
    cases h1
  · rw [hc] at h4
    cases h4

def ColsPost (w : World) (R : Int → List Int) (e : Ending) (w' : World) : Prop := ∃ (v : Value) (K : List (Int × Value)), e = .returned v ∧ Cols w' w.heap.size v K R ∧ (∀ c, (ik c).wf = true → R c ≠ [] → c ∈ K.map Prod.fst) ∧ (∀ p ∈ K, (ik p.1).wf = true ∧ R p.1 ≠ []) ∧ (K.map Prod.fst).Pairwise (· < ·) ∧ Below w.heap.size w w'

set_option maxHeartbeats 3200000 in
set_option maxRecDepth 100000 in
theorem cols_any {b base n : Nat} {D : DataW Value} {V : Int → Value} {G : Int → List (Int × Nat)} (w : World) (hG : Grp w b base n D V G) (hn : n ≤ 90000) :
    Calls Tryz.prog 18 #[.map (some b)] w (ColsPost w fun c => (G c).map Prod.fst) := by
  obtain ⟨i1, hi1, hi1z, hi1s, hi1b⟩ := info_parts infoInt
  obtain ⟨i2, hi2, hi2z, hi2s, hi2b⟩ := info_parts infoColumn
  have hbl : b < w.heap.size := hG.own.lt
  go_enter Tryz.func18, Tryz.ntmps18
  go_wp2_with (at_range; refine wpList_range_own _ rfl _ 43 rfl 3 57 colKeyed Tryz.underlying43 held b n D rfl (hG.own.alloc _) ?_; intro w0 hrg0 hg0 hs0; go_frame)
  have hsD : size D ≤ n := by
    obtain ⟨es, clock, _, _, hs, rfl⟩ := hG.own
    simp only [size_eq, length_sorted, List.length_map, Array.length_toList]
    exact hs
  have eO : (w.alloc (Obj.cells #[Value.slice none 0 0] 24)).heap.size = w.heap.size + 1 := by simp
  rw [eO] at hrg0 hs0 ⊢
  have hbA : Below w.heap.size w w0 := ((Below.refl _ _).alloc (Nat.le_refl _) _).grown hg0 (by omega) (fun j hj => by cases hj)
  have hG0 := hG.keep hbA
  have hbB : Below (w.heap.size + 1) (w.alloc (Obj.cells #[Value.slice none 0 0] 24)) w0 := ⟨hg0.os, hg0.tape, hg0.output, hg0.size, fun k hk => hg0.block k (by omega) (by simp)⟩
  have hOt : Tag w0 w.heap.size 24 := (Tag.made w #[Value.slice none 0 0] 24 _ rfl).of_block (hbB.block _ (by omega))
  have hOc : w0.cell? ⟨w.heap.size, 0, none⟩ = some (.slice none 0 0) := (hbB.cell (p := ⟨w.heap.size, 0, none⟩) (by show w.heap.size < w.heap.size + 1; omega)).trans (by simp [go_sem])
  have HG0 := Lib.hid hG0
  clear hg0 hs0 eO hG0 hbB hG
  generalize hO : w.heap.size = O at *
  go_loopw [4] (fun _ wq => ∃ (left : Lit → Bool) (cnt : Nat) (v : Value) (K : List (Int × Value)), wq.ranges Tryz.prog 3 held b (O + 1) n D left cnt ∧ Grp wq b base n D V G ∧ wq.cell? ⟨O, 0, none⟩ = some v ∧ Tag wq O 24 ∧ Cols wq O v K (fun c => (G c).map Prod.fst) ∧
      (∀ p ∈ K, (ik p.1).wf = true ∧ G p.1 ≠ [] ∧ left (ik p.1) = false) ∧ (∀ c, (ik c).wf = true → has D (ik c) = true → left (ik c) = false → c ∈ K.map Prod.fst) ∧ K.length + cnt ≤ size D ∧ Below O w wq) (fun _ wq => wq.rangeLeft b (O + 1))
  case atStart => exact ⟨_, _, _, [], hrg0, HG0.out, hOc, hOt, ⟨World.ownsRow_nil _ _ _ _, by simp, by simp⟩, by simp, (fun c _ h1 h2 => by rw [h1] at h2; cases h2), by simp, hbA⟩
  clear HG0 hOc hOt hrg0 hbA
  case round =>
    obtain ⟨left, cnt, v, K, hrg, hG, hOc, hOt, hC, hK1, hK2, hKn, hb⟩ := hrel
    go_wp2_with (at_next; refine wpList_next_ranges _ rfl _ rfl 3 colKeyed held (Value.int .i64) id (fun key kl hkey => by obtain ⟨x, rfl, _⟩ := Maps.keyOf_int_inv Tryz.underlying3 hkey; exact ⟨x, rfl⟩) (fun v y hv => ⟨v, rfl⟩) b (O + 1) n D left cnt rfl hrg ?_ ?_)
    · intro _ hl0
      have hone : ∀ p ∈ K, p.2.oneCell' = true := fun p hp => by
        obtain ⟨A, c, e⟩ := own_slice (hC.rows p hp)
        rw [e]
        rfl
      have hKl : K.length < 4611686018427387904 := by omega
      have hf := hOt.free 0
      have hOl := hOt.lt
      obtain ⟨Av, cv, rfl⟩ := own_slice hC.own
      go_wp2_with fail
      refine (sort_recs (O := O) (K := K) hC.own hone hOc hOt hKl).mono ?_
      rintro e w3 ⟨rfl, X, hXp, hXs, hX, hg3⟩
      have hOv : some O ≠ (Value.slice Av K.length cv).ownBlock := fun e => hOt.far hC.own (by decide) e.symm
      have hOc3 : w3.cell? ⟨O, 0, none⟩ = some (.slice Av K.length cv) := (World.cell?_of_block (w := wr) (a := ⟨O, 0, none⟩) (hg3.block O hOl hOv)).trans hOc
      have k3 := KeepBut.grown hg3 hC.own
      have hb3 := hb.grown hg3 (by omega) (fun k hk => (hC.own.lt k hk).1)
      have hXl : X.length = K.length := hXp.length_eq
      have hXn : (X.map Prod.fst).Nodup := (hXp.map _).nodup_iff.2 hC.nodup
      have hpost : ColsPost w (fun c => (G c).map Prod.fst) (.returned (.slice Av K.length cv)) w3 := by
        refine ⟨_, X, rfl, ⟨by rw [hO, hXl]; exact hX, fun p hp => ?_, hXn⟩, fun c hc hne => ?_, fun p hp => ?_, ?_, by rw [hO]; exact hb3⟩
        · rw [hO]
          exact k3.own (hC.rows p (hXp.mem_iff.1 hp)) (by decide)
        · have h1 := hG.has c hc
          have h2 : has D (ik c) = true := by
            rw [h1]
            cases hgc : G c with
            | nil => exact absurd (show List.map Prod.fst (G c) = [] by rw [hgc]; rfl) hne
            | cons _ _ => rfl
          exact (hXp.map _).mem_iff.2 (hK2 c hc h2 (hl0 _))
        · obtain ⟨h1, h2, _⟩ := hK1 p (hXp.mem_iff.1 hp)
          refine ⟨h1, ?_⟩
          simpa using h2
        · rw [List.pairwise_map]
          have hn' := List.pairwise_map.1 hXn
          exact (hXs.and hn').imp (fun h => by
            have h1 := h.1
            have h2 := h.2
            omega)
      clear hrg hG hC hK1 hK2 hX hXs hXp hg3 k3 hOc hOt
      go_wp2
      go_ret
      exact hpost
    · intro x u kl y ps wn cnt1 hkx hlx hvy hat hrg1 hlt hg1 hs1 hen
      obtain ⟨x', ex, rfl, hwf⟩ := Maps.keyOf_int_inv Tryz.underlying3 hkx
      obtain rfl : x = x' := by injection ex
      have hvV : u = V x := by
        have h1 := hG.at_ x hwf
        have h2 := hat (.held nilS)
        simp only [held, Option.some.injEq, Prod.mk.injEq] at hvy
        rw [← hvy.1] at h2
        exact (DataW.held.inj (h2.symm.trans h1))
      have hne : G x ≠ [] := by
        have h1 := hG.has x hwf
        rw [show has D (ik x) = true from has_true_of_atKey hat] at h1
        intro e
        rw [e] at h1
        simp at h1
      have hpos : 0 < (G x).length := List.length_pos_iff.2 hne
      obtain ⟨gr, cr, hV, _⟩ := (hG.rows x).form hpos
      rw [hvV, hV] at hen ⊢
      have hG1 := hG.iter hrg hg1
      have hiter : ∀ g t, Tag wr g t → wn.heap[g]? = wr.heap[g]? := by
        intro g t ht
        refine hg1.block g ht.lt (fun e => ?_)
        obtain ⟨cs, hc⟩ := ht
        obtain ⟨es, clock, since, seen, c0, _, _, _, _, hi, _⟩ := hrg
        cases e
        rw [hc] at hi
        cases hi
      have hOt1 : Tag wn O 24 := hOt.of_block (hiter O _ hOt)
      have hOc1 : wn.cell? ⟨O, 0, none⟩ = some v := (World.cell?_of_block (w := wr) (a := ⟨O, 0, none⟩) (hiter O _ hOt)).trans hOc
      have hC1 : Cols wn O v K (fun c => (G c).map Prod.fst) := ⟨own_same hC.own (fun g hg => hiter g _ (own_tag hC.own g hg)), fun p hp => own_same (hC.rows p hp) (fun g hg => hiter g _ (own_tag (hC.rows p hp) g hg)), hC.nodup⟩
      have hb1 : Below O w wn := hb.grown hg1 (by have := hOt.lt; omega) (fun j hj => by cases hj; omega)
      have hx1 : x ∉ K.map Prod.fst := by
        intro hm
        obtain ⟨p, hp, e⟩ := List.mem_map.1 hm
        have := (hK1 p hp).2.2
        rw [e] at this
        have hlx' : left (ik x) = true := hlx
        rw [this] at hlx'
        cases hlx'
      have hOn := hOt1.lt
      clear hkx hvy hvV hiter hG hOc hOt hC hb hg1 hs1
      -- the record of this column
      have hbC : Below wn.heap.size wn (wn.alloc (.cells #[.int .i64 x, nilS] 38)) := (Below.refl _ _).alloc (Nat.le_refl _) _
      have hD0 : (wn.alloc (.cells #[.int .i64 x, nilS] 38)).cell? ⟨wn.heap.size, 0, none⟩ = some (.int .i64 x) := by simp [go_sem]
      have hD1 : (wn.alloc (.cells #[.int .i64 x, nilS] 38)).cell? ⟨wn.heap.size, 1, none⟩ = some nilS := by simp [go_sem]
      have hDt : Tag (wn.alloc (.cells #[.int .i64 x, nilS] 38)) wn.heap.size 38 := Tag.made wn _ _ _ rfl
      have HG1 := Lib.hid hG1
      have HC1 := Lib.hid hC1
      have HRG := Lib.hid hrg1
      have hml : (G x).length ≤ n := hG1.len x
      clear hG1 hC1 hrg1
      go_wp2_with fail
      clear hen
      go_loopw [20] (fun i wq => ∃ (j : Nat) (u : Value), j ≤ (G x).length ∧ i = .int .i64 j ∧ wq.cell? ⟨wn.heap.size, 0, none⟩ = some (.int .i64 x) ∧ wq.cell? ⟨wn.heap.size, 1, none⟩ = some u ∧ Tag wq wn.heap.size 38 ∧
          wq.ownsRow (wn.heap.size + 1) 3 1 u j ((((G x).map Prod.fst).take j).map (Value.int .i64)) ∧ Below wn.heap.size wn wq) (fun i _ => (G x).length - (intOf i).toNat)
      case atStart => exact ⟨0, nilS, Nat.zero_le _, rfl, hD0, hD1, hDt, World.ownsRow_nil _ _ _ _, hbC⟩
      clear hD0 hD1 hDt hbC
      case round =>
        obtain ⟨j, u, hj, rfl, hD0, hD1, hDt, hu, hb2⟩ := hrel
        by_cases hjm : j < (G x).length
        · have hG2 := HG1.out.keep hb2
          obtain ⟨p, hp⟩ : ∃ p, (G x)[j]? = some p := ⟨_, List.getElem?_eq_getElem hjm⟩
          have hrow := hG2.rows x
          rw [hV] at hrow
          have cj := hrow.cells (g := gr) rfl j (pairV p.2) (by simp [hp])
          rw [addAt] at cj
          have cp : wr.cell? ⟨p.2, 1, none⟩ = some (.int .i64 p.1) := by
            have := (hG2.inner x p (List.mem_of_getElem? hp)).2
            simp [World.cell?, this]
          have htk : (((G x).map Prod.fst).take (j + 1)).map (Value.int .i64) = (((G x).map Prod.fst).take j).map (Value.int .i64) ++ [.int .i64 p.1] := by
            have hj1 : j < ((G x).map Prod.fst).length := by rw [List.length_map]; exact hjm
            rw [List.take_succ_eq_append_getElem hj1, List.map_append]
            have : ((G x).map Prod.fst)[j] = p.1 := by
              rw [List.getElem_map]
              rw [List.getElem?_eq_getElem hjm] at hp
              rw [Option.some.inj hp]
            rw [this]
            rfl
          have i0' : (0 : Int) ≤ (j : Int) := by omega
          have i1' : (j : Int) < ((G x).length : Int) := by omega
          have hZ := hDt.lt
          unfold pairV at cj
          -- the worlds that the region passes through
          have hbE : Below wr.heap.size wr (wr.alloc (.cells #[.int .i64 p.1] 3)).drew := ((Below.refl _ _).alloc (Nat.le_refl _) _).drew
          have huE := own_below hu hbE
          obtain ⟨u', w3, happ, hu3, hgr3, _, _⟩ := run_append_own_at (P := Tryz.prog) (wr.alloc (.cells #[.int .i64 p.1] 3)).drew (wn.heap.size + 1) 32 32 3 i1 _ 1 8 Tryz.underlying32 hi1 hi1z hi1s hi1b rfl (by decide) u j _ huE ⟨wr.heap.size, 0, none⟩ 1 1 [.int .i64 p.1] rfl
            (by intro k v hk; rcases k with _ | k <;> simp at hk; subst hk; simp [go_sem, Addr.add]) (fun v hv => by simp at hv; subst hv; rfl) (by unfold maxLen; omega) (by omega) (by have := hbE.size; omega)
          rw [← htk] at hu3
          obtain ⟨Au, cu, rfl⟩ := own_slice hu3
          have kE3 := KeepBut.grown hgr3 huE
          have hDtE := hDt.of_block (hbE.block _ hZ)
          have hDt3 := kE3.tag hDtE (by decide)
          have hsE : Same wr w3 wn.heap.size := Eq.trans (kE3 _ _ (by decide) hDtE) (hbE.block _ hZ)
          have hD03 := hsE.cell.trans hD0
          have hD13 := hsE.cell.trans hD1
          have hD1E := (hbE.cell (p := ⟨wn.heap.size, 1, none⟩) hZ).trans hD1
          have cpE := (hbE.cell (p := ⟨p.2, 1, none⟩) (hG2.inTag (List.mem_of_getElem? hp)).lt).trans cp
          have hf3 := hDt3.free 1
          have hG3 := HG1.out.keep (show Below wn.heap.size wn w3 from (hb2.trans (hbE.mono (by omega))).grown hgr3 (by have := hbE.size; omega) (fun k hk => by have := (huE.lt k hk).1; omega))
          have cp3 : w3.cell? ⟨p.2, 1, none⟩ = some (.int .i64 p.1) := by
            have := (hG3.inner x p (List.mem_of_getElem? hp)).2
            simp [World.cell?, this]
          have hb3 : Below wn.heap.size wn w3 := (hb2.trans (hbE.mono (by omega))).grown hgr3 (by have := hbE.size; omega) (fun k hk => by have := (huE.lt k hk).1; omega)
          have cpD : wr.drew.cell? ⟨p.2, 1, none⟩ = some (.int .i64 p.1) := cp
          go_wp2_with fail
          refine wp_region_late (List.replicate 9 false) [true, true, true, true, true, false, false, true, false] (S := fun w' => w'.cell? ⟨wn.heap.size, 1, none⟩ = some u ∧ w'.cell? ⟨p.2, 1, none⟩ = some (.int .i64 p.1)) (by kernel_rfl) (by kernel_rfl) (by kernel_rfl) (fun d _ _ _ _ h => by cases d <;> exact h) ⟨hD1, cpD⟩ ?_
          simp only [List.replicate, swaps]
          iterate 5
            refine seqT_take (v := ?_) (by rfl) ?_ ?_
            rotate_left
            · intro w' hSw
              obtain ⟨s0, s1⟩ := hSw
              go_simp
              try (with_reducible rfl)
            try simp only [Act.put, List.setIfInBounds_toArray, List.set_cons_zero, List.set_cons_succ]
          refine seqT_solo (by rfl) (fun K hK => ?_)
          go_simp
          refine hK.out _ _ (fun _ => ⟨hD1E, cpE⟩) ?_
          clear hK K
          try simp only [Act.put, List.setIfInBounds_toArray, List.set_cons_zero, List.set_cons_succ]
          refine seqT_solo (by rfl) (fun K hK => ?_)
          refine wp_append _ _ _ (by rfl) (by rfl) (by rfl) happ ?_
          refine hK.out _ _ (fun _ => ⟨hD13, cp3⟩) ?_
          clear hK K
          try simp only [Act.put, List.setIfInBounds_toArray, List.set_cons_zero, List.set_cons_succ]
          refine seqT_take (v := ?_) (by rfl) ?_ ?_
          rotate_left
          · intro w' hSw
            go_simp
            try (with_reducible rfl)
          try simp only [Act.put, List.setIfInBounds_toArray, List.set_cons_zero, List.set_cons_succ]
          refine seqT_solo (by rfl) (fun K hK => ?_)
          go_simp
          refine hK.out _ _ (fun h => absurd rfl h) ?_
          clear hK K
          refine seqT_done ?_
          have hO0 := (set_other w3 wn.heap.size 1 0 (.slice Au (j + 1) cu) (by decide)).trans hD03
          have hO1 := set_same w3 wn.heap.size 1 (.slice Au (j + 1) cu) _ hD13
          have hO2 := hDt3.setCell ⟨wn.heap.size, 1, none⟩ (.slice Au (j + 1) cu) rfl
          have hO3 : (w3.setCell ⟨wn.heap.size, 1, none⟩ (.slice Au (j + 1) cu)).ownsRow (wn.heap.size + 1) 3 1 (.slice Au (j + 1) cu) (j + 1) ((((G x).map Prod.fst).take (j + 1)).map (Value.int .i64)) :=
            own_same hu3 (fun g hg => Same.of_set _ _ ((own_tag hu3 g hg).ne hDt3 (by decide)))
          have hO4 : Below wn.heap.size wn (w3.setCell ⟨wn.heap.size, 1, none⟩ (.slice Au (j + 1) cu)) := hb3.setCell (Nat.le_refl _) _
          clear hD0 hD1 hDt hu hb2 hG2 hp hrow cj cp htk hbE huE happ hu3 hgr3 kE3 hDtE hDt3 hsE hD03 hD13 hD1E cpE hf3 hG3 cp3 hb3 cpD
          generalize w3.setCell ⟨wn.heap.size, 1, none⟩ (.slice Au (j + 1) cu) = w4 at *
          go_wp2
          go_roundw
          case rel => exact ⟨j + 1, _, by omega, by go_num, hO0, hO1, hO2, hO3, hO4⟩
          case measure => simp [intOf]; omega
        · obtain rfl : j = (G x).length := by omega
          obtain ⟨Au, cu, rfl⟩ := own_slice hu
          have hu' : wr.ownsRow O 3 1 (.slice Au (G x).length cu) (G x).length (((G x).map Prod.fst).map (Value.int .i64)) := by
            have := own_lower (B' := O) hu (by omega)
            rwa [List.take_of_length_le (by simp)] at this
          have hC2 := HC1.out.keep hb2
          have hG2 := HG1.out.keep hb2
          have hOc2 := (hb2.cell (p := ⟨O, 0, none⟩) hOn).trans hOc1
          have hOt2 := hOt1.of_block (hb2.block _ hOn)
          have hf2 := hOt2.free 0
          have hlK : K.length ≤ n := by omega
          go_wp2_with (at_builtin; refine wpList_append_own_at _ rfl _ _ 24 rfl O 38 i2 _ 2 32 Tryz.underlying24 hi2 hi2z hi2s hi2b rfl (by decide) _ _ _ rfl (hC2.own.alloc _) ⟨wr.heap.size, 0, none⟩ 1 1 [.int .i64 x, .slice Au (G x).length cu] rfl rfl ?c1 ?c2 ?c3 ?c4 ?c5 ?_)
          case c1 =>
            intro k v hk
            rcases k with _ | _ | k <;> simp at hk <;> subst hk <;> simp [go_sem, Addr.add]
          case c2 =>
            intro v hv
            simp at hv
            rcases hv with rfl | rfl <;> rfl
          case c3 => unfold maxLen; omega
          case c4 => omega
          case c5 => have := hOt2.lt; simp; omega
          intro v' w3 hown3 hgr3 _ _
          obtain ⟨Av, cv, rfl⟩ := own_slice hown3
          have hbE : Below wr.heap.size wr (wr.alloc (.cells #[.int .i64 x, .slice Au (G x).length cu] 38)) := (Below.refl _ _).alloc (Nat.le_refl _) _
          have hCE := hC2.keep hbE
          have hGE := hG2.keep hbE
          have hOtE := hOt2.of_block (hbE.block _ hOt2.lt)
          have huE := own_below hu' hbE
          have hrgr := ranges_same HRG.out (hb2.block b (by omega)) (hb2.block (O + 1) HRG.out.lt)
          have hrgE := ranges_same hrgr (hbE.block b hrgr.owns.lt) (hbE.block (O + 1) hrgr.lt)
          have k3 := KeepBut.grown hgr3 hCE.own
          have hvb : ∀ g, v.ownBlock = some g → g ≠ b ∧ g ≠ O + 1 := fun g hg => ranges_tags hrgE (own_tag hCE.own g hg)
          have sb3 : w3.heap[b]? = _ := hgr3.block b hrgE.owns.lt (fun e => (hvb b e.symm).1 rfl)
          have sr3 : w3.heap[O + 1]? = _ := hgr3.block (O + 1) hrgE.lt (fun e => (hvb (O + 1) e.symm).2 rfl)
          have hrg3 := ranges_same hrgE sb3 sr3
          have hG3 := hGE.keepBut k3 (by decide) (by decide) sb3
          have hOt3 := k3.tag hOtE (by decide)
          have hOc3 : w3.cell? ⟨O, 0, none⟩ = some v := ((k3 O _ (by decide) hOtE : Same _ _ _).cell).trans ((hbE.cell (p := ⟨O, 0, none⟩) hOt2.lt).trans hOc2)
          have hf3 := hOt3.free 0
          have hb3 : Below O w w3 := (hb1.trans ((hb2.trans (hbE.mono (by have := hb2.size; omega))).mono (by omega))).grown hgr3 (by have := hOtE.lt; omega) (fun k hk => (hCE.own.lt k hk).1)
          have hrows3 : ∀ p ∈ K ++ [(x, .slice Au (G x).length cu)], w3.ownsRow O 3 1 p.2 ((G p.1).map Prod.fst).length (((G p.1).map Prod.fst).map (Value.int .i64)) := by
            intro p hp
            rcases List.mem_append.1 hp with hp | hp
            · exact k3.own (hCE.rows p hp) (by decide)
            · simp only [List.mem_singleton] at hp
              subst hp
              have := k3.own huE (by decide)
              simpa using this
          clear hD0 hD1 hDt hu hu' hb2 hG2 hC2 hOc2 hOt2 hf2 hbE hCE hGE hOtE huE hrgr hrgE hvb sb3 sr3 k3 hgr3
          have k5 : KeepBut w3 (w3.setCell ⟨O, 0, none⟩ (.slice Av (K.length + 1) cv)) 24 := fun _ _ hne ht => Same.of_set _ _ (ht.ne hOt3 hne)
          have sb5 : (w3.setCell ⟨O, 0, none⟩ (.slice Av (K.length + 1) cv)).heap[b]? = w3.heap[b]? := heap_setCell_other w3 ⟨O, 0, none⟩ b _ (by show b ≠ O; omega)
          have sr5 : (w3.setCell ⟨O, 0, none⟩ (.slice Av (K.length + 1) cv)).heap[O + 1]? = w3.heap[O + 1]? := heap_setCell_other w3 ⟨O, 0, none⟩ (O + 1) _ (by show O + 1 ≠ O; omega)
          have hrg5 := ranges_same hrg3 sb5 sr5
          have hG5 := hG3.keepBut k5 (by decide) (by decide) sb5
          have hOc5 := set_same w3 O 0 (.slice Av (K.length + 1) cv) _ hOc3
          have hOt5 := hOt3.setCell ⟨O, 0, none⟩ (.slice Av (K.length + 1) cv) rfl
          have hb5 := hb3.setCell (p := ⟨O, 0, none⟩) (Nat.le_refl _) (.slice Av (K.length + 1) cv)
          have hC5 : Cols (w3.setCell ⟨O, 0, none⟩ (.slice Av (K.length + 1) cv)) O (.slice Av (K.length + 1) cv) (K ++ [(x, .slice Au (G x).length cu)]) (fun c => (G c).map Prod.fst) := by
            refine ⟨?_, fun p hp => k5.own (hrows3 p hp) (by decide), ?_⟩
            · have := k5.own hown3 (by decide)
              simpa [colCells] using this
            · rw [List.map_append, List.nodup_append]
              refine ⟨HC1.out.nodup, by simp, ?_⟩
              intro a ha c hc e
              simp only [List.map_cons, List.map_nil, List.mem_singleton] at hc
              subst hc
              subst e
              exact hx1 ha
          have hK15 : ∀ p ∈ K ++ [(x, Value.slice Au (G x).length cu)], (ik p.1).wf = true ∧ G p.1 ≠ [] ∧ (left (ik p.1) && !(ik p.1).sameKey (.int .i64 x)) = false := by
            intro p hp
            rcases List.mem_append.1 hp with hp | hp
            · obtain ⟨h1, h2, h3⟩ := hK1 p hp
              exact ⟨h1, h2, by rw [h3]; rfl⟩
            · simp only [List.mem_singleton] at hp
              subst hp
              refine ⟨hwf, hne, ?_⟩
              have : (ik x).sameKey (.int .i64 x) = true := WideAt.sameKey_self (colIsKey hwf)
              simp [this]
          have hK25 : ∀ c, (ik c).wf = true → has D (ik c) = true → (left (ik c) && !(ik c).sameKey (.int .i64 x)) = false → c ∈ (K ++ [(x, Value.slice Au (G x).length cu)]).map Prod.fst := by
            intro c h1 h2 h3
            rw [List.map_append]
            by_cases hc : c = x
            · subst hc
              simp
            · have : (ik c).sameKey (.int .i64 x) = false := sameKey_ne (ik_ne hc)
              rw [this] at h3
              exact List.mem_append.2 (.inl (hK2 c h1 h2 (by simpa using h3)))
          clear k5 sb5 sr5 hown3 hrg3 hG3 hOt3 hb3 hrows3 hK1 hK2 hat hOc1
          go_wp2
          go_roundw
          case rel => exact ⟨_, cnt1, _, _, hrg5, hG5, hOc5, hOt5, hC5, hK15, hK25, by simp; omega, hb5⟩
          case measure => rw [hrg5.left_eq, hrg.left_eq]; exact hlt
end Go.Proofs.YtokooampmhcfeaaGreatDoor.Rg
