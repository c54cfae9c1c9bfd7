/- Flattening runs of columns to show or hide some of them computes outerF repV, for at most 12 runs within 60 columns. -/
import Derived.Test.YtdobgmeibccjnaaFlatInv
namespace Go.Proofs.Ytdobgmeibccjnaa.Ln
open Go.RowKit
attribute [local go_sem] run_store_float

set_option maxHeartbeats 400000 in
set_option maxRecDepth 100000 in
theorem flatV_any (q : Run) (v : Value) (L : List Run) (w : World) (n : Nat) (hn : n = L.length) (hn2 : n ≤ 12) (h : Rd w w.heap.size 7 v n (L.flatMap cB))
    (hq1 : 1 ≤ q.mn) (hq2 : q.mn ≤ q.mx) (hq3 : q.mx ≤ 60) (hL : ∀ r ∈ L, 1 ≤ r.mn ∧ r.mn ≤ r.mx ∧ r.mx ≤ 60) :
    Calls Try.prog 36 #[.agg (cB q).toArray, v, .func (.func 37) #[] #[]] w fun e w' => ∃ v', e = .returned v' ∧ w'.ownsRow w.heap.size 68 7 v' (outerF repV q L).length ((outerF repV q L).flatMap cB) ∧ Below w.heap.size w w' := by
  obtain ⟨i0, hi, hz0, hz1, hz2'⟩ := info_parts infoC
  obtain ⟨hl, A, c, rfl, hr⟩ := h
  have HN := Lib.hid hn; clear hn
  unfold cB
  have hmax : (if 1 < q.mn then q.mn else 1) = q.mn := by split <;> omega
  go_enter Try.func36, Try.ntmps36
  go_wp2
  go_loopw [7, 8] (fun u i wr => ∃ x : Int, q.mn ≤ x ∧ x ≤ q.mx + 1 ∧ i = .int .i64 x ∧ wr.ownsRow (w.heap.size + 1) 68 7 u (x - q.mn).toNat ((firstK q (x - q.mn).toNat).flatMap cB) ∧ Below (w.heap.size + 1) (w.alloc (.cells (cB q).toArray 68)) wr)
    (fun _ i _ => (q.mx + 1 - intOf i).toNat)
  case atStart =>
    refine ⟨q.mn, by omega, by omega, rfl, ?_, Below.refl _ _⟩
    have e : (q.mn - q.mn).toNat = 0 := by omega
    rw [e]
    exact World.ownsRow_nil _ _ _ _
  case round =>
    obtain ⟨x, hx1, hx2, rfl, hown, hnx⟩ := hrel
    obtain ⟨d0, d1, d2, d3, d4, d5, d6⟩ := boxB hnx
    by_cases hlt : x ≤ q.mx
    · have HK := Lib.hid (firstK_snoc q x hx1)
      have hs : w.heap.size + 1 ≤ wr.heap.size := by have := hnx.size; simpa using this
      have hb := hnx.alloc hs (.cells (cB (stamp q x)).toArray 68)
      go_wp2_with (at_builtin; refine wpList_append_own _ rfl _ _ 48 rfl (w.heap.size + 1) 68 i0 _ 7 56 Try.underlying48 hi hz0 hz1 hz2' rfl (by decide) _ _ _ rfl ((hown.alloc _).alloc _) ⟨wr.heap.size + 1, 0, none⟩ 1 1 (cB (stamp q x)) rfl rfl ?c1 ?c2 ?c3 ?c4 ?c5 ?_)
      case c1 => exact newAt _ (cB (stamp q x)) _ _ (by simp)
      case c2 => exact cB_one _
      case c3 => unfold maxLen; omega
      case c4 => omega
      case c5 => simp; omega
      intro v' w1 hown' hgrow _
      have hb1 := (hb.alloc (by simp; omega) _).grown hgrow (by simp; omega) (fun j hj => (hown.lt j hj).1)
      clear hgrow d0 d1 d2 d3 d4 d5 d6
      go_wp2
      go_roundw
      case rel => exact ⟨x + 1, by omega, by omega, rfl, by rw [HK.out.1, HK.out.2]; exact hown', hb1⟩
      case measure => simp [intOf]; omega
    · obtain rfl : x = q.mx + 1 := by omega
      go_wp2
      have hown0 : wr.ownsRow (w.heap.size + 1) 68 7 u7 (outerF repV q (L.take 0)).length ((outerF repV q (L.take 0)).flatMap cB) := by
        show wr.ownsRow (w.heap.size + 1) 68 7 u7 (firstK q (q.mx + 1 - q.mn).toNat).length ((firstK q (q.mx + 1 - q.mn).toNat).flatMap cB)
        rw [firstK_len]; exact hown
      have hlen0 : (outerF repV q (L.take 0)).length ≤ 60 * (0 + 1) := by
        show (firstK q (q.mx + 1 - q.mn).toNat).length ≤ _
        rw [firstK_len]; omega
      obtain ⟨W1, hW1⟩ : ∃ W1 : World, W1 = w.alloc (.cells (cB q).toArray 68) := ⟨_, rfl⟩
      rw [← hW1] at hnx
      have HW1 := Lib.hid hW1; clear hW1
      have hzW : w.heap.size + 1 ≤ W1.heap.size := by rw [HW1.out]; simp
      clear d0 d1 d2 d3 d4 d5 d6 hmax hlt hx1 hx2 hown
      go_loopw [7, 38] (fun u i wr => ∃ k : Nat, k ≤ n ∧ i = .int .i64 k ∧ wr.ownsRow (w.heap.size + 1) 68 7 u (outerF repV q (L.take k)).length ((outerF repV q (L.take k)).flatMap cB) ∧ Below (w.heap.size + 1) W1 wr ∧ (outerF repV q (L.take k)).length ≤ 60 * (k + 1))
        (fun _ i _ => n - (intOf i).toNat)
      case atStart => exact ⟨0, Nat.zero_le _, rfl, hown0, hnx, hlen0⟩
      case round =>
        clear hown0 hlen0 hnx
        obtain ⟨k, hk, rfl, hown, hnx, hlen⟩ := hrel
        have hsz : w.heap.size + 1 ≤ wr.heap.size := Nat.le_trans hzW hnx.size
        by_cases hlt : k < n
        · obtain ⟨g, rfl, hg, hc⟩ := hr (by omega)
          have hkL : k < L.length := by rw [← HN.out]; exact hlt
          obtain ⟨c0, hck⟩ : ∃ c0, L[k]? = some c0 := ⟨L[k], List.getElem?_eq_getElem hkL⟩
          obtain ⟨hc1, hc2, hc3⟩ := hL c0 (List.mem_of_getElem? hck)
          have HO := Lib.hid (outerF_snoc repV q L k c0 hck)
          have hcW : ∀ j u, (L.flatMap cB)[j]? = some u → wr.cell? ⟨g, j, none⟩ = some u := fun j u hu => by
            rw [hnx.cell (p := ⟨g, j, none⟩) (by simp; omega), HW1.out, World.cell?_alloc_lt w _ _ hg]
            exact hc j u hu
          obtain ⟨d0, d1, d2, d3, d4, d5, d6⟩ := cellsB hcW hck
          clear hcW hck hkL
          have hI : Inv W1 (wr.alloc (.cells (cB c0).toArray 68)) (w.heap.size + 1) u7 (outerF repV q (L.take k)) wr.heap.size c0 :=
            ⟨hown.alloc _, fun e => by have := (hown.lt _ e).2; omega, Blk.new _ _ _, hnx.alloc hsz _⟩
          have hmax : (if 1 < c0.mn then c0.mn else 1) = c0.mn := by split <;> omega
          go_wp2
          obtain ⟨wo, rfl⟩ : ∃ wo : World, wo = wr := ⟨_, rfl⟩
          clear d0 d1 d2 d3 d4 d5 d6 hc hr hmax
          go_loopw [7, 13] (fun u i wq => ∃ x : Int, c0.mn ≤ x ∧ x ≤ c0.mx + 1 ∧ i = .int .i64 x ∧ Inv W1 wq (w.heap.size + 1) u (innerF repV c0 (outerF repV q (L.take k)) (x - c0.mn).toNat) wo.heap.size c0 ∧ (innerF repV c0 (outerF repV q (L.take k)) (x - c0.mn).toNat).length ≤ 60 * (k + 1) + (x - c0.mn).toNat)
            (fun _ i _ => (c0.mx + 1 - intOf i).toNat)
          case atStart =>
            have e : (c0.mn - c0.mn).toNat = 0 := by omega
            refine ⟨c0.mn, by omega, by omega, rfl, ?_, ?_⟩
            · rw [e]; exact hI
            · rw [e]; exact hlen
          case round =>
            clear hI hlen
            obtain ⟨x, hx1, hx2, rfl, hI, hlen⟩ := hrel
            have hz2 : w.heap.size + 1 ≤ wr.heap.size := Nat.le_trans hzW hI.low.size
            have hbz := hI.box.lt
            obtain ⟨d0, d1, d2, d3, d4, d5, d6⟩ := hI.box.cellB
            by_cases hxl : x ≤ c0.mx
            · have HS := Lib.hid (innerF_step repV c0 (outerF repV q (L.take k)) x hx1)
              have hsl := stepF_len repV c0 (innerF repV c0 (outerF repV q (L.take k)) (x - c0.mn).toNat) x
              generalize innerF repV c0 (outerF repV q (L.take k)) (x - c0.mn).toNat = G at hI hlen HS hsl
              cases hf : G.findIdx? (isAt x) with
              | none =>
                have HE := Lib.hid (stepF_no (rep := repV) (c := c0) hf)
                have HF := Lib.hid hf; clear hf
                have hRd := (Rd.of_own hI.own)
                go_wp2_with fail
                refine (inFlat_no x _ G _ G.length rfl (by omega) hRd HF.out).mono ?_
                rintro e w1 ⟨rfl, hb1⟩
                have hI1 := hI.below hz2 hb1
                obtain ⟨d0, d1, d2, d3, d4, d5, d6⟩ := hI1.box.cellB
                have hz3 : w.heap.size + 1 ≤ w1.heap.size := Nat.le_trans hz2 hb1.size
                clear hRd
                go_wp2_with (at_builtin; refine wpList_append_own_at _ rfl _ _ 48 rfl (w.heap.size + 1) 68 i0 _ 7 56 Try.underlying48 hi hz0 hz1 hz2' rfl (by decide) _ _ _ rfl ((hI1.own.alloc _).alloc _) ⟨w1.heap.size + 1, 0, none⟩ 1 1 (cB (stamp c0 x)) rfl rfl ?c1 ?c2 ?c3 ?c4 ?c5 ?_)
                case c1 => exact newAt _ (cB (stamp c0 x)) _ _ (by simp)
                case c2 => exact cB_one _
                case c3 => unfold maxLen; omega
                case c4 => omega
                case c5 => simp; omega
                intro v' w2 hown' hgrow _ hat
                have hI2 := hI1.append hz3 hown' hgrow hat
                clear hgrow d0 d1 d2 d3 d4 d5 d6 hown' hat
                go_wp2
                go_roundw
                case rel => exact ⟨x + 1, by omega, by omega, rfl, by rw [HS.out, HE.out]; exact hI2, by rw [HS.out]; omega⟩
                case measure => simp [intOf]; omega
              | some j =>
                have hjl : j < G.length := (List.findIdx?_eq_some_iff_getElem.1 hf).1
                obtain ⟨r, hr⟩ : ∃ r, G[j]? = some r := ⟨G[j], List.getElem?_eq_getElem hjl⟩
                have HE := Lib.hid (stepF_yes (rep := repV) (c := c0) hf hr)
                have HF := Lib.hid hf; clear hf
                have hRd := (Rd.of_own hI.own)
                go_wp2_with fail
                refine (inFlat_yes x _ G _ G.length rfl (by omega) hRd j HF.out).mono ?_
                rintro e w1 ⟨rfl, hb1⟩
                have hI1 := hI.below hz2 hb1
                obtain ⟨d0, d1, d2, d3, d4, d5, d6⟩ := hI1.box.cellB
                obtain ⟨g, cap, rfl, hgl, hgc, hgf⟩ := hI1.cells hr
                obtain ⟨e0, e1, e2, e3, e4, e5, e6⟩ := cellsB hgc hr
                have hz3 : w.heap.size + 1 ≤ w1.heap.size := Nat.le_trans hz2 hb1.size
                clear hRd hgc
                go_wp2_with fail
                go_region_with (go_at_call 37; refine (repV_lit r c0 _).mono ?_; rintro e w2 ⟨rfl, hb2⟩; have hI2 := Lib.hid ((Inv.drew hI1).below hz3 hb2); obtain ⟨f0, f1, f2, f3, f4, f5, f6⟩ := cellsB (Inv.cellsAt hI2.out) hr; have hff := Inv.frozenAt hI2.out)
                all_goals
                  have hI3 := Inv.set7 (repV r c0) j hjl rfl hI2.out
                  clear f0 f1 f2 f3 f4 f5 f6 hff e0 e1 e2 e3 e4 e5 e6 d0 d1 d2 d3 d4 d5 d6 hgf
                  go_wp2
                  go_roundw
                  case rel => exact ⟨x + 1, by omega, by omega, rfl, by rw [HS.out, HE.out]; exact hI3, by rw [HS.out]; omega⟩
                  case measure => simp [intOf]; omega
            · obtain rfl : x = c0.mx + 1 := by omega
              go_wp2
              go_roundw
              case rel => exact ⟨k + 1, by omega, by go_num, by rw [HO.out]; exact hI.own, hI.low, by rw [HO.out]; omega⟩
              case measure => simp [intOf]; omega
        · have e : k = n := by omega
          subst e
          go_wp2
          go_ret
          rw [List.take_of_length_le (by have := HN.out; omega)] at hown
          refine ⟨_, rfl, own_mono hown (by omega), ?_⟩
          have h1 : Below w.heap.size w W1 := by rw [HW1.out]; exact (Below.refl _ _).alloc (Nat.le_refl _) _
          exact h1.trans (hnx.mono (by omega))
end Go.Proofs.Ytdobgmeibccjnaa.Ln
