/- A column of the reference as one of the program. -/
import Derived.Test.YtfnphohdipdmpaaMOf
import Derived.Test.YtfnphohdipdmpaaMPlan2
namespace Go.Proofs.Ytfnphohdipdmpaa.Rg
open Go.RowKit

theorem infoImpls : (Try.prog.info? 34).map (fun i => (i.zero, i.size, i.bytes)) = some (some (.slice none 0 0), 1, 24) := by kernel_rfl

def MatPost (w : World) (f : Int → List Value) (X : List Int) (e : Ending) (w' : World) : Prop := ∃ (A : Option Addr) (c : Nat), e = .returned (.agg #[.int .i64 5, .float .f64 0, .string ⟨#[]⟩, .slice A X.length c]) ∧ RdT w' w.heap.size A f X ∧ Below w.heap.size w w'

theorem four_cells {w : World} {g : Nat} {t : TypeId} {a b c d : Value} (h : w.heap[g]? = some (.cells #[a, b, c, d] t (0, 0))) :
    w.cell? ⟨g, 0, none⟩ = some a ∧ w.cell? ⟨g, 1, none⟩ = some b ∧ w.cell? ⟨g, 2, none⟩ = some c ∧ w.cell? ⟨g, 3, none⟩ = some d ∧ ∀ i, w.frozen? ⟨g, i, none⟩ = false := by
  refine ⟨?_, ?_, ?_, ?_, fun i => ?_⟩ <;> simp [World.cell?, World.frozen?, h]

theorem Tb.agree {w w' : World} {B : Nat} {te e : TypeId} {f : Int → List Value} {v : Value} {X : List Int} {S : List (Nat × Nat)} (h : Tb w B te e f v X S) (hb : ∀ k, B ≤ k → k < w.heap.size → w'.heap[k]? = w.heap[k]?) : Tb w' B te e f v X S := by
  refine ⟨own_same h.own (fun g hg => ?_), h.len, fun k s x h1 h2 => ?_⟩
  · have := h.own.lt g hg
    exact hb g this.1 this.2
  · obtain ⟨hB, ht, hc⟩ := h.inner k s x h1 h2
    have hs := hb s.1 hB ht.lt
    exact ⟨hB, ht.of_block hs, fun j u hj => (World.cell?_of_block (w := w) (a := ⟨s.1, j, none⟩) hs).trans (hc j u hj)⟩

/-- Where a conversion of a column stands: the argument's box, the result's box, the record that is filled. -/
structure OfSt (w wr : World) (g1 g2 g3 B : Nat) (A : Option Addr) (n c : Nat) (te e : TypeId) (f : Int → List Value) (v : Value) (X : List Int) (S : List (Nat × Nat)) : Prop where
  arg : wr.heap[g1]? = some (.cells #[.int .i64 5, .int .i64 0, .int .i64 0, .string ⟨#[]⟩, .slice A n c] 26 (0, 0))
  box : wr.heap[g2]? = some (.cells #[.int .i64 0, .float .f64 0, .string ⟨#[]⟩, .slice none 0 0] 32 (0, 0))
  rcd : wr.heap[g3]? = some (.cells #[.int .i64 5, .float .f64 0, .string ⟨#[]⟩, v] 32 (0, 0))
  tb : Tb wr B te e f v X S
  size : B ≤ wr.heap.size
  below : Below w.heap.size w wr

set_option maxHeartbeats 6400000 in
set_option maxRecDepth 100000 in
theorem of_matrix (A : Option Addr) (n c : Nat) (X : List Int) (w : World) (hn : n = X.length) (hn2 : n ≤ 100) (hX : ∀ x ∈ X, -9 ≤ x ∧ x ≤ 9) (hA : RdT w 0 A svCells X) :
    Calls Try.prog 14 #[.agg #[.int .i64 5, .int .i64 0, .int .i64 0, .string ⟨#[]⟩, .slice A n c]] w (MatPost w ivCells X) := by
  obtain ⟨i1, hi1, hi1z, hi1s, hi1b⟩ := info_parts infoImpls
  have hst := store_float Try.prog
  have HN := Lib.hid hn
  have HA := Lib.hid hA
  have HX := Lib.hid hX
  have h0 : OfSt w (((w.alloc (.cells #[.int .i64 5, .int .i64 0, .int .i64 0, .string ⟨#[]⟩, .slice A n c] 26)).alloc (.cells #[.int .i64 0, .float .f64 0, .string ⟨#[]⟩, .slice none 0 0] 32)).alloc (.cells #[.int .i64 5, .float .f64 0, .string ⟨#[]⟩, .slice none 0 0] 32)) w.heap.size (w.heap.size + 1) (w.heap.size + 1 + 1) (w.heap.size + 3) A n c 34 32 ivCells (.slice none 0 0) [] [] := by
    have hb := (((Below.refl w.heap.size w).alloc (Nat.le_refl _) (.cells #[.int .i64 5, .int .i64 0, .int .i64 0, .string ⟨#[]⟩, .slice A n c] 26)).alloc (by simp) (.cells #[.int .i64 0, .float .f64 0, .string ⟨#[]⟩, .slice none 0 0] 32)).alloc (by simp; omega) (.cells #[.int .i64 5, .float .f64 0, .string ⟨#[]⟩, .slice none 0 0] 32)
    refine ⟨?_, ?_, ?_, Tb.nil _ _ _ _ _, by simp, hb⟩
    · rw [Below.heap_alloc _ _ _ (by simp; omega), Below.heap_alloc _ _ _ (by simp)]
      exact heap_alloc_new w _
    · rw [Below.heap_alloc _ _ _ (by simp)]
      have := heap_alloc_new (w.alloc (.cells #[.int .i64 5, .int .i64 0, .int .i64 0, .string ⟨#[]⟩, .slice A n c] 26)) (.cells #[.int .i64 0, .float .f64 0, .string ⟨#[]⟩, .slice none 0 0] 32)
      simpa using this
    · have := heap_alloc_new ((w.alloc (.cells #[.int .i64 5, .int .i64 0, .int .i64 0, .string ⟨#[]⟩, .slice A n c] 26)).alloc (.cells #[.int .i64 0, .float .f64 0, .string ⟨#[]⟩, .slice none 0 0] 32)) (.cells #[.int .i64 5, .float .f64 0, .string ⟨#[]⟩, .slice none 0 0] 32)
      simpa using this
  obtain ⟨g1, e1⟩ : ∃ g1, w.heap.size = g1 := ⟨_, rfl⟩
  obtain ⟨g2, e2⟩ : ∃ g2, w.heap.size + 1 = g2 := ⟨_, rfl⟩
  obtain ⟨g3, e3⟩ : ∃ g3, w.heap.size + 1 + 1 = g3 := ⟨_, rfl⟩
  obtain ⟨B, eB⟩ : ∃ B, w.heap.size + 3 = B := ⟨_, rfl⟩
  have hg12 : g1 < g2 := by omega
  have hg23 : g2 < g3 := by omega
  have hg3B : g3 < B := by omega
  have hwg : w.heap.size ≤ g1 := by omega
  rw [e3, e2, eB] at h0
  have H0 : Hid (OfSt w _ g1 g2 g3 B A n c 34 32 ivCells (.slice none 0 0) [] []) := e1 ▸ h0
  have E1 := Lib.hid e1
  have E2 := Lib.hid e2
  have E3 := Lib.hid e3
  clear hn hA hX h0 e1 e2 e3 eB
  go_enter Try.func14, Try.ntmps14
  go_wp2
  rw [E3.out, E2.out, E1.out]
  go_loopw [4] (fun i wr => ∃ (k : Nat) (v : Value) (S : List (Nat × Nat)), k ≤ n ∧ i = .int .i64 k ∧ Hid (OfSt w wr g1 g2 g3 B A n c 34 32 ivCells v (X.take k) S)) (fun i _ => n - (intOf i).toNat)
  case atStart => exact ⟨0, _, _, by omega, rfl, H0⟩
  clear H0
  case round =>
    obtain ⟨k, v, S, hk, rfl, HS⟩ := hrel
    have h := HS.out
    obtain ⟨a0, a1, a2, a3, a4, _⟩ := five h.arg
    have hXl : (X.take k).length = k := by rw [List.length_take]; have := HN.out; omega
    have hsz := h.size
    by_cases hkn : k < n
    · obtain ⟨x, hx⟩ : ∃ x, X[k]? = some x := ⟨_, List.getElem?_eq_getElem (by have := HN.out; omega)⟩
      have hxr := HX.out x (List.mem_of_getElem? hx)
      have HTK : Hid (X.take (k + 1) = X.take k ++ [x]) := by
        show X.take (k + 1) = X.take k ++ [x]
        rw [List.take_add_one, hx]
        rfl
      have i0' : (0 : Int) ≤ (k : Int) := by omega
      have i1' : (k : Int) < (n : Int) := by omega
      have hbel := h.below
      obtain ⟨g, rfl, _, hg0, _⟩ := HA.out (by have := HN.out; omega)
      obtain ⟨g', eg, _, hg, hrow⟩ := (HA.out.later hbel) (by have := HN.out; omega)
      obtain rfl : g = g' := by cases eg; rfl
      obtain ⟨gk, ck, ckc, _, hgk, hin⟩ := hrow k x hx
      obtain ⟨_, _, _, r3, rf⟩ := four_cells h.rcd
      -- the worlds
      have hdr : Below wr.heap.size wr wr.drew := (Below.refl _ _).drew
      have AR := Lib.hid (all_row gk ck x wr.drew hxr.1 hxr.2 hin)
      have hown := h.tb.own
      rw [hXl] at hown
      obtain ⟨Av, cv, rfl⟩ := own_slice hown
      have hS0 : wr.drew.cell? ⟨g3, 3, none⟩ = some (.slice Av k cv) ∧ wr.drew.cell? ⟨g1, 4, none⟩ = some (.slice (some ⟨g, 0, none⟩) n c) ∧ wr.drew.cell? ⟨g, k, none⟩ = some (.slice (some ⟨gk, 0, none⟩) 1 ck) := ⟨r3, a4, ckc⟩
      have HH := Lib.hid h
      have HXK := Lib.hid hx
      clear hin hrow hx h HS
      go_wp2_with fail
      clear a0 a1 a2 a3 a4
      refine wp_region_late (List.replicate 12 false) [true, true, true, true, true, true, true, false, false, false, true, false] (S := fun w' => w'.cell? ⟨g3, 3, none⟩ = some (.slice Av k cv) ∧ w'.cell? ⟨g1, 4, none⟩ = some (.slice (some ⟨g, 0, none⟩) n c) ∧ w'.cell? ⟨g, k, none⟩ = some (.slice (some ⟨gk, 0, none⟩) 1 ck)) (by kernel_rfl) (by kernel_rfl) (by kernel_rfl) (fun d _ _ _ _ h => by cases d <;> exact h) hS0 ?_
      simp only [List.replicate, swaps]
      iterate 7
        refine seqT_take (v := ?_) (by rfl) ?_ ?_
        rotate_left
        · intro w' hSw
          obtain ⟨s0, s1, s2⟩ := hSw
          go_simp
          try (with_reducible rfl)
        try simp only [Act.put, List.setIfInBounds_toArray, List.set_cons_zero, List.set_cons_succ]

      refine seqT_solo (by rfl) (fun K hK => ?_)
      go_simp
      refine AR.out.mono ?_
      rintro e w1 ⟨gn, cn, rfl, hgn, htn, hcn, hb1⟩
      have hb1' : Below wr.heap.size wr w1 := hdr.trans hb1
      have hz1 := hb1'.size
      refine hK.out _ _ (fun _ => ⟨(hb1'.cell (p := ⟨g3, 3, none⟩) (show g3 < wr.heap.size by omega)).trans r3, (hb1'.cell (p := ⟨g1, 4, none⟩) (show g1 < wr.heap.size by omega)).trans hS0.2.1, (hb1'.cell (p := ⟨g, k, none⟩) hg).trans ckc⟩) ?_
      clear hK K
      try simp only [Act.put, List.setIfInBounds_toArray, List.set_cons_zero, List.set_cons_succ]
      have hal : Below w1.heap.size w1 (w1.alloc (.cells #[oneS (gn, cn)] 34)) := (Below.refl _ _).alloc (Nat.le_refl _) _
      have hb2' : Below wr.heap.size wr (w1.alloc (.cells #[oneS (gn, cn)] 34)) := hb1'.trans (hal.mono hz1)
      refine seqT_solo (by rfl) (fun K hK => ?_)
      go_simp
      refine hK.out _ _ (fun _ => ⟨(hb2'.cell (p := ⟨g3, 3, none⟩) (show g3 < wr.heap.size by omega)).trans r3, (hb2'.cell (p := ⟨g1, 4, none⟩) (show g1 < wr.heap.size by omega)).trans hS0.2.1, (hb2'.cell (p := ⟨g, k, none⟩) hg).trans ckc⟩) ?_
      clear hK K
      try simp only [Act.put, List.setIfInBounds_toArray, List.set_cons_zero, List.set_cons_succ]
      have hnews : ∀ j u, [oneS (gn, cn)][j]? = some u → (w1.alloc (.cells #[oneS (gn, cn)] 34)).cell? ((⟨w1.heap.size, 0, none⟩ : Addr).add j) = some u := newAt w1 [oneS (gn, cn)] _ _ rfl
      obtain ⟨v', w3, happ, hown3, hgr3, _, _⟩ := run_append_own_at (P := Try.prog) (w1.alloc (.cells #[oneS (gn, cn)] 34)) B 30 30 34 i1 _ 1 24 Try.underlying30 hi1 hi1z hi1s hi1b rfl (by decide) (.slice Av k cv) k _ (own_below hown hb2') ⟨w1.heap.size, 0, none⟩ 1 1 [oneS (gn, cn)] rfl hnews (fun u hu => by simp at hu; subst hu; rfl) (by unfold maxLen; omega) (by omega) (by simp; omega)
      have hownlt : ∀ j, (Value.slice Av k cv).ownBlock = some j → B ≤ j := fun j hj => (hown.lt j hj).1
      have hne3 : ∀ q, q < B → some q ≠ (Value.slice Av k cv).ownBlock := fun q hq e => by have := hownlt q e.symm; omega
      have hs3 := hgr3.size
      have hzA : (w1.alloc (.cells #[oneS (gn, cn)] 34)).heap.size = w1.heap.size + 1 := by simp
      have hold : ∀ q, q < B → w3.heap[q]? = wr.heap[q]? := fun q hq => (hgr3.block q (by omega) (hne3 q hq)).trans (hb2'.block q (by omega))
      have t0 : w3.cell? ⟨g3, 3, none⟩ = some (.slice Av k cv) := (World.cell?_of_block (w := wr) (a := ⟨g3, 3, none⟩) (hold g3 (by omega))).trans r3
      have t1 : w3.cell? ⟨g1, 4, none⟩ = some (.slice (some ⟨g, 0, none⟩) n c) := (World.cell?_of_block (w := wr) (a := ⟨g1, 4, none⟩) (hold g1 (by omega))).trans hS0.2.1
      have t2 : w3.cell? ⟨g, k, none⟩ = some (.slice (some ⟨gk, 0, none⟩) 1 ck) := (World.cell?_of_block (w := wr) (a := ⟨g, k, none⟩) (hold g (by omega))).trans ckc
      have tf : ∀ i, w3.frozen? ⟨g3, i, none⟩ = false := fun i => (World.frozen?_of_block (w := wr) (a := ⟨g3, i, none⟩) (hold g3 (by omega))).trans (rf i)
      obtain ⟨A', c', hv'⟩ := own_slice hown3
      subst hv'
      refine seqT_solo (by rfl) (fun K hK => ?_)
      refine wp_append _ _ _ (by rfl) (by rfl) (by rfl) happ ?_
      refine hK.out _ _ (fun _ => ⟨t0, t1, t2⟩) ?_
      clear hK K
      try simp only [Act.put, List.setIfInBounds_toArray, List.set_cons_zero, List.set_cons_succ]
      iterate 1
        refine seqT_take (v := ?_) (by rfl) ?_ ?_
        rotate_left
        · intro w' hSw
          go_simp
          try (with_reducible rfl)
        try simp only [Act.put, List.setIfInBounds_toArray, List.set_cons_zero, List.set_cons_succ]

      refine seqT_solo (by rfl) (fun K hK => ?_)
      go_simp
      refine hK.out _ _ (fun h => absurd rfl h) ?_
      clear hK K
      refine seqT_done ?_
      have hrc3 : w3.heap[g3]? = some (.cells #[.int .i64 5, .float .f64 0, .string ⟨#[]⟩, .slice Av k cv] 32 (0, 0)) := (hold g3 (by omega)).trans HH.out.rcd
      have HS2 : Hid (OfSt w (w3.setCell ⟨g3, 3, none⟩ (.slice A' (k + 1) c')) g1 g2 g3 B (some ⟨g, 0, none⟩) n c 34 32 ivCells (.slice A' (k + 1) c') (X.take (k + 1)) (S ++ [(gn, cn)])) := by
        have hoth : ∀ q, q ≠ g3 → (w3.setCell ⟨g3, 3, none⟩ (.slice A' (k + 1) c')).heap[q]? = w3.heap[q]? := fun q hq => heap_setCell_other _ _ _ _ hq
        have hT2 := HH.out.tb.keep hb2'
        have hT3 : Tb w3 B 34 32 ivCells (.slice A' (k + 1) c') (X.take k ++ [x]) (S ++ [(gn, cn)]) := hT2.push (s := (gn, cn)) (by decide) (by have := hdr.size; show B ≤ gn; omega) (htn.below hal) (fun j u hj => (hal.cell (p := ⟨gn, j, none⟩) htn.lt).trans (hcn j u hj)) (by rw [hXl]; exact hown3) hgr3
        refine ⟨(hoth g1 (by omega)).trans ((hold g1 (by omega)).trans HH.out.arg), (hoth g2 (by omega)).trans ((hold g2 (by omega)).trans HH.out.box), ?_, ?_, by simp only [World.setCell, Array.size_modify]; omega, ?_⟩
        · have := heap_setCell_same w3 g3 3 _ _ (.slice A' (k + 1) c') hrc3
          simpa using this
        · rw [HTK.out]
          exact hT3.agree (fun q hq _ => hoth q (by omega))
        · have h3 : Below w.heap.size w w3 := (hbel.trans (hb2'.mono hbel.size)).grown hgr3 (by have := hbel.size; omega) (fun j hj => by have := hownlt j hj; omega)
          have hle : w.heap.size ≤ g3 := by omega
          exact h3.setCell hle _
      clear hS0 t0 t1 t2 tf hgr3 hown3 happ hnews hold hne3 hownlt hb2' hb1' hb1 hal hcn htn r3 rf ckc hown hbel hrc3 AR hdr
      go_wp2
      go_roundw
      case rel => exact ⟨k + 1, _, _, by omega, by go_num, HS2⟩
      case measure => simp [intOf]; omega
    · obtain rfl : k = n := by omega
      have hT := h.tb
      have hrc := h.rcd
      have hbx := h.box
      rw [List.take_of_length_le (by have := HN.out; omega)] at hT
      obtain ⟨A2, c2, he⟩ := own_slice hT.own
      subst he
      obtain ⟨r0, r1, r2, r3, rf⟩ := four_cells hrc
      obtain ⟨b0, b1, b2, b3, bf⟩ := four_cells hbx
      have HR := Lib.hid hT.reads
      have HB := Lib.hid h.below
      have hle : w.heap.size ≤ g2 := by omega
      have hput : ∀ v0 v1 v2 v3, Below w.heap.size wr ((((wr.setCell ⟨g2, 0, none⟩ v0).setCell ⟨g2, 1, none⟩ v1).setCell ⟨g2, 2, none⟩ v2).setCell ⟨g2, 3, none⟩ v3) := fun v0 v1 v2 v3 => ((((Below.refl _ _).setCell hle _).setCell hle _).setCell hle _).setCell hle _
      have hagr : ∀ v0 v1 v2 v3, RdT ((((wr.setCell ⟨g2, 0, none⟩ v0).setCell ⟨g2, 1, none⟩ v1).setCell ⟨g2, 2, none⟩ v2).setCell ⟨g2, 3, none⟩ v3) B A2 ivCells X := fun v0 v1 v2 v3 => by
        refine HR.out.agree (by simp [World.setCell]) (fun q hq _ => ?_)
        have hne : q ≠ g2 := by omega
        rw [heap_setCell_other _ _ _ _ hne, heap_setCell_other _ _ _ _ hne, heap_setCell_other _ _ _ _ hne, heap_setCell_other _ _ _ _ hne]
      have HP := Lib.hid hput
      have HG := Lib.hid hagr
      clear hT hrc hbx h HS hput hagr
      go_wp2
      (try simp only [Exit.inBlock, Exit.then])
      exact bodyPost_ret (v := .agg #[.int .i64 5, .float .f64 0, .string ⟨#[]⟩, .slice A2 X.length c2]) (by simp [results, Try.results14, go_sem, b0, b1, b2, b3]) rfl ⟨A2, c2, rfl, (HG.out _ _ _ _).lower (by omega), HB.out.trans (HP.out _ _ _ _)⟩
end Go.Proofs.Ytfnphohdipdmpaa.Rg
