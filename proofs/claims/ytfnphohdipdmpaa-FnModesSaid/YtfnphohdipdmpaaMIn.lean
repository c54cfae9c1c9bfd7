/- Numbers and columns of the program as the package has them. -/
import Derived.Test.YtfnphohdipdmpaaMAll
namespace Go.Proofs.Ytfnphohdipdmpaa.Rg
open Go.RowKit

theorem infoArg : (Try.prog.info? 46).map (fun i => (i.zero, i.size, i.bytes)) = some (some (.agg #[.int .i64 0, .float .f64 0, .string ⟨#[]⟩, .slice none 0 0]), 4, 56) := by kernel_rfl
theorem infoArgs : (Try.prog.info? 48).map (fun i => (i.zero, i.size, i.bytes)) = some (some (.slice none 0 0), 1, 24) := by kernel_rfl

set_option maxHeartbeats 3200000 in
set_option maxRecDepth 100000 in
theorem in_row (g c : Nat) (z : Int) (w : World) (hc : ∀ j u, (ivCells z)[j]? = some u → w.cell? ⟨g, j, none⟩ = some u) :
    Calls Try.prog 17 #[.slice (some ⟨g, 0, none⟩) 1 c] w (RowPost w 46 (ivCells z)) := by
  obtain ⟨i1, hi1, hi1z, hi1s, hi1b⟩ := info_parts infoArg
  have hst := store_float Try.prog
  have c0 := hc 0 _ rfl
  have c1 := hc 1 _ rfl
  have c2 := hc 2 _ rfl
  have c3 := hc 3 _ rfl
  obtain ⟨q, hqe⟩ : ∃ q, fl z = q := ⟨_, rfl⟩
  rw [hqe] at c1
  have HE := Lib.hid hqe
  clear hc hqe
  go_enter Try.func17, Try.ntmps17
  go_wp2
  go_loopw [3, 11] (fun x i wr => (i = .int .i64 0 ∧ x = .slice none 0 0 ∧ w = wr) ∨ (i = .int .i64 1 ∧ ∃ g2 cq : Nat, x = .slice (some ⟨g2, 0, none⟩) 1 cq ∧ Hid (w.heap.size ≤ g2 ∧ Tag wr g2 46 ∧ (∀ j u, (ivCells z)[j]? = some u → wr.cell? ⟨g2, j, none⟩ = some u) ∧ Below w.heap.size w wr))) (fun _ i _ => 1 - (intOf i).toNat)
  case atStart => exact .inl ⟨rfl, rfl, rfl⟩
  case round =>
    rcases hrel with ⟨rfl, rfl, rfl⟩ | ⟨rfl, g2, cq, rfl, HR⟩
    · go_wp2
      have hb1 : Below w.heap.size w ((w.alloc (.cells #[.int .i64 1, .float .f64 q, .string ⟨#[]⟩, .slice none 0 0] 32)).alloc (.cells #[.int .i64 1, .float .f64 q, .string ⟨#[]⟩, .slice none 0 0] 46)) := ((Below.refl _ _).alloc (Nat.le_refl _) _).alloc (by simp) _
      have hrc : ((w.alloc (.cells #[.int .i64 1, .float .f64 q, .string ⟨#[]⟩, .slice none 0 0] 32)).alloc (.cells #[.int .i64 1, .float .f64 q, .string ⟨#[]⟩, .slice none 0 0] 46)).heap[w.heap.size + 1]? = some (.cells #[.int .i64 1, .float .f64 q, .string ⟨#[]⟩, .slice none 0 0] 46 (0, 0)) := by
        have := heap_alloc_new (w.alloc (.cells #[.int .i64 1, .float .f64 q, .string ⟨#[]⟩, .slice none 0 0] 32)) (.cells #[.int .i64 1, .float .f64 q, .string ⟨#[]⟩, .slice none 0 0] 46)
        simpa using this
      generalize (w.alloc (.cells #[.int .i64 1, .float .f64 q, .string ⟨#[]⟩, .slice none 0 0] 32)).alloc (.cells #[.int .i64 1, .float .f64 q, .string ⟨#[]⟩, .slice none 0 0] 46) = w1 at hb1 hrc ⊢
      obtain ⟨d0, d1, d2, d3, df⟩ := four_cells hrc
      have hbs := hb1.size
      clear hrc c0 c1 c2 c3
      go_loopw [25] (fun i wr => i = .int .i64 0 ∧ w1 = wr) (fun _ _ => 0)
      case atStart => exact ⟨rfl, rfl⟩
      case round =>
        obtain ⟨rfl, rfl⟩ := hrel
        go_wp2_with (at_builtin; refine wpList_append_own _ rfl _ _ 48 rfl w.heap.size 46 i1 _ 4 56 Try.underlying48 hi1 hi1z hi1s hi1b rfl (by decide) (.slice none 0 0) 0 [] rfl ?c0 ⟨w1.heap.size, 0, none⟩ 1 1 [.int .i64 1, .float .f64 q, .string ⟨#[]⟩, .slice none 0 0] rfl rfl ?c1 ?c2 ?c3 ?c4 ?c5 ?_)
        case c0 => exact World.ownsRow_nil _ _ _ _
        case c1 => exact newAt _ [.int .i64 1, .float .f64 q, .string ⟨#[]⟩, .slice none 0 0] _ _ rfl
        case c2 => intro u hu; simp at hu; rcases hu with rfl | rfl | rfl | rfl <;> rfl
        case c3 => unfold maxLen; omega
        case c4 => omega
        case c5 => simp; omega
        intro v' w2 hown' hgrow _
        have hb2 : Below w.heap.size w w2 := (hb1.alloc hbs _).grown hgrow (by simp; omega) (fun j hj => by simp [Value.ownBlock] at hj)
        obtain ⟨g2, cq, hv, hR⟩ := row_of_own (w := w) hown' (Nat.le_refl _)
        subst hv
        have HR : Hid (w.heap.size ≤ g2 ∧ Tag w2 g2 46 ∧ (∀ j u, (ivCells z)[j]? = some u → w2.cell? ⟨g2, j, none⟩ = some u) ∧ Below w.heap.size w w2) := ⟨hR.1, hR.2.1, by unfold ivCells; rw [HE.out]; exact hR.2.2, hb2⟩
        clear hown' hgrow hb2 hb1 hbs hR d0 d1 d2 d3 df
        go_wp2
        go_roundw
        case rel => exact .inr ⟨rfl, g2, _, rfl, HR⟩
        case measure => simp [intOf]
    · go_wp2
      go_ret
      obtain ⟨h1, h2, h3, h4⟩ := HR.out
      exact ⟨g2, _, rfl, h1, h2, h3, h4⟩
/-- Where the conversion of a column stands: the record that is read, the record that is filled. -/
structure InSt (w wr : World) (g1 g2 B : Nat) (A : Option Addr) (n c : Nat) (v : Value) (X : List Int) (S : List (Nat × Nat)) : Prop where
  rcd : wr.heap[g2]? = some (.cells #[.int .i64 5, .float .f64 0, .string ⟨#[]⟩, v] 46 (0, 0))
  tb : Tb wr B 48 46 ivCells v X S
  size : B ≤ wr.heap.size
  below : Below w.heap.size w wr

set_option maxHeartbeats 6400000 in
set_option maxRecDepth 100000 in
theorem in_one (g0 c0 : Nat) (A : Option Addr) (n c : Nat) (X : List Int) (w : World) (hn : n = X.length) (hn2 : n ≤ 100) (hA : RdT w 0 A ivCells X)
    (k0 : w.cell? ⟨g0, 0, none⟩ = some (.int .i64 5)) (k1 : w.cell? ⟨g0, 1, none⟩ = some (.float .f64 0)) (k2 : w.cell? ⟨g0, 2, none⟩ = some (.string ⟨#[]⟩)) (k3 : w.cell? ⟨g0, 3, none⟩ = some (.slice A n c)) :
    Calls Try.prog 17 #[.slice (some ⟨g0, 0, none⟩) 1 c0] w (OnePost w 46 ivCells X) := by
  obtain ⟨i1, hi1, hi1z, hi1s, hi1b⟩ := info_parts infoArgs
  obtain ⟨i2, hi2, hi2z, hi2s, hi2b⟩ := info_parts infoArg
  have hst := store_float Try.prog
  have HN := Lib.hid hn
  have HA := Lib.hid hA
  clear hn hA
  go_enter Try.func17, Try.ntmps17
  go_wp2
  go_loopw [3, 11] (fun x i wr => (i = .int .i64 0 ∧ x = .slice none 0 0 ∧ w = wr) ∨ (i = .int .i64 1 ∧ ∃ g2 cq : Nat, x = .slice (some ⟨g2, 0, none⟩) 1 cq ∧ Hid (ColAt wr 46 ivCells X g2 ∧ Below w.heap.size w wr))) (fun _ i _ => 1 - (intOf i).toNat)
  case atStart => exact .inl ⟨rfl, rfl, rfl⟩
  case round =>
    rcases hrel with ⟨rfl, rfl, rfl⟩ | ⟨rfl, g2, cq, rfl, HR⟩
    · have h0 : InSt w ((w.alloc (.cells #[.int .i64 5, .float .f64 0, .string ⟨#[]⟩, .slice A n c] 32)).alloc (.cells #[.int .i64 5, .float .f64 0, .string ⟨#[]⟩, .slice none 0 0] 46)) w.heap.size (w.heap.size + 1) (w.heap.size + 2) A n c (.slice none 0 0) [] [] := by
        have hb1 : Below w.heap.size w ((w.alloc (.cells #[.int .i64 5, .float .f64 0, .string ⟨#[]⟩, .slice A n c] 32)).alloc (.cells #[.int .i64 5, .float .f64 0, .string ⟨#[]⟩, .slice none 0 0] 46)) := ((Below.refl _ _).alloc (Nat.le_refl _) _).alloc (by simp) _
        refine ⟨?_, Tb.nil _ _ _ _ _, by simp, hb1⟩
        have := heap_alloc_new (w.alloc (.cells #[.int .i64 5, .float .f64 0, .string ⟨#[]⟩, .slice A n c] 32)) (.cells #[.int .i64 5, .float .f64 0, .string ⟨#[]⟩, .slice none 0 0] 46)
        simpa using this
      have H0 := Lib.hid h0
      clear h0
      go_wp2
      clear k0 k1 k2 k3
      obtain ⟨g2, e2⟩ : ∃ g2, w.heap.size + 1 = g2 := ⟨_, rfl⟩
      obtain ⟨B, eB⟩ : ∃ B, w.heap.size + 2 = B := ⟨_, rfl⟩
      have hwg : w.heap.size ≤ g2 := by omega
      have hgB : g2 < B := by omega
      have hwB : w.heap.size ≤ B := by omega
      rw [e2, eB] at H0
      rw [e2]
      clear e2 eB
      go_loopw [25] (fun i wr => ∃ (k : Nat) (v : Value) (S : List (Nat × Nat)), k ≤ n ∧ i = .int .i64 k ∧ Hid (InSt w wr w.heap.size g2 B A n c v (X.take k) S)) (fun i _ => n - (intOf i).toNat)
      case atStart => exact ⟨0, _, _, by omega, rfl, H0⟩
      clear H0
      case round =>
        obtain ⟨k, v, S, hk, rfl, HS⟩ := hrel
        have h := HS.out
        have hXl : (X.take k).length = k := by rw [List.length_take]; have := HN.out; omega
        have hsz := h.size
        by_cases hkn : k < n
        · obtain ⟨x, hx⟩ : ∃ x, X[k]? = some x := ⟨_, List.getElem?_eq_getElem (by have := HN.out; omega)⟩
          have HTK : Hid (X.take (k + 1) = X.take k ++ [x]) := by
            show X.take (k + 1) = X.take k ++ [x]
            rw [List.take_add_one, hx]
            rfl
          have i0' : (0 : Int) ≤ (k : Int) := by omega
          have i1' : (k : Int) < (n : Int) := by omega
          have hbel := h.below
          obtain ⟨g, rfl, _, hg0, _⟩ := HA.out (by have := HN.out; omega)
          obtain ⟨g', eg, _, hg, hrow⟩ := (HA.out.later hbel) (by have := HN.out; omega)
          obtain rfl : g = g' := by cases eg; rfl
          obtain ⟨gk, ck, ckc, _, hgk, hin⟩ := hrow k x hx
          obtain ⟨_, _, _, r3, rf⟩ := four_cells h.rcd
          have hdr : Below wr.heap.size wr wr.drew := (Below.refl _ _).drew
          have AR := Lib.hid (in_row gk ck x wr.drew hin)
          have hown := h.tb.own
          rw [hXl] at hown
          obtain ⟨Av, cv, rfl⟩ := own_slice hown
          have hS0 : wr.drew.cell? ⟨g2, 3, none⟩ = some (.slice Av k cv) := r3
          have HH := Lib.hid h
          clear hin hrow hx h HS
          go_wp2_with fail
          refine wp_region_late (List.replicate 8 false) [true, true, true, false, false, false, true, false] (S := fun w' => w'.cell? ⟨g2, 3, none⟩ = some (.slice Av k cv)) (by kernel_rfl) (by kernel_rfl) (by kernel_rfl) (fun d _ _ _ _ h => by cases d <;> exact h) hS0 ?_
          simp only [List.replicate, swaps]
          iterate 3
            refine seqT_take (v := ?_) (by rfl) ?_ ?_
            rotate_left
            · intro w' hSw
              go_simp
              try (with_reducible rfl)
            try simp only [Act.put, List.setIfInBounds_toArray, List.set_cons_zero, List.set_cons_succ]

          refine seqT_solo (by rfl) (fun K hK => ?_)
          go_simp
          refine AR.out.mono ?_
          rintro e w1 ⟨gn, cn, rfl, hgn, htn, hcn, hb1⟩
          have hb1' : Below wr.heap.size wr w1 := hdr.trans hb1
          have hz1 := hb1'.size
          refine hK.out _ _ (fun _ => (hb1'.cell (p := ⟨g2, 3, none⟩) (show g2 < wr.heap.size by omega)).trans r3) ?_
          clear hK K
          try simp only [Act.put, List.setIfInBounds_toArray, List.set_cons_zero, List.set_cons_succ]
          have hal : Below w1.heap.size w1 (w1.alloc (.cells #[oneS (gn, cn)] 48)) := (Below.refl _ _).alloc (Nat.le_refl _) _
          have hb2' : Below wr.heap.size wr (w1.alloc (.cells #[oneS (gn, cn)] 48)) := hb1'.trans (hal.mono hz1)
          refine seqT_solo (by rfl) (fun K hK => ?_)
          go_simp
          refine hK.out _ _ (fun _ => (hb2'.cell (p := ⟨g2, 3, none⟩) (show g2 < wr.heap.size by omega)).trans r3) ?_
          clear hK K
          try simp only [Act.put, List.setIfInBounds_toArray, List.set_cons_zero, List.set_cons_succ]
          have hnews : ∀ j u, [oneS (gn, cn)][j]? = some u → (w1.alloc (.cells #[oneS (gn, cn)] 48)).cell? ((⟨w1.heap.size, 0, none⟩ : Addr).add j) = some u := newAt w1 [oneS (gn, cn)] _ _ rfl
          obtain ⟨v', w3, happ, hown3, hgr3, _, _⟩ := run_append_own_at (P := Try.prog) (w1.alloc (.cells #[oneS (gn, cn)] 48)) B 44 44 48 i1 _ 1 24 Try.underlying44 hi1 hi1z hi1s hi1b rfl (by decide) (.slice Av k cv) k _ (own_below hown hb2') ⟨w1.heap.size, 0, none⟩ 1 1 [oneS (gn, cn)] rfl hnews (fun u hu => by simp at hu; subst hu; rfl) (by unfold maxLen; omega) (by omega) (by simp; omega)
          have hownlt : ∀ j, (Value.slice Av k cv).ownBlock = some j → B ≤ j := fun j hj => (hown.lt j hj).1
          have hne3 : ∀ q, q < B → some q ≠ (Value.slice Av k cv).ownBlock := fun q hq e => by have := hownlt q e.symm; omega
          have hs3 := hgr3.size
          have hzA : (w1.alloc (.cells #[oneS (gn, cn)] 48)).heap.size = w1.heap.size + 1 := by simp
          have hold : ∀ q, q < B → w3.heap[q]? = wr.heap[q]? := fun q hq => (hgr3.block q (by omega) (hne3 q hq)).trans (hb2'.block q (by omega))
          have t0 : w3.cell? ⟨g2, 3, none⟩ = some (.slice Av k cv) := (World.cell?_of_block (w := wr) (a := ⟨g2, 3, none⟩) (hold g2 (by omega))).trans r3
          have tf : ∀ i, w3.frozen? ⟨g2, i, none⟩ = false := fun i => (World.frozen?_of_block (w := wr) (a := ⟨g2, i, none⟩) (hold g2 (by omega))).trans (rf i)
          obtain ⟨A', c', hv'⟩ := own_slice hown3
          subst hv'
          refine seqT_solo (by rfl) (fun K hK => ?_)
          refine wp_append _ _ _ (by rfl) (by rfl) (by rfl) happ ?_
          refine hK.out _ _ (fun _ => t0) ?_
          clear hK K
          try simp only [Act.put, List.setIfInBounds_toArray, List.set_cons_zero, List.set_cons_succ]
          iterate 1
            refine seqT_take (v := ?_) (by rfl) ?_ ?_
            rotate_left
            · intro w' hSw
              go_simp
              try (with_reducible rfl)
            try simp only [Act.put, List.setIfInBounds_toArray, List.set_cons_zero, List.set_cons_succ]

          refine seqT_solo (by rfl) (fun K hK => ?_)
          go_simp
          refine hK.out _ _ (fun h => absurd rfl h) ?_
          clear hK K
          refine seqT_done ?_
          have hrc3 : w3.heap[g2]? = some (.cells #[.int .i64 5, .float .f64 0, .string ⟨#[]⟩, .slice Av k cv] 46 (0, 0)) := (hold g2 (by omega)).trans HH.out.rcd
          have HS2 : Hid (InSt w (w3.setCell ⟨g2, 3, none⟩ (.slice A' (k + 1) c')) w.heap.size g2 B (some ⟨g, 0, none⟩) n c (.slice A' (k + 1) c') (X.take (k + 1)) (S ++ [(gn, cn)])) := by
            have hoth : ∀ q, q ≠ g2 → (w3.setCell ⟨g2, 3, none⟩ (.slice A' (k + 1) c')).heap[q]? = w3.heap[q]? := fun q hq => heap_setCell_other _ _ _ _ hq
            have hT2 := HH.out.tb.keep hb2'
            have hT3 : Tb w3 B 48 46 ivCells (.slice A' (k + 1) c') (X.take k ++ [x]) (S ++ [(gn, cn)]) := hT2.push (s := (gn, cn)) (by decide) (by have := hdr.size; show B ≤ gn; omega) (htn.below hal) (fun j u hj => (hal.cell (p := ⟨gn, j, none⟩) htn.lt).trans (hcn j u hj)) (by rw [hXl]; exact hown3) hgr3
            refine ⟨?_, ?_, by simp only [World.setCell, Array.size_modify]; omega, ?_⟩
            · have := heap_setCell_same w3 g2 3 _ _ (.slice A' (k + 1) c') hrc3
              simpa using this
            · rw [HTK.out]
              exact hT3.agree (fun q hq _ => hoth q (by omega))
            · have h3 : Below w.heap.size w w3 := (hbel.trans (hb2'.mono hbel.size)).grown hgr3 (by have := hbel.size; omega) (fun j hj => by have := hownlt j hj; omega)
              exact h3.setCell hwg _
          clear hS0 t0 tf hgr3 hown3 happ hnews hold hne3 hownlt hb2' hb1' hb1 hal hcn htn r3 rf ckc hown hbel hrc3 AR hdr
          go_wp2
          go_roundw
          case rel => exact ⟨k + 1, _, _, by omega, by go_num, HS2⟩
          case measure => simp [intOf]; omega
        · obtain rfl : k = n := by omega
          have hT := h.tb
          have hbw := h.below
          rw [List.take_of_length_le (by have := HN.out; omega)] at hT
          obtain ⟨A2, c2, he⟩ := own_slice hT.own
          subst he
          obtain ⟨r0, r1, r2, r3, rf⟩ := four_cells h.rcd
          have HR2 := Lib.hid hT.reads
          have hbs := hbw.size
          clear hT h HS
          go_wp2_with (at_builtin; refine wpList_append_own _ rfl _ _ 48 rfl w.heap.size 46 i2 _ 4 56 Try.underlying48 hi2 hi2z hi2s hi2b rfl (by decide) (.slice none 0 0) 0 [] rfl ?c0 ⟨wr.heap.size, 0, none⟩ 1 1 [.int .i64 5, .float .f64 0, .string ⟨#[]⟩, .slice A2 X.length c2] rfl rfl ?c1 ?c2 ?c3 ?c4 ?c5 ?_)
          case c0 => exact World.ownsRow_nil _ _ _ _
          case c1 => exact newAt _ [.int .i64 5, .float .f64 0, .string ⟨#[]⟩, .slice A2 X.length c2] _ _ rfl
          case c2 => intro u hu; simp at hu; rcases hu with rfl | rfl | rfl | rfl <;> rfl
          case c3 => unfold maxLen; omega
          case c4 => omega
          case c5 => simp; omega
          intro v' w2 hown' hgrow _
          have hal : Below wr.heap.size wr (wr.alloc (.cells #[.int .i64 5, .float .f64 0, .string ⟨#[]⟩, .slice A2 X.length c2] 46)) := (Below.refl _ _).alloc (Nat.le_refl _) _
          have hb12 : Below wr.heap.size wr w2 := hal.grown hgrow (by simp) (fun j hj => by simp [Value.ownBlock] at hj)
          obtain ⟨gq, cq, hv, hR⟩ := row_of_own (w := w) hown' (Nat.le_refl _)
          subst hv
          have HR : Hid (ColAt w2 46 ivCells X gq ∧ Below w.heap.size w w2) := ⟨⟨hR.2.1, A2, c2, hR.2.2 0 _ rfl, hR.2.2 1 _ rfl, hR.2.2 2 _ rfl, hR.2.2 3 _ rfl, (HR2.out.later hb12).lower (Nat.zero_le _)⟩, hbw.trans (hb12.mono hbs)⟩
          clear hown' hgrow hb12 hbw hbs hR hal r0 r1 r2 r3 rf
          go_wp2
          go_roundw
          case rel => exact .inr ⟨rfl, gq, _, rfl, HR⟩
          case measure => simp [intOf]
    · go_wp2
      go_ret
      exact ⟨g2, _, rfl, HR.out.1, HR.out.2⟩
end Go.Proofs.Ytfnphohdipdmpaa.Rg
