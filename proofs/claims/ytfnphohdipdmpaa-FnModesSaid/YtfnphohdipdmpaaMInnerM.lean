/- A column as the package's formulas have it. -/
import Derived.Test.YtfnphohdipdmpaaMInner
namespace Go.Proofs.Ytfnphohdipdmpaa.Rg
open Go.RowKit

theorem infoFas : (Try.prog.info? 55).map (fun i => (i.zero, i.size, i.bytes)) = some (some (.slice none 0 0), 1, 24) := by kernel_rfl
theorem infoFa : (Try.prog.info? 60).map (fun i => (i.zero, i.size, i.bytes)) = some (some (.agg #[.string ⟨#[]⟩, .float .f64 0, .string ⟨#[]⟩, .slice none 0 0, .slice none 0 0, .bool false, .string ⟨#[]⟩, .int .u8 0, .pointer none, .pointer none]), 10, 136) := by kernel_rfl

def maCells (A : Option Addr) (n c : Nat) (p q : Value) : List Value := [.string ⟨#[]⟩, .float .f64 0, .string ⟨#[]⟩, .slice none 0 0, .slice A n c, .bool false, .string ⟨#[]⟩, .int .u8 4, p, q]

set_option maxHeartbeats 3200000 in
set_option maxRecDepth 100000 in
theorem newmat_any (A : Option Addr) (n c : Nat) (w : World) :
    Calls Try.prog 43 #[.slice A n c] w fun e w' => e = .returned (.agg (maCells A n c (.pointer none) (.pointer none)).toArray) ∧ Below w.heap.size w w' := by
  have hst := store_float Try.prog
  have hal : ∀ o, Below w.heap.size w (w.alloc o) := fun o => (Below.refl _ _).alloc (Nat.le_refl _) _
  go_enter Try.func43, Try.ntmps43
  go_wp2
  (try simp only [Exit.inBlock, Exit.then])
  exact bodyPost_ret (v := .agg #[.string ⟨#[]⟩, .float .f64 0, .string ⟨#[]⟩, .slice none 0 0, .slice A n c, .bool false, .string ⟨#[]⟩, .int .u8 4, .pointer none, .pointer none]) (by simp [results, Try.results43, go_sem]) rfl ⟨rfl, hal _⟩

theorem put10_other {w : World} {g k : Nat} (h : k ≠ g) (v0 v1 v2 v3 v4 v5 v6 v7 v8 v9 : Value) : (put10 w g v0 v1 v2 v3 v4 v5 v6 v7 v8 v9).heap[k]? = w.heap[k]? := by
  unfold put10
  rw [heap_setCell_other _ _ _ _ h, heap_setCell_other _ _ _ _ h, heap_setCell_other _ _ _ _ h, heap_setCell_other _ _ _ _ h, heap_setCell_other _ _ _ _ h, heap_setCell_other _ _ _ _ h, heap_setCell_other _ _ _ _ h, heap_setCell_other _ _ _ _ h, heap_setCell_other _ _ _ _ h, heap_setCell_other _ _ _ _ h]
theorem put10_size (w : World) (g : Nat) (v0 v1 v2 v3 v4 v5 v6 v7 v8 v9 : Value) : (put10 w g v0 v1 v2 v3 v4 v5 v6 v7 v8 v9).heap.size = w.heap.size := by
  unfold put10
  rw [set_size, set_size, set_size, set_size, set_size, set_size, set_size, set_size, set_size, set_size]

def MatFPost (w : World) (X : List Int) (e : Ending) (w' : World) : Prop := ∃ (A : Option Addr) (c : Nat) (p q : Option Addr), e = .returned (.agg (maCells A X.length c (.pointer p) (.pointer q)).toArray) ∧ RdT w' w.heap.size A faCells X ∧ Below w.heap.size w w'

/-- Where the conversion of a column stands. -/
structure FaSt (w wr : World) (g1 g2 B : Nat) (A : Option Addr) (n c : Nat) (v : Value) (X : List Int) (S : List (Nat × Nat)) : Prop where
  arg : wr.heap[g1]? = some (.cells #[.int .i64 5, .float .f64 0, .string ⟨#[]⟩, .slice A n c] 46 (0, 0))
  box : wr.heap[g2]? = some (.cells #[.string ⟨#[]⟩, .float .f64 0, .string ⟨#[]⟩, .slice none 0 0, .slice none 0 0, .bool false, .string ⟨#[]⟩, .int .u8 0, .pointer none, .pointer none] 60 (0, 0))
  tb : Tb wr B 55 60 faCells v X S
  size : B ≤ wr.heap.size
  below : Below w.heap.size w wr

theorem FaSt.later {w wr w' : World} {g1 g2 B : Nat} {A : Option Addr} {n c : Nat} {v : Value} {X : List Int} {S : List (Nat × Nat)} (h : FaSt w wr g1 g2 B A n c v X S) (hb : Below wr.heap.size wr w') : FaSt w w' g1 g2 B A n c v X S :=
  ⟨(hb.block g1 (Array.getElem?_eq_some_iff.1 h.arg).1).trans h.arg, (hb.block g2 (Array.getElem?_eq_some_iff.1 h.box).1).trans h.box, h.tb.keep hb, Nat.le_trans h.size hb.size, h.below.trans (hb.mono h.below.size)⟩

set_option maxHeartbeats 6400000 in
set_option maxRecDepth 100000 in
theorem inner_mat (A : Option Addr) (n c : Nat) (X : List Int) (w : World) (hn : n = X.length) (hn2 : n ≤ 100) (hn1 : 1 ≤ n) (hX : ∀ x ∈ X, -9 ≤ x ∧ x ≤ 9) (hA : RdT w 0 A ivCells X) :
    Calls Try.prog 32 #[.agg #[.int .i64 5, .float .f64 0, .string ⟨#[]⟩, .slice A n c]] w (MatFPost w X) := by
  obtain ⟨i1, hi1, hi1z, hi1s, hi1b⟩ := info_parts infoFas
  obtain ⟨i2, hi2, hi2z, hi2s, hi2b⟩ := info_parts infoFa
  have hst := store_float Try.prog
  have HN := Lib.hid hn
  have HA := Lib.hid hA
  have HX := Lib.hid hX
  have h0 : FaSt w ((w.alloc (.cells #[.int .i64 5, .float .f64 0, .string ⟨#[]⟩, .slice A n c] 46)).alloc (.cells #[.string ⟨#[]⟩, .float .f64 0, .string ⟨#[]⟩, .slice none 0 0, .slice none 0 0, .bool false, .string ⟨#[]⟩, .int .u8 0, .pointer none, .pointer none] 60)) w.heap.size (w.heap.size + 1) (w.heap.size + 2) A n c (.slice none 0 0) [] [] := by
    have hb1 : Below w.heap.size w ((w.alloc (.cells #[.int .i64 5, .float .f64 0, .string ⟨#[]⟩, .slice A n c] 46)).alloc (.cells #[.string ⟨#[]⟩, .float .f64 0, .string ⟨#[]⟩, .slice none 0 0, .slice none 0 0, .bool false, .string ⟨#[]⟩, .int .u8 0, .pointer none, .pointer none] 60)) := ((Below.refl _ _).alloc (Nat.le_refl _) _).alloc (by simp) _
    refine ⟨?_, ?_, Tb.nil _ _ _ _ _, by simp, hb1⟩
    · rw [Below.heap_alloc _ _ _ (by simp)]
      exact heap_alloc_new w _
    · have := heap_alloc_new (w.alloc (.cells #[.int .i64 5, .float .f64 0, .string ⟨#[]⟩, .slice A n c] 46)) (.cells #[.string ⟨#[]⟩, .float .f64 0, .string ⟨#[]⟩, .slice none 0 0, .slice none 0 0, .bool false, .string ⟨#[]⟩, .int .u8 0, .pointer none, .pointer none] 60)
      simpa using this
  obtain ⟨g1, e1⟩ : ∃ g1, w.heap.size = g1 := ⟨_, rfl⟩
  obtain ⟨g2, e2⟩ : ∃ g2, w.heap.size + 1 = g2 := ⟨_, rfl⟩
  obtain ⟨B, eB⟩ : ∃ B, w.heap.size + 2 = B := ⟨_, rfl⟩
  have hg12 : g1 < g2 := by omega
  have hg2B : g2 < B := by omega
  have hwg : w.heap.size ≤ g1 := by omega
  have hwB : w.heap.size ≤ B := by omega
  rw [e2, eB] at h0
  have H0 : Hid (FaSt w _ g1 g2 B A n c (.slice none 0 0) [] []) := e1 ▸ h0
  have E1 := Lib.hid e1
  have E2 := Lib.hid e2
  clear hn hA hX h0 e1 e2 eB
  go_enter Try.func32, Try.ntmps32
  go_wp2
  rw [E2.out, E1.out]
  clear E1 E2
  go_loopw [3, 40] (fun x i wr => ∃ (k : Nat) (v : Value) (S : List (Nat × Nat)), k ≤ n ∧ i = .int .i64 k ∧ x = v ∧ Hid (FaSt w wr g1 g2 B A n c v (X.take k) S)) (fun _ i _ => n - (intOf i).toNat)
  case atStart => exact ⟨0, _, _, by omega, rfl, rfl, H0⟩
  clear H0
  case round =>
    obtain ⟨k, v, S, hk, rfl, rfl, HS⟩ := hrel
    have hXl : (X.take k).length = k := by rw [List.length_take]; have := HN.out; omega
    by_cases hkn : k < n
    · obtain ⟨x, hx⟩ : ∃ x, X[k]? = some x := ⟨_, List.getElem?_eq_getElem (by have := HN.out; omega)⟩
      have hxr := HX.out x (List.mem_of_getElem? hx)
      have HTK : Hid (X.take (k + 1) = X.take k ++ [x]) := by
        show X.take (k + 1) = X.take k ++ [x]
        rw [List.take_add_one, hx]
        rfl
      have i0' : (0 : Int) ≤ (k : Int) := by omega
      have i1' : (k : Int) < (n : Int) := by omega
      obtain ⟨g, rfl, _, hg, hrow⟩ := (HA.out.later HS.out.below) (by have := HN.out; omega)
      obtain ⟨gk, ck, ckc, _, hgk, hin⟩ := hrow k x hx
      have HIN := Lib.hid hin
      have HXK := Lib.hid hx
      obtain ⟨Av, cv, hv⟩ := own_slice HS.out.tb.own
      rw [hXl] at hv
      subst hv
      clear hin hrow hx
      go_wp2
      go_loopw [6, 46] (fun r i wq => (i = .int .i64 0 ∧ r = .slice none 0 0 ∧ wr = wq) ∨ (i = .int .i64 1 ∧ ∃ gq cq : Nat, r = .slice (some ⟨gq, 0, none⟩) 1 cq ∧ Hid (wr.heap.size ≤ gq ∧ Tag wq gq 60 ∧ (∀ j u, (faCells x)[j]? = some u → wq.cell? ⟨gq, j, none⟩ = some u) ∧ Below wr.heap.size wr wq))) (fun _ i _ => 1 - (intOf i).toNat)
      case atStart => exact .inl ⟨rfl, rfl, rfl⟩
      case round =>
        rcases hrel with ⟨rfl, rfl, rfl⟩ | ⟨rfl, gq, cq, rfl, HR⟩
        · have d0 := HIN.out 0 _ rfl
          have d1 := HIN.out 1 _ rfl
          have d2 := HIN.out 2 _ rfl
          have d3 := HIN.out 3 _ rfl
          have hal0 : Below wr.heap.size wr (wr.alloc (.cells #[.int .i64 1, .float .f64 (fl x), .string ⟨#[]⟩, .slice none 0 0] 46)) := (Below.refl _ _).alloc (Nat.le_refl _) _
          have IN := Lib.hid (inner_num x (wr.alloc (.cells #[.int .i64 1, .float .f64 (fl x), .string ⟨#[]⟩, .slice none 0 0] 46)) hxr.1 hxr.2)
          unfold iv at IN
          have HAL := Lib.hid hal0
          clear hal0
          obtain ⟨q, hqe⟩ : ∃ q, fl x = q := ⟨_, rfl⟩
          rw [hqe] at d1 IN HAL
          have HQ := Lib.hid hqe
          clear hqe
          go_wp2_with fail
          refine IN.out.mono ?_
          rintro e w1 ⟨rfl, hb1⟩
          have hb1' := HAL.out.trans (hb1.mono HAL.out.size)
          have hbs := hb1'.size
          clear d0 d1 d2 d3 IN
          unfold faCells
          rw [HQ.out]
          go_wp2_with (at_builtin; refine wpList_append_own _ rfl _ _ 55 rfl wr.heap.size 60 i2 _ 10 136 Try.underlying55 hi2 hi2z hi2s hi2b rfl (by decide) (.slice none 0 0) 0 [] rfl ?c0 ⟨w1.heap.size, 0, none⟩ 1 1 [.string ⟨#[]⟩, .float .f64 q, .string ⟨#[]⟩, .slice none 0 0, .slice none 0 0, .bool false, .string ⟨#[]⟩, .int .u8 1, .pointer none, .pointer none] rfl rfl ?c1 ?c2 ?c3 ?c4 ?c5 ?_)
          case c0 => exact World.ownsRow_nil _ _ _ _
          case c1 => exact newAt _ [.string ⟨#[]⟩, .float .f64 q, .string ⟨#[]⟩, .slice none 0 0, .slice none 0 0, .bool false, .string ⟨#[]⟩, .int .u8 1, .pointer none, .pointer none] _ _ rfl
          case c2 => intro u hu; simp at hu; rcases hu with rfl | rfl | rfl | rfl | rfl | rfl | rfl | rfl | rfl | rfl <;> rfl
          case c3 => unfold maxLen; omega
          case c4 => omega
          case c5 => simp; omega
          intro v' w2 hown' hgrow _
          have hb2 : Below wr.heap.size wr w2 := (hb1'.alloc hbs _).grown hgrow (by simp; omega) (fun j hj => by simp [Value.ownBlock] at hj)
          obtain ⟨gq, cq, hv, hR⟩ := row_of_own (w := wr) hown' (Nat.le_refl _)
          subst hv
          have HR : Hid (wr.heap.size ≤ gq ∧ Tag w2 gq 60 ∧ (∀ j u, (faCells x)[j]? = some u → w2.cell? ⟨gq, j, none⟩ = some u) ∧ Below wr.heap.size wr w2) := ⟨hR.1, hR.2.1, by unfold faCells; rw [HQ.out]; exact hR.2.2, hb2⟩
          clear hown' hgrow hb2 hb1 hbs hR hb1'
          go_wp2
          go_roundw
          case rel => exact .inr ⟨rfl, gq, _, rfl, HR⟩
          case measure => simp [intOf]
        · obtain ⟨hgq, htq, hcq, hbq⟩ := HR.out
          have HGQ := Lib.hid (Nat.le_trans HS.out.size hgq)
          have hbel := HS.out.below
          have hS2 := HS.out.later hbq
          have hown := hS2.tb.own
          rw [hXl] at hown
          have hsz := hS2.size
          have HS2 := Lib.hid hS2
          clear hS2 HS
          go_wp2_with (at_builtin; refine wpList_append_own _ rfl _ _ 56 rfl B 55 i1 _ 1 24 Try.underlying56 hi1 hi1z hi1s hi1b rfl (by decide) _ _ _ rfl (hown.alloc _) ⟨wr.heap.size, 0, none⟩ 1 1 [oneS (gq, cq)] rfl rfl ?c1 ?c2 ?c3 ?c4 ?c5 ?_)
          case c1 => exact newAt _ [oneS (gq, cq)] _ _ rfl
          case c2 => intro u hu; simp at hu; subst hu; rfl
          case c3 => unfold maxLen; omega
          case c4 => omega
          case c5 => simp; omega
          intro v' w2 hown' hgrow _
          have hal : Below wr.heap.size wr (wr.alloc (.cells #[oneS (gq, cq)] 55)) := (Below.refl _ _).alloc (Nat.le_refl _) _
          have hS3 := HS2.out.later hal
          have hlt1 : g1 < (wr.alloc (.cells #[oneS (gq, cq)] 55)).heap.size := (Array.getElem?_eq_some_iff.1 hS3.arg).1
          have hlt2 : g2 < (wr.alloc (.cells #[oneS (gq, cq)] 55)).heap.size := (Array.getElem?_eq_some_iff.1 hS3.box).1
          have hfar : ∀ q, q < B → some q ≠ (Value.slice Av k cv).ownBlock := fun q hq e => by have := (hown.lt q e.symm).1; omega
          have HS4 : Hid (FaSt w w2 g1 g2 B (some ⟨g, 0, none⟩) n c v' (X.take (k + 1)) (S ++ [(gq, cq)])) := by
            refine ⟨(hgrow.block g1 hlt1 (hfar g1 (by omega))).trans hS3.arg, (hgrow.block g2 hlt2 (hfar g2 (by omega))).trans hS3.box, ?_, Nat.le_trans (Nat.le_trans hsz hal.size) hgrow.size, hS3.below.grown hgrow hS3.below.size (fun j hj => by have := (hown.lt j hj).1; omega)⟩
            rw [HTK.out]
            exact hS3.tb.push (x := x) (s := (gq, cq)) (by decide) (by have := HGQ.out; omega) (htq.below hal) (fun j u hj => (hal.cell (p := ⟨gq, j, none⟩) htq.lt).trans (hcq j u hj)) (by rw [hXl]; exact hown') hgrow
          clear hown' hgrow hown hS3 hal hfar hlt1 hlt2 HS2 HR hgq htq hcq hbq hbel hsz
          go_wp2
          go_roundw
          case rel => exact ⟨k + 1, v', _, by omega, by go_num, rfl, HS4⟩
          case measure => simp [intOf]; omega
    · obtain rfl : k = n := by omega
      have hT := HS.out.tb
      rw [List.take_of_length_le (by have := HN.out; omega)] at hT
      obtain ⟨A2, c2, hv⟩ := own_slice hT.own
      subst hv
      have HR := Lib.hid hT.reads
      have HBX := Lib.hid HS.out.box
      have HB := Lib.hid HS.out.below
      have hsz := HS.out.size
      have hXp : (0 : Int) < (X.length : Int) := by have := HN.out; omega
      have hXn : X.length ≤ 100 := by have := HN.out; omega
      obtain ⟨gm, rfl, hgmB, hgm, hrm⟩ := HR.out (by omega)
      obtain ⟨x0, hx0⟩ : ∃ x0, X[0]? = some x0 := ⟨_, List.getElem?_eq_getElem (by omega)⟩
      obtain ⟨gk, ck, ckc, _, _, _⟩ := hrm 0 x0 hx0
      clear hT HS hrm hx0
      go_wp2_with fail
      refine (newmat_any _ _ _ _).mono ?_
      rintro e w3 ⟨rfl, hb3⟩
      have hal9 : Below w3.heap.size w3 (w3.alloc (.cells (maCells (some ⟨gm, 0, none⟩) X.length c2 (.pointer none) (.pointer none)).toArray 60)) := (Below.refl _ _).alloc (Nat.le_refl _) _
      have h9 : (w3.alloc (.cells (maCells (some ⟨gm, 0, none⟩) X.length c2 (.pointer none) (.pointer none)).toArray 60)).heap[w3.heap.size]? = some (.cells (maCells (some ⟨gm, 0, none⟩) X.length c2 (.pointer none) (.pointer none)).toArray 60 (0, 0)) := heap_alloc_new w3 _
      have hb9 := hb3.trans (hal9.mono hb3.size)
      have HS3 := Lib.hid hb3.size
      unfold maCells at hb9 h9 ⊢
      have H9 := Lib.hid h9
      have HB9 := Lib.hid hb9
      clear hal9 h9 hb9 hb3
      obtain ⟨w9, hw9⟩ : ∃ w9, w3.alloc (.cells #[.string ⟨#[]⟩, .float .f64 0, .string ⟨#[]⟩, .slice none 0 0, .slice (some ⟨gm, 0, none⟩) X.length c2, .bool false, .string ⟨#[]⟩, .int .u8 4, .pointer none, .pointer none] 60) = w9 := ⟨_, rfl⟩
      have H9' : Hid (w9.heap[w3.heap.size]? = some (.cells #[.string ⟨#[]⟩, .float .f64 0, .string ⟨#[]⟩, .slice none 0 0, .slice (some ⟨gm, 0, none⟩) X.length c2, .bool false, .string ⟨#[]⟩, .int .u8 4, .pointer none, .pointer none] 60 (0, 0))) := hw9 ▸ H9.out
      have HB9' : Hid (Below wr.heap.size wr w9) := hw9 ▸ HB9.out
      have HW9 := Lib.hid hw9
      have HG3 : Hid (g2 < w3.heap.size ∧ gm < w3.heap.size ∧ wr.heap.size ≤ w3.heap.size) := by
        have h2 := (Array.getElem?_eq_some_iff.1 HBX.out).1
        have h3 := HS3.out
        exact ⟨by omega, by omega, h3⟩
      clear H9 HB9 hw9
      go_wp2_with fail
      rw [HW9.out]
      clear HW9
      have h9lt : w3.heap.size < w9.heap.size := (Array.getElem?_eq_some_iff.1 H9'.out).1
      generalize w3.heap.size = g9 at *
      refine (new_any _).mono ?_
      rintro e w4 ⟨rfl, hl1, hb4⟩
      have HB4 := Lib.hid hb4
      clear hl1 hb4
      go_wp2_with fail
      refine (new_any _).mono ?_
      rintro e w5 ⟨rfl, hl2, hb5⟩
      have hz4 := HB4.out.size
      have hz5 := hb5.size
      have h95 := (hb5.block g9 (by omega)).trans ((HB4.out.block g9 h9lt).trans H9'.out)
      obtain ⟨s0, s1, s2, s3, s4, s5, s6, s7, s8, s9, sf⟩ := ten h95
      have hB5 := HB9'.out.trans ((HB4.out.trans (hb5.mono hz4)).mono HB9'.out.size)
      have HB5 := Lib.hid hB5
      have HL2 := Lib.hid hl2
      have H95 := Lib.hid h95
      generalize w9.heap.size = l1 at *
      generalize hL2 : w4.heap.size = l2 at *
      clear hl2 hB5 hb5 HB4 H9' HB9' h95
      go_wp2_with fail
      obtain ⟨hg2l, hgml, hwrl⟩ := HG3.out
      have h96 : ((w5.setCell ⟨g9, 8, none⟩ (.pointer (some ⟨l1, 0, none⟩))).setCell ⟨g9, 9, none⟩ (.pointer (some ⟨l2, 0, none⟩))).heap[g9]? = some (.cells #[.string ⟨#[]⟩, .float .f64 0, .string ⟨#[]⟩, .slice none 0 0, .slice (some ⟨gm, 0, none⟩) X.length c2, .bool false, .string ⟨#[]⟩, .int .u8 4, .pointer (some ⟨l1, 0, none⟩), .pointer (some ⟨l2, 0, none⟩)] 60 (0, 0)) := by
        have a1 := heap_setCell_same w5 g9 8 _ _ (.pointer (some ⟨l1, 0, none⟩)) H95.out
        have a2 := heap_setCell_same _ g9 9 _ _ (.pointer (some ⟨l2, 0, none⟩)) a1
        simpa using a2
      have hoth : ∀ q, q ≠ g9 → ((w5.setCell ⟨g9, 8, none⟩ (.pointer (some ⟨l1, 0, none⟩))).setCell ⟨g9, 9, none⟩ (.pointer (some ⟨l2, 0, none⟩))).heap[q]? = w5.heap[q]? := fun q hq => by rw [heap_setCell_other _ _ _ _ hq, heap_setCell_other _ _ _ _ hq]
      have hB6 : Below w.heap.size w ((w5.setCell ⟨g9, 8, none⟩ (.pointer (some ⟨l1, 0, none⟩))).setCell ⟨g9, 9, none⟩ (.pointer (some ⟨l2, 0, none⟩))) := by
        have hge : w.heap.size ≤ g9 := by omega
        exact ((HB.out.trans (HB5.out.mono HB.out.size)).setCell (p := ⟨g9, 8, none⟩) hge _).setCell (p := ⟨g9, 9, none⟩) hge _
      have hsz6 : ((w5.setCell ⟨g9, 8, none⟩ (.pointer (some ⟨l1, 0, none⟩))).setCell ⟨g9, 9, none⟩ (.pointer (some ⟨l2, 0, none⟩))).heap.size = w5.heap.size := by rw [set_size, set_size]
      generalize (w5.setCell ⟨g9, 8, none⟩ (.pointer (some ⟨l1, 0, none⟩))).setCell ⟨g9, 9, none⟩ (.pointer (some ⟨l2, 0, none⟩)) = w6 at h96 hoth hB6 hsz6 ⊢
      clear s0 s1 s2 s3 s4 s5 s6 s7 s8 s9 sf
      have hz5' := HB5.out.size
      have hold : ∀ q, q < wr.heap.size → w6.heap[q]? = wr.heap[q]? := fun q hq => (hoth q (by omega)).trans (HB5.out.block q hq)
      have hL6 : List0 w6.drew l2 := (hoth l2 (by omega)).trans HL2.out
      obtain ⟨p0, p1, p2, p3, p4, p5, p6, p7, p8, p9, pf⟩ := ten h96
      have hS0 : w6.drew.cell? ⟨g9, 9, none⟩ = some (.pointer (some ⟨l2, 0, none⟩)) ∧ w6.drew.cell? ⟨gm, 0, none⟩ = some (.slice (some ⟨gk, 0, none⟩) 1 ck) := ⟨p9, (World.cell?_of_block (w := wr) (a := ⟨gm, 0, none⟩) (hold gm hgm)).trans ckc⟩
      clear p0 p1 p2 p3 p4 p5 p6 p7 p8 p9 pf
      refine wp_region_plan (List.replicate 13 false) [true, true, true, true, true, true, true, true, true, true, true, true, false] (S := fun w' => w'.cell? ⟨g9, 9, none⟩ = some (.pointer (some ⟨l2, 0, none⟩)) ∧ w'.cell? ⟨gm, 0, none⟩ = some (.slice (some ⟨gk, 0, none⟩) 1 ck)) (by kernel_rfl) (by kernel_rfl) (by kernel_rfl) (fun d _ _ _ _ h => by cases d <;> exact h) hS0 ?_
      simp only [List.replicate, swaps]
      iterate 12
        refine seq_take (v := ?_) (by rfl) ?_ ?_
        rotate_left
        · intro w' hSw
          obtain ⟨z0, z1⟩ := hSw
          go_simp
          try (with_reducible rfl)
        try simp only [Act.put, List.setIfInBounds_toArray, List.set_cons_zero, List.set_cons_succ]

      refine seq_solo (by rfl) (fun K hK => ?_)
      go_simp
      refine (push_any l2 _ _ _ hL6).mono ?_
      rintro e w7 ⟨ge, rfl, hge, hg7, _, _⟩
      have h97 : w7.heap[g9]? = w6.heap[g9]? := hg7.block g9 (by show g9 < w6.heap.size; omega) (fun e => by cases e; omega)
      have hgm7 : w7.heap[gm]? = w6.heap[gm]? := hg7.block gm (by show gm < w6.heap.size; omega) (fun e => by cases e; omega)
      refine hK.out _ _ ⟨(World.cell?_of_block (w := w6.drew) (a := ⟨g9, 9, none⟩) h97).trans hS0.1, (World.cell?_of_block (w := w6.drew) (a := ⟨gm, 0, none⟩) hgm7).trans hS0.2⟩ (fun _ => ?_)
      clear hK K
      refine seq_done ?_
      obtain ⟨p0, p1, p2, p3, p4, p5, p6, p7, p8, p9, pf⟩ := ten (h97.trans h96)
      have hg2w : g2 < wr.heap.size := (Array.getElem?_eq_some_iff.1 HBX.out).1
      have hold7 : ∀ q, q < wr.heap.size → w7.heap[q]? = wr.heap[q]? := fun q hq => (hg7.block q (by show q < w6.heap.size; omega) (fun e => by cases e; omega)).trans (hold q hq)
      obtain ⟨b0, b1, b2, b3, b4, b5, b6, b7, b8, b9, bf⟩ := ten ((hold7 g2 hg2w).trans HBX.out)
      have hB7 : Below w.heap.size w w7 := hB6.drew.grown hg7 (by show w.heap.size ≤ w6.heap.size; omega) (fun j hj => by cases hj; omega)
      have HB7 := Lib.hid hB7
      have hg2ge : w.heap.size ≤ g2 := by omega
      have hz7 : wr.heap.size ≤ w7.heap.size := by have := hg7.size; have h6 : w6.drew.heap.size = w6.heap.size := rfl; omega
      have HFIN : Hid (∀ v0 v1 v2 v3 v4 v5 v6 v7 v8 v9, RdT (put10 w7 g2 v0 v1 v2 v3 v4 v5 v6 v7 v8 v9) w.heap.size (some ⟨gm, 0, none⟩) faCells X ∧ Below w.heap.size w (put10 w7 g2 v0 v1 v2 v3 v4 v5 v6 v7 v8 v9)) := by
        intro v0 v1 v2 v3 v4 v5 v6 v7 v8 v9
        refine ⟨(HR.out.agree (by rw [put10_size]; exact hz7) (fun q hq hq2 => ?_)).lower hwB, put10_below HB7.out hg2ge _ _ _ _ _ _ _ _ _ _⟩
        have hne : q ≠ g2 := by omega
        exact (put10_other hne _ _ _ _ _ _ _ _ _ _).trans (hold7 q hq2)
      clear hS0 h97 hgm7 hg7 hold hold7 hL6 hoth h96 hB6 hB7 ckc
      go_wp2
      (try simp only [Exit.inBlock, Exit.then])
      exact bodyPost_ret (v := .agg #[.string ⟨#[]⟩, .float .f64 0, .string ⟨#[]⟩, .slice none 0 0, .slice (some ⟨gm, 0, none⟩) X.length c2, .bool false, .string ⟨#[]⟩, .int .u8 4, .pointer (some ⟨l1, 0, none⟩), .pointer (some ⟨l2, 0, none⟩)]) (by simp [results, Try.results32, go_sem, b0, b1, b2, b3, b4, b5, b6, b7, b8, b9]) rfl ⟨_, c2, _, _, rfl, (HFIN.out _ _ _ _ _ _ _ _ _ _).1, (HFIN.out _ _ _ _ _ _ _ _ _ _).2⟩
end Go.Proofs.Ytfnphohdipdmpaa.Rg
