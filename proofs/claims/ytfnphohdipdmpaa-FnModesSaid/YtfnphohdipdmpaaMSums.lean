/- Rows of one value each; the numbers as a column; the reference's mode of numbers. -/
import Derived.Test.YtfnphohdipdmpaaMModeW
namespace Go.Proofs.Ytfnphohdipdmpaa.Rg
open Go.RowKit

theorem infoVal : (Try.prog.info? 26).map (fun i => (i.zero, i.size, i.bytes)) = some (some (.agg #[.int .i64 0, .int .i64 0, .int .i64 0, .string ⟨#[]⟩, .slice none 0 0]), 5, 64) := by kernel_rfl
theorem infoVals : (Try.prog.info? 36).map (fun i => (i.zero, i.size, i.bytes)) = some (some (.slice none 0 0), 1, 24) := by kernel_rfl

/-- A slice of one element. -/
def oneS (s : Nat × Nat) : Value := .slice (some ⟨s.1, 0, none⟩) 1 s.2

/-- The slice v is rows of one element each, whose cells f tells. -/
structure Tb (w : World) (B : Nat) (te e : TypeId) (f : Int → List Value) (v : Value) (X : List Int) (S : List (Nat × Nat)) : Prop where
  own : w.ownsRow B te 1 v X.length (S.map oneS)
  len : S.length = X.length
  inner : ∀ (k : Nat) s x, S[k]? = some s → X[k]? = some x → B ≤ s.1 ∧ Tag w s.1 e ∧ ∀ j u, (f x)[j]? = some u → w.cell? ⟨s.1, j, none⟩ = some u

theorem Tb.nil (w : World) (B : Nat) (te e : TypeId) (f : Int → List Value) : Tb w B te e f (.slice none 0 0) [] [] := ⟨World.ownsRow_nil _ _ _ _, rfl, by simp⟩

theorem Tb.keep {w w' : World} {B : Nat} {te e : TypeId} {f : Int → List Value} {v : Value} {X : List Int} {S : List (Nat × Nat)} (h : Tb w B te e f v X S) (hb : Below w.heap.size w w') : Tb w' B te e f v X S :=
  ⟨own_below h.own hb, h.len, fun k s x h1 h2 => by
    obtain ⟨hB, ht, hc⟩ := h.inner k s x h1 h2
    exact ⟨hB, ht.below hb, fun j u hj => (hb.cell (p := ⟨s.1, j, none⟩) ht.lt).trans (hc j u hj)⟩⟩

theorem Tb.push {w w' : World} {B : Nat} {te e : TypeId} {f : Int → List Value} {v v' : Value} {X : List Int} {S : List (Nat × Nat)} {x : Int} {s : Nat × Nat} (h : Tb w B te e f v X S) (hne : e ≠ te) (hB : B ≤ s.1) (ht : Tag w s.1 e) (hc : ∀ j u, (f x)[j]? = some u → w.cell? ⟨s.1, j, none⟩ = some u)
    (hown : w'.ownsRow B te 1 v' (X.length + 1) (S.map oneS ++ [oneS s])) (hg : w.grownBy w' v.ownBlock) : Tb w' B te e f v' (X ++ [x]) (S ++ [s]) := by
  have hk := KeepBut.grown hg h.own
  refine ⟨by rw [List.map_append, List.length_append]; exact hown, by rw [List.length_append, List.length_append, h.len]; rfl, fun k t z h1 h2 => ?_⟩
  by_cases hkl : k < S.length
  · rw [List.getElem?_append_left hkl] at h1
    rw [List.getElem?_append_left (by rw [← h.len]; exact hkl)] at h2
    obtain ⟨hB', ht', hc'⟩ := h.inner k t z h1 h2
    have hs := hk t.1 e hne ht'
    exact ⟨hB', ht'.of_block hs, fun j u hj => hs.cell.trans (hc' j u hj)⟩
  · have hk2 : k = S.length := by
      have := (List.getElem?_eq_some_iff.1 h1).1
      simp at this
      omega
    subst hk2
    rw [List.getElem?_append_right (Nat.le_refl _)] at h1
    rw [h.len, List.getElem?_append_right (Nat.le_refl _)] at h2
    simp at h1 h2
    subst h1
    subst h2
    have hs := hk s.1 e hne ht
    exact ⟨hB, ht.of_block hs, fun j u hj => hs.cell.trans (hc j u hj)⟩

/-- The slice reads as rows of one element each, in blocks from B on. -/
def RdT (w : World) (B : Nat) (A : Option Addr) (f : Int → List Value) (X : List Int) : Prop :=
  0 < X.length → ∃ g, A = some ⟨g, 0, none⟩ ∧ B ≤ g ∧ g < w.heap.size ∧ ∀ (k : Nat) (x : Int), X[k]? = some x → ∃ gk ck, w.cell? ⟨g, k, none⟩ = some (.slice (some ⟨gk, 0, none⟩) 1 ck) ∧ B ≤ gk ∧ gk < w.heap.size ∧ ∀ j u, (f x)[j]? = some u → w.cell? ⟨gk, j, none⟩ = some u
theorem RdT.agree {w w' : World} {B : Nat} {A : Option Addr} {f : Int → List Value} {X : List Int} (h : RdT w B A f X) (hz : w.heap.size ≤ w'.heap.size) (hb : ∀ k, B ≤ k → k < w.heap.size → w'.heap[k]? = w.heap[k]?) : RdT w' B A f X := by
  intro hn
  obtain ⟨g, hA, hB, hg, hc⟩ := h hn
  refine ⟨g, hA, hB, Nat.lt_of_lt_of_le hg hz, fun k x hk => ?_⟩
  obtain ⟨gk, ck, c1, hBk, hl, hf⟩ := hc k x hk
  exact ⟨gk, ck, (World.cell?_of_block (w := w) (a := ⟨g, k, none⟩) (hb g hB hg)).trans c1, hBk, Nat.lt_of_lt_of_le hl hz, fun j u hj => (World.cell?_of_block (w := w) (a := ⟨gk, j, none⟩) (hb gk hBk hl)).trans (hf j u hj)⟩
theorem RdT.later {w w' : World} {B : Nat} {A : Option Addr} {f : Int → List Value} {X : List Int} (h : RdT w B A f X) (hb : Below w.heap.size w w') : RdT w' B A f X := h.agree hb.size (fun k _ hk => hb.block k hk)
theorem RdT.lower {w : World} {B B' : Nat} {A : Option Addr} {f : Int → List Value} {X : List Int} (h : RdT w B A f X) (hB : B' ≤ B) : RdT w B' A f X := by
  intro hn
  obtain ⟨g, hA, hBg, hg, hc⟩ := h hn
  refine ⟨g, hA, Nat.le_trans hB hBg, hg, fun k x hk => ?_⟩
  obtain ⟨gk, ck, c1, hBk, hl, hf⟩ := hc k x hk
  exact ⟨gk, ck, c1, Nat.le_trans hB hBk, hl, hf⟩
theorem Tb.reads {w : World} {B : Nat} {te e : TypeId} {f : Int → List Value} {A : Option Addr} {n c : Nat} {X : List Int} {S : List (Nat × Nat)} (h : Tb w B te e f (.slice A n c) X S) : RdT w B A f X := by
  intro hn
  obtain ⟨g, cap, hv, _⟩ := h.own.form hn
  injection hv with hA hm hc
  subst hA
  have hl := h.own.lt g (by rw [hm, hc]; rfl)
  refine ⟨g, rfl, hl.1, hl.2, fun k x hk => ?_⟩
  have hkS : k < S.length := by rw [h.len]; exact (List.getElem?_eq_some_iff.1 hk).1
  obtain ⟨hB, ht, hc1⟩ := h.inner k S[k] x (List.getElem?_eq_getElem hkS) hk
  have h0 := h.own.cells (g := g) (by rw [hm, hc]; rfl) k (oneS S[k]) (by simp [hkS])
  rw [addAt] at h0
  exact ⟨S[k].1, S[k].2, h0, hB, ht.lt, hc1⟩

def ColPost (w : World) (X : List Int) (e : Ending) (w' : World) : Prop := ∃ (A : Option Addr) (c : Nat), e = .returned (.agg #[.int .i64 5, .int .i64 0, .int .i64 0, .string ⟨#[]⟩, .slice A X.length c]) ∧ RdT w' w.heap.size A svCells X ∧ Below w.heap.size w w'

set_option maxHeartbeats 6400000 in
set_option maxRecDepth 100000 in
theorem column_any (A : Option Addr) (n c : Nat) (X : List Int) (w : World) (hn : n = X.length) (hn2 : n ≤ 100) (hX : ∀ x ∈ X, -9 ≤ x ∧ x ≤ 9) (hA : RdI w A X) :
    Calls Try.prog 9 #[.slice A n c] w (ColPost w X) := by
  obtain ⟨i1, hi1, hi1z, hi1s, hi1b⟩ := info_parts infoVals
  have HN := Lib.hid hn
  have HA := Lib.hid hA
  have HX := Lib.hid hX
  have hw0 : Below w.heap.size w (w.alloc (.cells #[.int .i64 0, .int .i64 0, .int .i64 0, .string ⟨#[]⟩, .slice none 0 0] 26)) := (Below.refl _ _).alloc (Nat.le_refl _) _
  have hbx : (w.alloc (.cells #[.int .i64 0, .int .i64 0, .int .i64 0, .string ⟨#[]⟩, .slice none 0 0] 26)).heap[w.heap.size]? = some (.cells #[.int .i64 0, .int .i64 0, .int .i64 0, .string ⟨#[]⟩, .slice none 0 0] 26 (0, 0)) := heap_alloc_new w _
  have HBX := Lib.hid hbx
  have HW0 := Lib.hid hw0
  clear hn hA hX hbx hw0
  go_enter Try.func9, Try.ntmps9
  go_wp2
  generalize w.alloc (.cells #[.int .i64 0, .int .i64 0, .int .i64 0, .string ⟨#[]⟩, .slice none 0 0] 26) = w0 at *
  have hg2 : w.heap.size < w0.heap.size := (Array.getElem?_eq_some_iff.1 HBX.out).1
  obtain ⟨g2, hG2⟩ : ∃ g2, w.heap.size = g2 := ⟨_, rfl⟩
  rw [hG2] at HBX ⊢
  go_loopw [3, 4] (fun x i wr => ∃ (k : Nat) (S : List (Nat × Nat)), k ≤ n ∧ i = .int .i64 k ∧ Hid (Tb wr w0.heap.size 36 26 svCells x (X.take k) S) ∧ Below w0.heap.size w0 wr) (fun _ i _ => n - (intOf i).toNat)
  case atStart => exact ⟨0, [], by omega, rfl, Tb.nil _ _ _ _ _, Below.refl _ _⟩
  case round =>
    obtain ⟨k, S, hk, rfl, HT, hb⟩ := hrel
    have hXl : (X.take k).length = k := by rw [List.length_take]; have := HN.out; omega
    by_cases hkn : k < n
    · obtain ⟨x, hx⟩ : ∃ x, X[k]? = some x := ⟨_, List.getElem?_eq_getElem (by have := HN.out; omega)⟩
      obtain ⟨g, rfl, hg, hc⟩ := (HA.out.later (HW0.out.trans (hb.mono (by omega)))) (by have := HN.out; omega)
      have c0 := hc k x hx
      have hxr := HX.out x (List.mem_of_getElem? hx)
      have HTK : Hid (X.take (k + 1) = X.take k ++ [x]) := by
        show X.take (k + 1) = X.take k ++ [x]
        rw [List.take_add_one, hx]
        rfl
      have i0' : (0 : Int) ≤ (k : Int) := by omega
      have i1' : (k : Int) < (n : Int) := by omega
      have IV := Lib.hid (fun w => int_any x w (by omega) (by omega))
      clear hc
      have HXK := Lib.hid hx
      clear hx
      go_wp2_with fail
      refine (IV.out _).mono ?_
      rintro e w1 ⟨rfl, hb1⟩
      unfold sv
      have hT1 := HT.out.keep (hb1.trans (((Below.refl _ _).alloc (Nat.le_refl _) (.cells #[.int .i64 1, .int .i64 x, .int .i64 1, .string ⟨#[]⟩, .slice none 0 0] 26)).mono hb1.size))
      have hTg : Tag (w1.alloc (.cells #[.int .i64 1, .int .i64 x, .int .i64 1, .string ⟨#[]⟩, .slice none 0 0] 26)) w1.heap.size 26 := Tag.made w1 _ _ _ rfl
      have hcs : ∀ j u, (svCells x)[j]? = some u → (w1.alloc (.cells #[.int .i64 1, .int .i64 x, .int .i64 1, .string ⟨#[]⟩, .slice none 0 0] 26)).cell? ⟨w1.heap.size, j, none⟩ = some u := by
        intro j u hj
        have := newAt w1 (svCells x) 26 w1.heap.size rfl j u hj
        rwa [addAt] at this
      have hB1 := hb.trans ((hb1.trans (((Below.refl _ _).alloc (Nat.le_refl _) (.cells #[.int .i64 1, .int .i64 x, .int .i64 1, .string ⟨#[]⟩, .slice none 0 0] 26)).mono hb1.size)).mono hb.size)
      have hBw : w0.heap.size ≤ w1.heap.size := Nat.le_trans hb.size hb1.size
      have hown := hT1.own
      rw [hXl] at hown
      have hbs := hB1.size
      clear c0 HT
      go_wp2_with (at_builtin; refine wpList_append_own _ rfl _ _ 24 rfl w0.heap.size 36 i1 _ 1 24 Try.underlying24 hi1 hi1z hi1s hi1b rfl (by decide) _ _ _ rfl (hown.alloc _) ⟨w1.heap.size + 1, 0, none⟩ 1 1 [oneS (w1.heap.size, 1)] rfl rfl ?c1 ?c2 ?c3 ?c4 ?c5 ?_)
      case c1 => exact newAt _ [oneS (w1.heap.size, 1)] _ _ (by simp)
      case c2 => intro u hu; simp at hu; subst hu; rfl
      case c3 => unfold maxLen; omega
      case c4 => omega
      case c5 => simp at hbs ⊢; omega
      intro v' w2 hown' hgrow _
      have hb2 : Below w0.heap.size w0 w2 := (hB1.alloc hbs _).grown hgrow (by simp at hbs ⊢; omega) (fun j hj => (hown.lt j hj).1)
      have hal := (Below.refl (w1.alloc (.cells #[.int .i64 1, .int .i64 x, .int .i64 1, .string ⟨#[]⟩, .slice none 0 0] 26)).heap.size (w1.alloc (.cells #[.int .i64 1, .int .i64 x, .int .i64 1, .string ⟨#[]⟩, .slice none 0 0] 26))).alloc (Nat.le_refl _) (.cells #[oneS (w1.heap.size, 1)] 36)
      have HT2 := Lib.hid ((hT1.keep hal).push (x := x) (s := (w1.heap.size, 1)) (by decide) hBw (hTg.below hal) (fun j u hj => (hal.cell (p := ⟨w1.heap.size, j, none⟩) hTg.lt).trans (hcs j u hj)) (by rw [hXl]; exact hown') hgrow)
      clear hgrow hown' hown hT1 hTg hcs hal hB1 hbs hb1
      rw [← HTK.out] at HT2
      go_wp2
      go_roundw
      case rel => exact ⟨k + 1, S ++ [(w1.heap.size, 1)], by omega, by go_num, HT2, hb2⟩
      case measure => simp [intOf]; omega
    · obtain rfl : k = n := by omega
      have hT := HT.out
      rw [List.take_of_length_le (by have := HN.out; omega)] at hT
      obtain ⟨A2, c2, he⟩ := own_slice hT.own
      subst he
      have HR := Lib.hid hT.reads
      have HBX2 := Lib.hid ((hb.block g2 (by omega)).trans HBX.out)
      have HB := Lib.hid (HW0.out.trans (hb.mono (by omega)))
      clear hT HT hb HBX HW0
      go_wp2_with fail
      refine (table_any _ _ _ _).mono ?_
      rintro e w3 ⟨rfl, hb3⟩
      have hbx3 := (hb3.block g2 (Array.getElem?_eq_some_iff.1 HBX2.out).1).trans HBX2.out
      obtain ⟨s0, s1, s2, s3, s4, sf⟩ := five hbx3
      have HB3 := Lib.hid (HB.out.trans (hb3.mono HB.out.size))
      have HR3 := Lib.hid (HR.out.later hb3)
      have hg0le : g2 + 1 ≤ w0.heap.size := by omega
      clear hb3 hbx3 HB HR HBX2
      go_wp2
      (try simp only [Exit.inBlock, Exit.then])
      have hge : w.heap.size ≤ g2 := by omega
      have hput : Below w.heap.size w3 (((((w3.setCell ⟨g2, 0, none⟩ (.int .i64 5)).setCell ⟨g2, 1, none⟩ (.int .i64 0)).setCell ⟨g2, 2, none⟩ (.int .i64 0)).setCell ⟨g2, 3, none⟩ (.string ⟨#[]⟩)).setCell ⟨g2, 4, none⟩ (.slice A2 X.length c2)) := (((((Below.refl _ _).setCell hge _).setCell hge _).setCell hge _).setCell hge _).setCell hge _
      have HRF : RdT (((((w3.setCell ⟨g2, 0, none⟩ (.int .i64 5)).setCell ⟨g2, 1, none⟩ (.int .i64 0)).setCell ⟨g2, 2, none⟩ (.int .i64 0)).setCell ⟨g2, 3, none⟩ (.string ⟨#[]⟩)).setCell ⟨g2, 4, none⟩ (.slice A2 X.length c2)) w.heap.size A2 svCells X := by
        have h1 : RdT w3 (g2 + 1) A2 svCells X := HR3.out.lower hg0le
        have h2 : RdT (((((w3.setCell ⟨g2, 0, none⟩ (.int .i64 5)).setCell ⟨g2, 1, none⟩ (.int .i64 0)).setCell ⟨g2, 2, none⟩ (.int .i64 0)).setCell ⟨g2, 3, none⟩ (.string ⟨#[]⟩)).setCell ⟨g2, 4, none⟩ (.slice A2 X.length c2)) (g2 + 1) A2 svCells X := by
          refine h1.agree (by simp [World.setCell]) (fun k hk _ => ?_)
          have hne : k ≠ g2 := by omega
          exact set5_other _ _ _ _ _ hne
        exact h2.lower (by omega)
      refine bodyPost_ret (v := .agg #[.int .i64 5, .int .i64 0, .int .i64 0, .string ⟨#[]⟩, .slice A2 X.length c2]) (by simp [results, Try.results9, go_sem, s0, s1, s2, s3, s4]) rfl ⟨A2, c2, rfl, HRF, HB3.out.trans hput⟩
end Go.Proofs.Ytfnphohdipdmpaa.Rg
