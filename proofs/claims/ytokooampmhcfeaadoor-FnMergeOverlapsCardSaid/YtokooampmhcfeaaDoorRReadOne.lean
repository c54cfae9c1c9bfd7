/- The specification's reading of one reference, and of a list of references that holds one. -/
import Derived.Test.YtokooampmhcfeaaDoorRSpecRead
import Derived.Test.YtokooampmhcfeaaDoorRGood
namespace Go.Proofs.YtokooampmhcfeaaDoor.Rg
open Go.RowKit

/-- The text is two names of cells with a colon between them. -/
structure SArea (t : ByteArray) (a b : List UInt8) (n m : Nat) (p q x y : Int) : Prop where
  text : t.data.toList = a ++ 58 :: b
  one : SCell ⟨a.toArray⟩ n p q
  two : SCell ⟨b.toArray⟩ m x y

theorem extract_ext {t u : ByteArray} (h : t.data.toList = u.data.toList) : t = u := by
  cases t; cases u
  congr 1
  exact Array.ext' h

set_option maxHeartbeats 1600000 in
set_option maxRecDepth 100000 in
theorem read_one (t : ByteArray) (a b : List UInt8) (n m : Nat) (p q x y : Int) (w : World) (h : SArea t a b n m p q x y) :
    Calls Tryd.prog 42 #[.string t] w fun e w' => e = .returned (.tuple #[(Ar.mk p q x y).val, .bool true]) ∧ Below w.heap.size w w' := by
  obtain ⟨ht, hA, hB⟩ := h
  obtain ⟨L, hL⟩ : ∃ L, L = a.length := ⟨_, rfl⟩
  have hsz : t.size = L + 1 + b.length := by
    have h1 : t.data.toList.length = t.size := by simp
    rw [← h1, ht, hL]
    simp
    omega
  have hb100 : b.length ≤ 100 := by have h1 : b.toArray.size ≤ 100 := hB.name.small; simpa using h1
  have ha100 : L ≤ 100 := by have h1 : a.toArray.size ≤ 100 := hA.name.small; rw [hL]; simpa using h1
  have hts : t.size ≤ 201 := by omega
  have hLs : L < t.size := by omega
  have nA : ∀ u ∈ a, u ≠ 58 := by simpa using hA.name.not_colon
  have nB : ∀ u ∈ b, u ≠ 58 := by simpa using hB.name.not_colon
  have hby : ∀ k (hk : k < t.size), (k < L ∧ t[k] ≠ 58) ∨ (k = L ∧ t[k] = 58) ∨ (L < k ∧ t[k] ≠ 58) := by
    intro k hk
    have hk' : k < t.data.toList.length := by simpa using hk
    rw [data_get t k hk hk']
    have hg : t.data.toList[k]? = (a ++ 58 :: b)[k]? := by rw [ht]
    rw [List.getElem?_eq_getElem hk'] at hg
    rcases Nat.lt_trichotomy k L with h1 | h1 | h1
    · left
      rw [List.getElem?_append_left (by omega), List.getElem?_eq_getElem (by omega)] at hg
      injection hg with hg
      exact ⟨h1, by rw [hg]; exact nA _ (List.getElem_mem _)⟩
    · right; left
      rw [List.getElem?_append_right (by omega), show k - a.length = 0 by omega] at hg
      injection hg with hg
      exact ⟨h1, hg⟩
    · right; right
      rw [List.getElem?_append_right (by omega), show k - a.length = (k - L - 1) + 1 by omega, List.getElem?_cons_succ, List.getElem?_eq_getElem (by omega)] at hg
      injection hg with hg
      exact ⟨h1, by rw [hg]; exact nB _ (List.getElem_mem _)⟩
  have HBY := Lib.hid hby
  have e1 : (⟨a.toArray⟩ : ByteArray) = t.extract 0 L := by
    apply extract_ext
    rw [Lib.extract_data, ht, hL]
    simp
  have e2 : (⟨b.toArray⟩ : ByteArray) = t.extract (L + 1) t.size := by
    apply extract_ext
    rw [Lib.extract_to_end, ht, hL]
    simp [← List.drop_drop]
  have H1 := fun w => spec_read ⟨a.toArray⟩ n p q w hA
  have H2 := fun w => spec_read ⟨b.toArray⟩ m x y w hB
  rw [e1] at H1
  rw [e2] at H2
  have HH1 := Lib.hid H1
  have HH2 := Lib.hid H2
  have HSZ := Lib.hid hsz
  clear H1 H2 e1 e2 hby nA nB ht hA hB hsz hL
  have hne : ((L : Int) == (t.size : Int)) = false := by rw [beq_eq_false_iff_ne]; omega
  have FZ := Four.made w 0 0 0 0 22
  obtain ⟨wA, hA⟩ : ∃ wA, wA = w.alloc (.cells #[.int .i64 0, .int .i64 0, .int .i64 0, .int .i64 0] 22) := ⟨_, rfl⟩
  rw [← hA] at FZ
  go_enter Tryd.func42, Tryd.ntmps42
  go_upto_region 1 with fail
  rw [← hA]
  generalize w.heap.size = g at FZ ⊢
  clear hA
  go_wp2
  go_loop [4, 5] (fun c i => ∃ k : Nat, k ≤ t.size ∧ i = .int .i64 k ∧ ((k ≤ L ∧ c = .int .i64 t.size) ∨ (L < k ∧ c = .int .i64 L))) (fun _ i => t.size - (intOf i).toNat)
  case atStart => exact ⟨0, by omega, rfl, .inl ⟨by omega, rfl⟩⟩
  case round =>
    obtain ⟨k, hk, rfl, hc⟩ := hrel
    by_cases hlt : k < t.size
    · have hbk := HBY.out k hlt
      rcases hbk with ⟨h1, h2⟩ | ⟨h1, h2⟩ | ⟨h1, h2⟩
      · obtain ⟨h3, rfl⟩ : k ≤ L ∧ _ := by
          rcases hc with hc | hc
          · exact hc
          · omega
        have b1 : ((t[k].toNat : Int) == 58) = false := by
          rw [beq_eq_false_iff_ne]
          intro e
          exact h2 (UInt8.toNat_inj.1 (by show t[k].toNat = 58; omega))
        clear h2
        go_wp2
        go_round
        case rel => exact ⟨k + 1, by omega, by go_num, .inl ⟨by omega, rfl⟩⟩
        case measure => simp [intOf]; omega
      · obtain ⟨h3, rfl⟩ : k ≤ L ∧ _ := by
          rcases hc with hc | hc
          · exact hc
          · omega
        have b1 : ((t[k].toNat : Int) == 58) = true := by
          rw [h2]
          rfl
        have b2 : ((t.size : Int) == (t.size : Int)) = true := by simp
        clear h2
        have HK := Lib.hid h1
        clear h1
        go_wp2
        go_round
        case rel => exact ⟨k + 1, by omega, by go_num, .inr ⟨by have := HK.out; omega, by rw [HK.out]⟩⟩
        case measure => simp [intOf]; omega
      · obtain ⟨h3, rfl⟩ : L < k ∧ _ := by
          rcases hc with hc | hc
          · omega
          · exact hc
        have b1 : ((t[k].toNat : Int) == 58) = false := by
          rw [beq_eq_false_iff_ne]
          intro e
          exact h2 (UInt8.toNat_inj.1 (by show t[k].toNat = 58; omega))
        clear h2
        go_wp2
        go_round
        case rel => exact ⟨k + 1, by omega, by go_num, .inr ⟨by omega, rfl⟩⟩
        case measure => simp [intOf]; omega
    · obtain ⟨h3, rfl⟩ : L < k ∧ _ := by
        rcases hc with hc | hc
        · omega
        · exact hc
      clear h3
      have i1 : (L : Int) ≤ (t.size : Int) := by omega
      have i2 : (L : Int) + 1 ≤ (t.size : Int) := by omega
      have i3 : (0 : Int) ≤ (L : Int) + 1 := by omega
      go_wp2_with fail
      refine (HH1.out _).mono ?_
      rintro e w' ⟨rfl, rfl⟩
      go_wp2_with fail
      refine (HH2.out _).mono ?_
      rintro e w' ⟨rfl, rfl⟩
      have c0 := FZ.c0
      have c1 := FZ.c1
      have c2 := FZ.c2
      have c3 := FZ.c3
      have f0 := FZ.free 0
      have f1 := FZ.free 1
      have f2 := FZ.free 2
      have f3 := FZ.free 3
      go_wp2
      have FE := (((FZ.set0 p).set1 q).set2 x).set3 y
      clear c0 c1 c2 c3 f0 f1 f2 f3 FZ
      generalize (((wA.setCell ⟨g, 0, none⟩ (.int .i64 p)).setCell ⟨g, 1, none⟩ (.int .i64 q)).setCell ⟨g, 2, none⟩ (.int .i64 x)).setCell ⟨g, 3, none⟩ (.int .i64 y) = wE at *
      have c0 := FE.c0
      have c1 := FE.c1
      have c2 := FE.c2
      have c3 := FE.c3
      exact bodyPost_ret (v := .tuple #[.agg #[.int .i64 p, .int .i64 q, .int .i64 x, .int .i64 y], .bool true]) (by simp [results, Tryd.results42, go_sem, c0, c1, c2, c3]) rfl ⟨rfl, FE.below⟩

/-- The cells of a list of areas. -/
def Ar.cells (a : Ar) : List Value := [.int .i64 a.p, .int .i64 a.q, .int .i64 a.x, .int .i64 a.y]
theorem Ar.cells_len (a : Ar) : a.cells.length = 4 := rfl
theorem Ar.cells_one (a : Ar) : ∀ u ∈ a.cells, u.oneCell' = true := four_one a.p a.q a.x a.y

/-- The slice is an owned list of areas. -/
structure OwnsR (w : World) (B : Nat) (A : Option Addr) (m c : Nat) (L : List Ar) : Prop where
  own : w.ownsRow B 22 4 (.slice A m c) m (L.flatMap Ar.cells)
  len : m = L.length

theorem infoFour : (Tryd.prog.info? 22).map (fun i => (i.zero, i.size, i.bytes)) = some (some (.agg #[.int .i64 0, .int .i64 0, .int .i64 0, .int .i64 0]), 4, 32) := by kernel_rfl

def ReadPost (w : World) (L : List Ar) (e : Ending) (w' : World) : Prop := ∃ (A : Option Addr) (m c : Nat), e = .returned (.tuple #[.slice A m c, .bool true]) ∧ OwnsR w' w.heap.size A m c L ∧ Below w.heap.size w w'

/-- Where the reading stands: ahead of the end nothing was read; behind it the one area. -/
def ReadRel (t : ByteArray) (w : World) (r : Ar) (o f i : Value) (wr : World) : Prop :=
  (∃ k : Nat, k ≤ t.size ∧ i = .int .i64 k ∧ o = .slice none 0 0 ∧ f = .int .i64 0 ∧ wr = w) ∨ (i = .int .i64 ((t.size : Int) + 1) ∧ ∃ A c, o = .slice A 1 c ∧ OwnsR wr w.heap.size A 1 c [r] ∧ Below w.heap.size w wr)

set_option maxHeartbeats 1600000 in
set_option maxRecDepth 100000 in
theorem read_any (t : ByteArray) (a b : List UInt8) (n m : Nat) (p q x y : Int) (w : World) (h : SArea t a b n m p q x y) (hts : t.size ≤ 1000) (h1 : 1 ≤ t.size) (hsp : ∀ k (hk : k < t.size), t[k].toNat ≠ 32) :
    Calls Tryd.prog 32 #[.string t] w (ReadPost w [⟨p, q, x, y⟩]) := by
  obtain ⟨i0, hi, hz0, hz1, hz2⟩ := info_parts infoFour
  have HSP := Lib.hid hsp
  clear hsp
  have HO := Lib.hid (fun w => read_one t a b n m p q x y w h)
  clear h
  go_enter Tryd.func32, Tryd.ntmps32
  go_wp2
  go_loopw [4, 5, 6] (ReadRel t w ⟨p, q, x, y⟩) (fun _ _ i _ => t.size + 1 - (intOf i).toNat)
  case atStart => exact .inl ⟨0, by omega, rfl, rfl, rfl, rfl⟩
  case round =>
    rcases hrel with ⟨k, hk, rfl, rfl, rfl, rfl⟩ | ⟨rfl, A, c, rfl, hO, hB⟩
    · by_cases hlt : k < t.size
      · have b1 : ((t[k].toNat : Int) != 32) = true := by
          rw [bne_iff_ne]
          have := HSP.out k hlt
          omega
        go_wp2
        go_roundw
        case rel => exact .inl ⟨k + 1, by omega, by go_num, rfl, rfl, rfl⟩
        case measure => simp [intOf]; omega
      · obtain rfl : k = t.size := by omega
        have i1 : (0 : Int) < (t.size : Int) := by omega
        go_wp2_with fail
        refine (HO.out _).mono ?_
        rintro e w1 ⟨rfl, hb1⟩
        have hsz := hb1.size
        simp only [Ar.val]
        go_wp2_with (at_builtin; refine wpList_append_own _ rfl _ _ 41 rfl wr.heap.size 22 i0 _ 4 32 Tryd.underlying41 hi hz0 hz1 hz2 rfl (by decide) _ 0 [] rfl (World.ownsRow_nil _ _ _ _) ⟨w1.heap.size + 1, 0, none⟩ 1 1 (Ar.cells ⟨p, q, x, y⟩) rfl rfl ?c1 (Ar.cells_one _) ?c3 ?c4 ?c5 ?_)
        case c1 => exact newAt _ (Ar.cells ⟨p, q, x, y⟩) _ _ (by simp)
        case c3 => unfold maxLen; omega
        case c4 => omega
        case c5 => simp <;> omega
        intro v' w2 hown' hgrow _
        have hb := ((hb1.alloc hsz _).alloc (by simp; omega) _).grown hgrow (by simp; omega) (fun j hj => by simp [Value.ownBlock] at hj)
        have HO2 := Lib.hid hown'
        clear hgrow hown'
        go_wp2
        go_roundw
        case rel =>
          obtain ⟨A', c', he⟩ := own_slice HO2.out
          have h2 := HO2.out
          rw [he] at h2
          exact .inr ⟨by go_num, A', c', he, ⟨h2, rfl⟩, hb⟩
        case measure => simp [intOf] <;> omega
    · go_wp2
      go_ret2
      exact ⟨A, 1, c, rfl, hO, hB⟩
end Go.Proofs.YtokooampmhcfeaaDoor.Rg
