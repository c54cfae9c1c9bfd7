/- The text of an area within the limits: it is read back, by the package and by the specification. -/
import Derived.Test.YtokooampmhcfeaaDoorRSame
import Derived.Test.YtokooampmhcfeaaDoorRSpecName
namespace Go.Proofs.YtokooampmhcfeaaDoor.Rg
open Go.RowKit

/-- The text of an area. -/
def Ar.text (a : Ar) : List UInt8 := areaText false a.p.toNat a.q.toNat a.x.toNat a.y.toNat

theorem Good.nat {a : Ar} (h : Good a) : ∃ p q x y : Nat, a = Nat4 p q x y ∧ a.text = areaText false p q x y ∧ (1 ≤ p ∧ p ≤ 30) ∧ (1 ≤ q ∧ q ≤ 60) ∧ (1 ≤ x ∧ x ≤ 30) ∧ (1 ≤ y ∧ y ≤ 60) := by
  obtain ⟨h1, h2, h3, h4, h5, h6, h7⟩ := h
  obtain ⟨p, q, x, y⟩ := a
  simp only at h1 h2 h3 h4 h5 h6
  refine ⟨p.toNat, q.toNat, x.toNat, y.toNat, ?_, rfl, by omega, by omega, by omega, by omega⟩
  unfold Nat4
  congr 1 <;> omega

theorem text_any (a : Ar) (w : World) (h : Good a) :
    Calls Tryd.prog 18 #[a.val] w fun e w' => e = .returned (.string ⟨a.text.toArray⟩) ∧ Below w.heap.size w w' := by
  obtain ⟨p, q, x, y, rfl, ht, hp, hq, hx, hy⟩ := h.nat
  rw [ht]
  exact spec_area p q x y w (by omega) (by omega) (by omega) (by omega)

theorem Good.range {a : Ar} (h : Good a) : IsRange ⟨a.text.toArray⟩ a.p a.q a.x a.y := by
  obtain ⟨p, q, x, y, rfl, ht, hp, hq, hx, hy⟩ := h.nat
  rw [ht]
  exact areaText_range false p q x y (by omega) (by omega) (by omega) (by omega)

theorem cell_scell (c r : Nat) (h1 : 1 ≤ c) (h2 : c ≤ 16384) (h3 : 1 ≤ r) (h4 : r ≤ 1048576) : SCell ⟨(colName c ++ Lib.decDigits r).toArray⟩ (colName c).length c r := by
  have h := cellText_cell c r h1 h2 h3 h4
  refine ⟨h.name, h.three, h.col_eq, by omega, h.col_le, ?_, by omega, by omega, ?_⟩
  · show ((decVal ((colName c ++ Lib.decDigits r).drop (colName c).length) : Nat) : Int) = r
    rw [List.drop_left, decVal_digits]
  · intro hn
    have hn1 : (colName c).length < (colName c ++ Lib.decDigits r).toArray.size := hn
    have hk' : (colName c).length < (⟨(colName c ++ Lib.decDigits r).toArray⟩ : ByteArray).data.toList.length := by simpa using hn1
    rw [data_get _ _ hn hk']
    have hd := digits_pos r
    refine digits_head r h3 _ ?_
    show (Lib.decDigits r)[0]? = some ((colName c ++ Lib.decDigits r)[(colName c).length]'(by simpa using hk'))
    rw [List.getElem_append_right (Nat.le_refl _), List.getElem?_eq_getElem (by omega)]
    simp

theorem cell_bytes (c r : Nat) : ∀ u ∈ colName c ++ Lib.decDigits r, u.toNat ≠ 32 ∧ u.toNat ≠ 58 := by
  intro u hu
  rcases List.mem_append.1 hu with h | h
  · have := colName_up c u h
    unfold Up at this
    omega
  · have := digits_dig r u h
    unfold Dig at this
    omega

theorem areaText_scell (p q x y : Nat) (hp : 1 ≤ p ∧ p ≤ 16384) (hq : 1 ≤ q ∧ q ≤ 1048576) (hx : 1 ≤ x ∧ x ≤ 16384) (hy : 1 ≤ y ∧ y ≤ 1048576) :
    SArea ⟨(areaText false p q x y).toArray⟩ (colName p ++ Lib.decDigits q) (colName x ++ Lib.decDigits y) (colName p).length (colName x).length p q x y :=
  ⟨rfl, cell_scell p q hp.1 hp.2 hq.1 hq.2, cell_scell x y hx.1 hx.2 hy.1 hy.2⟩

theorem areaText_bytes (p q x y : Nat) : ∀ u ∈ areaText false p q x y, u.toNat ≠ 32 := by
  intro u hu
  unfold areaText cellText at hu
  rcases List.mem_append.1 hu with h | h
  · exact (cell_bytes p q u (by simpa using h)).1
  · rcases List.mem_cons.1 h with rfl | h
    · decide
    · exact (cell_bytes x y u (by simpa using h)).1

theorem Good.text_len {a : Ar} (h : Good a) : 1 ≤ a.text.length ∧ a.text.length ≤ 25 := by
  obtain ⟨p, q, x, y, rfl, ht, hp, hq, hx, hy⟩ := h.nat
  rw [ht]
  have h1 := cellText_len false p q hp.1 (by omega) (by omega)
  have h2 := cellText_len false x y hx.1 (by omega) (by omega)
  unfold areaText
  simp
  omega

theorem gread_any (a : Ar) (w : World) (h : Good a) :
    Calls Tryd.prog 32 #[.string ⟨a.text.toArray⟩] w (ReadPost w [a]) := by
  have hl := h.text_len
  obtain ⟨p, q, x, y, rfl, ht, hp, hq, hx, hy⟩ := h.nat
  rw [ht] at hl ⊢
  have hsz : (⟨(areaText false p q x y).toArray⟩ : ByteArray).size = (areaText false p q x y).length := by
    show (areaText false p q x y).toArray.size = _
    simp
  refine read_any _ _ _ _ _ p q x y w (areaText_scell p q x y (by omega) (by omega) (by omega) (by omega)) (by omega) (by omega) (fun k hk => ?_)
  have hk1 : k < (areaText false p q x y).toArray.size := hk
  have hk' : k < (⟨(areaText false p q x y).toArray⟩ : ByteArray).data.toList.length := by simpa using hk1
  rw [data_get _ _ hk hk']
  exact areaText_bytes p q x y _ (List.getElem_mem _)

/-- The slice reads as the list of texts. -/
def RdS (w : World) (A : Option Addr) (T : List (List UInt8)) : Prop :=
  0 < T.length → ∃ g, A = some ⟨g, 0, none⟩ ∧ g < w.heap.size ∧ ∀ k s, T[k]? = some s → w.cell? ⟨g, k, none⟩ = some (.string ⟨s.toArray⟩)

theorem OwnsS.reads {w : World} {B : Nat} {A : Option Addr} {m c : Nat} {T : List (List UInt8)} (h : OwnsS w B A m c T) : RdS w A T := by
  intro hn
  have ho := h.own
  rcases ho.2 with ⟨h0, h1⟩ | ⟨g, cap, cur, hv, hg⟩
  · have hl := h.len
    omega
  · simp only [Value.slice.injEq] at hv
    obtain ⟨rfl, _, rfl⟩ := hv
    refine ⟨g, rfl, (ho.lt g rfl).2, fun k s hk => ?_⟩
    have := ho.cells (g := g) rfl k (.string ⟨s.toArray⟩) (by simp [strs, hk])
    rwa [addAt] at this

theorem RdS.later {w w' : World} {A : Option Addr} {T : List (List UInt8)} (h : RdS w A T) (hb : Below w.heap.size w w') : RdS w' A T := by
  intro hn
  obtain ⟨g, hA, hg, hc⟩ := h hn
  exact ⟨g, hA, Nat.lt_of_lt_of_le hg hb.size, fun k s hk => (hb.cell (p := ⟨g, k, none⟩) hg).trans (hc k s hk)⟩

/-- The texts of areas. -/
def texts (L : List Ar) : List (List UInt8) := L.map Ar.text

theorem take_flat (L : List Ar) (k : Nat) (a : Ar) (h : L[k]? = some a) : (L.take (k + 1)).flatMap Ar.cells = (L.take k).flatMap Ar.cells ++ a.cells := by
  rw [List.take_add_one, h, List.flatMap_append]
  simp

theorem own_below {w w' : World} {base size n : Nat} {e : TypeId} {v : Value} {xs : List Value} (h : w.ownsRow base e size v n xs) (hb : Below w.heap.size w w') : w'.ownsRow base e size v n xs := by
  refine ⟨h.1, ?_⟩
  rcases h.2 with hn | ⟨g, cap, cur, rfl, hbb, hgg, rest⟩
  · exact .inl hn
  · refine .inr ⟨g, cap, cur, rfl, hbb, ?_, rest⟩
    rw [hb.block g (Array.getElem?_eq_some_iff.1 hgg).1]
    exact hgg

theorem news4 {w : World} {B : Nat} {A : Option Addr} {m c : Nat} {a : Ar} (h : OwnsR w B A m c [a]) : ∃ g, A = some ⟨g, 0, none⟩ ∧ m = 1 ∧ g < w.heap.size ∧ ∀ j u, a.cells[j]? = some u → w.cell? ((⟨g, 0, none⟩ : Addr).add j) = some u := by
  obtain ⟨g, hA, hg, hc⟩ := h.reads (by simp)
  refine ⟨g, hA, h.len, hg, fun j u hu => ?_⟩
  rw [addAt]
  exact hc j u (by simpa using hu)

set_option maxHeartbeats 1600000 in
set_option maxRecDepth 100000 in
theorem sameareas_any (A B : Option Addr) (n c d : Nat) (L : List Ar) (w : World) (hn : n = L.length) (hn2 : n ≤ 100) (hG : ∀ a ∈ L, Good a) (hA : RdS w A (texts L)) (hB : RdS w B (texts L)) :
    Calls Tryd.prog 20 #[.slice A n c, .slice B n d] w fun e w' => e = .returned (.bool true) ∧ Below w.heap.size w w' := by
  obtain ⟨i0, hi, hz0, hz1, hz2⟩ := info_parts infoFour
  have HN := Lib.hid hn
  clear hn
  have HA := Lib.hid hA
  have HB := Lib.hid hB
  have HG := Lib.hid hG
  clear hA hB hG
  go_enter Tryd.func20, Tryd.ntmps20
  go_wp2
  go_loopw [4, 5, 7] (fun r x i wr => ∃ k : Nat, k ≤ n ∧ r = .bool false ∧ i = .int .i64 k ∧ wr.ownsRow w.heap.size 22 4 x k ((L.take k).flatMap Ar.cells) ∧ Below w.heap.size w wr) (fun _ _ i _ => n - (intOf i).toNat)
  case atStart => exact ⟨0, by omega, rfl, rfl, World.ownsRow_nil _ _ _ _, Below.refl _ _⟩
  case round =>
    obtain ⟨k, hk, rfl, rfl, hown, hb⟩ := hrel
    by_cases hlt : k < n
    · have hkL : k < L.length := by rw [← HN.out]; exact hlt
      obtain ⟨g, rfl, hg, hc⟩ := (HA.out.later hb) (by show 0 < (L.map Ar.text).length; rw [List.length_map]; omega)
      have hkL' : L[k]? = some L[k] := List.getElem?_eq_getElem hkL
      have c0 := hc k L[k].text (by simp [texts, hkL'])
      have hgood := HG.out L[k] (List.getElem_mem hkL)
      have HT := Lib.hid (take_flat L k L[k] hkL')
      generalize L[k] = ak at c0 hgood HT
      have i0' : (0 : Int) ≤ (k : Int) := by omega
      have i1' : (k : Int) < (n : Int) := by omega
      clear hc hkL' hkL
      go_wp2_with fail
      refine (gread_any ak _ hgood).mono ?_
      rintro e w1 ⟨A', m, c', rfl, hO, hb1⟩
      obtain ⟨g', rfl, rfl, hg', hnews⟩ := news4 hO
      have hown1 := own_below hown hb1
      have hs := hb.size
      have hs1 := hb1.size
      have hB1 := hb.trans (hb1.mono hs)
      go_wp2_with (at_builtin; refine wpList_append_own _ rfl _ _ 41 rfl w.heap.size 22 i0 _ 4 32 Tryd.underlying41 hi hz0 hz1 hz2 rfl (by decide) _ _ _ rfl hown1 ⟨g', 0, none⟩ 1 c' (Ar.cells ak) rfl rfl hnews (Ar.cells_one _) ?c3 ?c4 ?c5 ?_)
      case c3 => unfold maxLen; omega
      case c4 => omega
      case c5 => omega
      intro v' w2 hown' hgrow _
      have hb2 := hB1.grown hgrow (by omega) (fun j hj => (hown1.lt j hj).1)
      have HO2 := Lib.hid hown'
      clear hgrow hown' hown1 hown hnews
      go_wp2
      go_roundw
      case rel => exact ⟨k + 1, by omega, rfl, by go_num, by rw [HT.out]; exact HO2.out, hb2⟩
      case measure => simp [intOf]; omega
    · obtain rfl : k = n := by omega
      rw [List.take_of_length_le (by have := HN.out; omega)] at hown
      obtain ⟨Ax, cx, rfl⟩ := own_slice hown
      have hrx : Rd4 wr Ax L := (OwnsR.mk (m := k) (c := cx) hown HN.out).reads
      have HRX := Lib.hid hrx
      clear hown hrx
      obtain ⟨wo, rfl⟩ : ∃ wo : World, wo = wr := ⟨_, rfl⟩
      go_wp2
      go_loopw [4, 6, 10] (fun r x i wr => ∃ j : Nat, j ≤ k ∧ r = .bool false ∧ i = .int .i64 j ∧ wr.ownsRow wo.heap.size 22 4 x j ((L.take j).flatMap Ar.cells) ∧ Below wo.heap.size wo wr) (fun _ _ i _ => k - (intOf i).toNat)
      case atStart => exact ⟨0, by omega, rfl, rfl, World.ownsRow_nil _ _ _ _, Below.refl _ _⟩
      case round =>
        obtain ⟨j, hj, rfl, rfl, hown, hbj⟩ := hrel
        by_cases hjk : j < k
        · have hjL : j < L.length := by rw [← HN.out]; exact hjk
          obtain ⟨g, rfl, hg, hc⟩ := ((HB.out.later hb).later hbj) (by show 0 < (L.map Ar.text).length; rw [List.length_map]; omega)
          have hjL' : L[j]? = some L[j] := List.getElem?_eq_getElem hjL
          have c0 := hc j L[j].text (by simp [texts, hjL'])
          have hgood := HG.out L[j] (List.getElem_mem hjL)
          have HT := Lib.hid (take_flat L j L[j] hjL')
          generalize L[j] = aj at c0 hgood HT
          have i0' : (0 : Int) ≤ (j : Int) := by omega
          have i1' : (j : Int) < (k : Int) := by omega
          clear hc hjL' hjL
          go_wp2_with fail
          refine (gread_any aj _ hgood).mono ?_
          rintro e w1 ⟨A', m, c', rfl, hO, hb1⟩
          obtain ⟨g', rfl, rfl, hg', hnews⟩ := news4 hO
          have hown1 := own_below hown hb1
          have hs := hbj.size
          have hs1 := hb1.size
          have hB1 := hbj.trans (hb1.mono hs)
          go_wp2_with (at_builtin; refine wpList_append_own _ rfl _ _ 41 rfl wo.heap.size 22 i0 _ 4 32 Tryd.underlying41 hi hz0 hz1 hz2 rfl (by decide) _ _ _ rfl hown1 ⟨g', 0, none⟩ 1 c' (Ar.cells aj) rfl rfl hnews (Ar.cells_one _) ?c3 ?c4 ?c5 ?_)
          case c3 => unfold maxLen; omega
          case c4 => omega
          case c5 => omega
          intro v' w2 hown' hgrow _
          have hb2 := hB1.grown hgrow (by omega) (fun j hj => (hown1.lt j hj).1)
          have HO2 := Lib.hid hown'
          clear hgrow hown' hown1 hown hnews
          go_wp2
          go_roundw
          case rel => exact ⟨j + 1, by omega, rfl, by go_num, by rw [HT.out]; exact HO2.out, hb2⟩
          case measure => simp [intOf]; omega
        · obtain rfl : j = k := by omega
          rw [List.take_of_length_le (by have := HN.out; omega)] at hown
          obtain ⟨Ay, cy, rfl⟩ := own_slice hown
          have hry : Rd4 wr Ay L := (OwnsR.mk (m := j) (c := cy) hown HN.out).reads
          have hrx := HRX.out.later hbj
          have hB := hb.trans (hbj.mono hb.size)
          clear hown
          go_wp2_with fail
          refine (gsame_any Ax Ay j cx cy L _ HN.out (by omega) hrx hry).mono ?_
          rintro e w3 ⟨rfl, hb3⟩
          go_wp2
          go_ret
          exact ⟨rfl, hB.trans (hb3.mono hB.size)⟩
end Go.Proofs.YtokooampmhcfeaaDoor.Rg
