/- The tokens of lists and of calls. -/
import Derived.Test.YtfeffdjnjckjaaaGreatDoorJBrack
/- The tokens of a call, out of its arguments' tokens. -/
namespace Go.Proofs.YtfeffdjnjckjaaaGreatDoor.Rg
open Go.RowKit

/-- Lists of tokens, a comma ahead of each. -/
def sepL : List (List Tk) → List Tk
  | [] => []
  | l :: r => kArg :: (l ++ sepL r)
theorem sepL_app : ∀ (a b : List (List Tk)), sepL (a ++ b) = sepL a ++ sepL b
  | [], b => rfl
  | l :: a, b => by
    show kArg :: (l ++ sepL (a ++ b)) = kArg :: (l ++ sepL a) ++ sepL b
    rw [sepL_app a b]
    simp
theorem sepL_map : ∀ kids : List Ex, sepL (kids.map (tok 1)) = tokM kids
  | [] => by rw [tokM]; rfl
  | x :: l => by
    rw [tokM, List.map_cons]
    show kArg :: (tok 1 x ++ sepL (l.map (tok 1))) = _
    rw [sepL_map l]
/-- Rows of tokens in a row. -/
def RowsT (w : World) (B : Nat) (A : Option Addr) (Ls : List (List Tk)) : Prop :=
  ∀ (i : Nat) (l : List Tk), Ls[i]? = some l → ∃ g Ai ci, A = some ⟨g, 0, none⟩ ∧ g < w.heap.size ∧ w.cell? ⟨g, i, none⟩ = some (.slice Ai l.length ci) ∧ Tks w B 45 (.slice Ai l.length ci) l
theorem RowsT.below {w w' : World} {B : Nat} {A : Option Addr} {Ls : List (List Tk)} (h : RowsT w B A Ls) (hb : Below w.heap.size w w') : RowsT w' B A Ls := by
  intro i l hi
  obtain ⟨g, Ai, ci, h1, h2, h3, h4⟩ := h i l hi
  exact ⟨g, Ai, ci, h1, Nat.lt_of_lt_of_le h2 hb.size, (hb.cell (p := ⟨g, i, none⟩) h2).trans h3, h4.below hb⟩

/-- What is made so far. -/
def outT (t : List UInt8) (Ls : List (List Tk)) (i : Nat) : List Tk := kFun t :: (sepL (Ls.take i)).tail
theorem outT_zero (t : List UInt8) (Ls : List (List Tk)) : outT t Ls 0 = [kFun t] := rfl
theorem take_snoc {α : Type} (L : List α) (i : Nat) (l : α) (h : L[i]? = some l) : L.take (i + 1) = L.take i ++ [l] := by
  rw [List.take_add_one, h]
  rfl
theorem outT_first (t : List UInt8) (Ls : List (List Tk)) (l : List Tk) (h : Ls[0]? = some l) : outT t Ls 1 = outT t Ls 0 ++ l := by
  unfold outT
  rw [take_snoc Ls 0 l h]
  show kFun t :: (kArg :: (l ++ [])).tail = _
  simp [sepL]
theorem outT_next (t : List UInt8) (Ls : List (List Tk)) (i : Nat) (l : List Tk) (hi : 0 < i) (h : Ls[i]? = some l) : outT t Ls (i + 1) = outT t Ls i ++ [kArg] ++ l := by
  have hne : sepL (Ls.take i) ≠ [] := by
    cases Ls with
    | nil => simp at h
    | cons a r =>
      cases i with
      | zero => omega
      | succ i => simp [sepL]
  unfold outT
  rw [take_snoc Ls i l h, sepL_app, List.tail_append_of_ne_nil hne]
  simp [sepL]
theorem outT_le (t : List UInt8) (Ls : List (List Tk)) (i : Nat) : (outT t Ls i).length ≤ 1 + (sepL Ls).length := by
  have h : (sepL (Ls.take i)).length ≤ (sepL Ls).length := by
    conv => rhs; rw [← List.take_append_drop i Ls, sepL_app]
    simp
  unfold outT
  simp
  omega

set_option maxHeartbeats 16000000 in
set_option maxRecDepth 100000 in
theorem function_any (t : List UInt8) (A : Option Addr) (c B : Nat) (Ls : List (List Tk)) (w : World) (hr : RowsT w B A Ls) (hn : (sepL Ls).length ≤ 9000) (hm : Ls.length ≤ 9000) :
    Calls Tryz.prog 30 #[.string (bs t), .slice A Ls.length c] w (TokPost w 45 (kFun t :: ((sepL Ls).tail ++ [kEnd]))) := by
  have HE : Hid (kFun t :: ((sepL Ls).tail ++ [kEnd]) = outT t Ls Ls.length ++ [kEnd]) := Lib.hid (by unfold outT; rw [List.take_length]; simp)
  rw [HE.out]
  have HR := Lib.hid hr
  have HN := Lib.hid hn
  have HLE := Lib.hid (outT_le t Ls)
  obtain ⟨g0, hg0⟩ : ∃ g0, w.heap.size = g0 := ⟨_, rfl⟩
  have HT0 := Lib.hid (Tks.made w (kFun t) 45)
  have HG0 := Lib.hid hg0
  clear hr hn hg0 HE
  go_enter Tryz.func30, Tryz.ntmps30
  go_upto_region 3 with fail
  go_loopw [12, 5] (fun i s wr => ∃ (k : Nat) (Ax : Option Addr) (nx cx : Nat), i = .int .i64 k ∧ s = .slice Ax nx cx ∧ k ≤ Ls.length ∧ Hid (nx = (outT t Ls k).length) ∧ Hid (Tks wr w.heap.size 45 (.slice Ax (outT t Ls k).length cx) (outT t Ls k)) ∧ Hid (Below w.heap.size w wr)) (fun i _ _ => Ls.length - (intOf i).toNat)
  case atStart => exact ⟨0, _, 1, _, rfl, rfl, Nat.zero_le _, Lib.hid rfl, HT0, Lib.hid ((Below.refl _ _).alloc (Nat.le_refl _) _)⟩
  case round =>
    obtain ⟨k, Ax, nx, cx, rfl, rfl, hk, HNX, HT, HB⟩ := hrel
    obtain rfl := HNX.out
    clear HT0
    by_cases hlt : k < Ls.length
    · obtain ⟨l, hl⟩ : ∃ l, Ls[k]? = some l := ⟨_, List.getElem?_eq_getElem hlt⟩
      obtain ⟨g, Ai, ci, hA, hg, hcell, hti⟩ := HR.out k l hl
      have HTI := Lib.hid hti
      have HC := Lib.hid hcell
      have HG := Lib.hid hg
      have HLK := Lib.hid hl
      have HLE1 := Lib.hid (HLE.out (k + 1))
      subst hA
      clear hti hcell hg hl
      cases k with
      | zero =>
        have hs := outT_first t Ls l HLK.out
        have HS := Lib.hid hs
        have hlen : (outT t Ls 0).length + l.length ≤ 100000 := by
          have h1 := HLE1.out
          have h2 := HN.out
          rw [hs, List.length_append] at h1
          omega
        obtain ⟨A3, c3, w3, happ3, hk3, hg3, _⟩ := join_tks tyS wr w.heap.size B _ _ _ _ HT.out ((HTI.out).below HB.out) hlen HB.out.size
        have HF3 := Lib.hid (below_grew HB.out hg3 (fun k hk => (HT.out.lt k hk).1) HB.out.size)
        have HK3 := Lib.hid hk3
        have hcell := (HB.out.cell (p := ⟨g, 0, none⟩) HG.out).trans HC.out
        clear hk3 hg3 hs hlen
        go_wp2_with (at_builtin; refine wpList_append_eq rfl _ _ _ rfl rfl rfl happ3 ?_)
        clear happ3 hcell
        go_roundw
        case rel =>
          refine ⟨1, A3, _, c3, rfl, rfl, by omega, ?_, ?_, HF3⟩
          · rw [HS.out]
            exact Lib.hid (by simp)
          · rw [HS.out]
            exact HK3
        case measure => simp [intOf]; omega
      | succ k =>
        have hs := outT_next t Ls (k + 1) l (by omega) HLK.out
        have HS := Lib.hid hs
        have hlen : (outT t Ls (k + 1)).length + 1 + l.length ≤ 9001 := by
          have h1 := HLE1.out
          have h2 := HN.out
          rw [hs, List.length_append, List.length_append] at h1
          simp only [List.length_singleton] at h1
          omega
        have H1 := Lib.hid (Tks.made wr kArg 45)
        have H2 : Hid (Below wr.heap.size wr (wr.alloc (.cells #[.string ⟨#[44]⟩, .string ⟨#[65, 114, 103, 117, 109, 101, 110, 116]⟩, .string ⟨#[]⟩] 45))) := Lib.hid ((Below.refl _ _).alloc (Nat.le_refl _) _)
        have H3 := Lib.hid (HT.out.below H2.out)
        obtain ⟨A3, c3, w3, happ3, hk3, hg3, _⟩ := join_tks tyS (wr.alloc (.cells #[.string ⟨#[44]⟩, .string ⟨#[65, 114, 103, 117, 109, 101, 110, 116]⟩, .string ⟨#[]⟩] 45)) w.heap.size wr.heap.size _ _ _ _ H3.out H1.out (by simp; omega) (Nat.le_trans HB.out.size H2.out.size)
        have HF3 := Lib.hid (below_grew (HB.out.trans (H2.out.mono HB.out.size)) hg3 (fun k hk => (H3.out.lt k hk).1) (Nat.le_trans HB.out.size H2.out.size))
        have HK3 := Lib.hid hk3
        clear hk3 hg3
        obtain ⟨A5, c5, w5, happ5, hk5, hg5, _⟩ := join_tks tyS w3 w.heap.size B _ _ _ _ HK3.out ((HTI.out).below HF3.out) (by simp; omega) HF3.out.size
        have HF5 := Lib.hid (below_grew HF3.out hg5 (fun k hk => (HK3.out.lt k hk).1) HF3.out.size)
        have HK5 := Lib.hid hk5
        have hcell := (HF3.out.cell (p := ⟨g, k + 1, none⟩) HG.out).trans HC.out
        clear hk5 hg5 hs hlen H1 H2 H3 HK3
        rw [List.length_append] at happ3 happ5
        rw [List.length_append] at happ5
        go_upto_region 7 with (at_builtin; refine wpList_append_eq rfl _ _ _ rfl rfl rfl happ3 ?_)
        clear happ3
        go_wp2_with (at_builtin; refine wpList_append_eq rfl _ _ _ rfl rfl rfl happ5 ?_)
        clear happ5 hcell
        go_roundw
        case rel =>
          refine ⟨k + 1 + 1, A5, _, c5, by go_num, rfl, by omega, ?_, ?_, HF5⟩
          · rw [HS.out]
            exact Lib.hid (by simp; omega)
          · rw [HS.out]
            exact HK5
        case measure => simp [intOf]; omega
    · obtain rfl : k = Ls.length := by omega
      have hlen : (outT t Ls Ls.length).length ≤ 9001 := by
        have h1 := HLE.out Ls.length
        have h2 := HN.out
        omega
      have H1 := Lib.hid (Tks.made wr kEnd 45)
      have H2 : Hid (Below wr.heap.size wr (wr.alloc (.cells #[.string ⟨#[]⟩, .string ⟨#[70, 117, 110, 99, 116, 105, 111, 110]⟩, .string ⟨#[83, 116, 111, 112]⟩] 45))) := Lib.hid ((Below.refl _ _).alloc (Nat.le_refl _) _)
      have H3 := Lib.hid (HT.out.below H2.out)
      obtain ⟨A3, c3, w3, happ3, hk3, hg3, _⟩ := join_tks tyS (wr.alloc (.cells #[.string ⟨#[]⟩, .string ⟨#[70, 117, 110, 99, 116, 105, 111, 110]⟩, .string ⟨#[83, 116, 111, 112]⟩] 45)) w.heap.size wr.heap.size _ _ _ _ H3.out H1.out (by simp; omega) (Nat.le_trans HB.out.size H2.out.size)
      have HF3 := Lib.hid (below_grew (HB.out.trans (H2.out.mono HB.out.size)) hg3 (fun k hk => (H3.out.lt k hk).1) (Nat.le_trans HB.out.size H2.out.size))
      have HK3 := Lib.hid hk3
      clear hk3 hg3 H1 H2 H3 hlen
      go_wp2_with (at_builtin; refine wpList_append_eq rfl _ _ _ rfl rfl rfl happ3 ?_)
      go_ret
      exact ⟨A3, c3, by rw [List.length_append]; rfl, HF3.out, HK3.out⟩

end Go.Proofs.YtfeffdjnjckjaaaGreatDoor.Rg

/- The tokens of a list of trees. -/
namespace Go.Proofs.YtfeffdjnjckjaaaGreatDoor.Rg
open Go.RowKit

theorem infoRowS : (Tryz.prog.info? 42).map (fun i => (i.zero, i.size, i.bytes)) = some (some (.slice none 0 0), 1, 24) := by kernel_rfl

/-- A row of rows of tokens of the call's own: the values vs, each a row of tokens. -/
structure RowsOwn (w : World) (B : Nat) (V : Value) (n : Nat) (vs : List Value) (Ls : List (List Tk)) : Prop where
  own : w.ownsRow B 42 1 V n vs
  len : vs.length = Ls.length
  each : ∀ (i : Nat) (l : List Tk), Ls[i]? = some l → ∃ Ai ci, vs[i]? = some (.slice Ai l.length ci) ∧ Tks w B 45 (.slice Ai l.length ci) l
theorem tag_ne {w : World} {g g' : Nat} {t t' : TypeId} (h : Tag w g t) (h' : Tag w g' t') (hne : t ≠ t') : g ≠ g' := by
  rintro rfl
  obtain ⟨c, hc⟩ := h
  obtain ⟨c', hc'⟩ := h'
  rw [hc] at hc'
  injection hc' with hc'
  injection hc' with _ h2
  exact hne h2
theorem RowsOwn.nil (w : World) (B : Nat) : RowsOwn w B (.slice none 0 0) 0 [] [] := ⟨World.ownsRow_nil w B _ 1, rfl, fun i l h => by simp at h⟩
theorem RowsOwn.below {w w' : World} {B n : Nat} {V : Value} {vs : List Value} {Ls : List (List Tk)} (h : RowsOwn w B V n vs Ls) (hb : Below w.heap.size w w') : RowsOwn w' B V n vs Ls :=
  ⟨own_below h.own hb, h.len, fun i l hi => by
    obtain ⟨Ai, ci, h1, h2⟩ := h.each i l hi
    exact ⟨Ai, ci, h1, h2.below hb⟩⟩
theorem RowsOwn.rows {w : World} {B n c : Nat} {A : Option Addr} {vs : List Value} {Ls : List (List Tk)} (h : RowsOwn w B (.slice A n c) n vs Ls) : RowsT w B A Ls := by
  intro i l hi
  obtain ⟨Ai, ci, h1, h2⟩ := h.each i l hi
  have hlen := h.own.1
  rcases h.own.2 with ⟨hv, h0⟩ | ⟨g, cap, cur, hv, _, hg, _⟩
  · subst h0
    have : vs = [] := List.eq_nil_of_length_eq_zero (by simpa using hlen)
    rw [this] at h1
    simp at h1
  · injection hv with hA _ hc
    subst hA
    have hcs := World.ownsRow.cells (g := g) h.own rfl i _ h1
    rw [addAt] at hcs
    exact ⟨g, Ai, ci, rfl, (h.own.lt g rfl).2, hcs, h2⟩
/-- A row of tokens is appended. -/
theorem push_rows (w : World) (B n c : Nat) (A : Option Addr) (vs : List Value) (Ls : List (List Tk)) (h : RowsOwn w B (.slice A n c) n vs Ls) (hn : n ≤ 10000) (hB : B ≤ w.heap.size) (g1 : Nat) (Ai : Option Addr) (ci : Nat) (l : List Tk) (hl : Tks w B 45 (.slice Ai l.length ci) l)
    (hg1 : Box w g1 #[.slice Ai l.length ci] 42) :
    ∃ A' c' w', (Builtin.append_ #[66, 66] 66 #[.slice A n c, .slice (some ⟨g1, 0, none⟩) 1 1]).run Tryz.prog w = .ok (.slice A' (n + 1) c') w' ∧
      RowsOwn w' B (.slice A' (n + 1) c') (n + 1) (vs ++ [.slice Ai l.length ci]) (Ls ++ [l]) ∧ w.grownBy w' (Value.slice A n c).ownBlock := by
  obtain ⟨i0, hi, hz0, hz1, hz2⟩ := info_parts infoRowS
  obtain ⟨v', w', happ, hown, hgr, _, hloc⟩ := run_append_own_at (P := Tryz.prog) w B 66 66 42 i0 _ 1 24 Tryz.underlying66 hi hz0 hz1 hz2 rfl (by decide) (.slice A n c) n _ h.own ⟨g1, 0, none⟩ 1 1 [.slice Ai l.length ci] rfl (fun j u hj => by
    rw [addAt, hg1.cell]
    simpa using hj) (fun u hu => by
      simp only [List.mem_cons, List.not_mem_nil, or_false] at hu
      subst hu
      rfl) (by unfold maxLen; omega) (by omega) hB
  obtain ⟨A', c', rfl⟩ := own_slice hown
  have hk : ∀ (A2 : Option Addr) (c2 : Nat) (l2 : List Tk), Tks w B 45 (.slice A2 l2.length c2) l2 → Tks w' B 45 (.slice A2 l2.length c2) l2 := fun A2 c2 l2 h2 => h2.grow hgr fun k hk hk2 => tag_ne (own_tag h.own k hk) (own_tag h2 k hk2) (by decide) rfl
  refine ⟨A', c', w', happ, ⟨hown, by simp [h.len], fun i l2 hi2 => ?_⟩, hgr⟩
  by_cases hi3 : i < Ls.length
  · rw [List.getElem?_append_left hi3] at hi2
    obtain ⟨A2, c2, h3, h4⟩ := h.each i l2 hi2
    exact ⟨A2, c2, by rw [List.getElem?_append_left (by rw [h.len]; exact hi3)]; exact h3, hk _ _ _ h4⟩
  · rw [List.getElem?_append_right (by omega)] at hi2
    have hi4 : i - Ls.length = 0 := by
      rcases Nat.eq_zero_or_pos (i - Ls.length) with h0 | h0
      · exact h0
      · rw [List.getElem?_eq_none (by simp; omega)] at hi2
        cases hi2
    rw [hi4] at hi2
    simp only [List.getElem?_cons_zero, Option.some.injEq] at hi2
    subst hi2
    refine ⟨Ai, ci, ?_, hk _ _ _ hl⟩
    rw [List.getElem?_append_right (by rw [h.len]; omega), h.len, hi4]
    rfl

/-- What tokens answers. -/
def ListPost (w : World) (Ls : List (List Tk)) (x : Ending) (w' : World) : Prop :=
  ∃ A c vs, x = .returned (.slice A Ls.length c) ∧ Below w.heap.size w w' ∧ RowsOwn w' w.heap.size (.slice A Ls.length c) Ls.length vs Ls


theorem AllEx.get {w : World} {S : Nat → Prop} : ∀ (l : List Ex) (vs : List Ev) (i : Nat) (x : Ex), AllEx w S l vs → l[i]? = some x → ∃ v, vs[i]? = some v ∧ IsEx w S x v
  | [], _, i, x, _, hi => by simp at hi
  | y :: l, _, 0, x, h, hi => by
    obtain ⟨v, us, rfl, h2, _⟩ := h
    simp only [List.getElem?_cons_zero, Option.some.injEq] at hi
    subst hi
    exact ⟨v, rfl, h2⟩
  | y :: l, _, i + 1, x, h, hi => by
    obtain ⟨v, us, rfl, _, h3⟩ := h
    obtain ⟨u, h4, h5⟩ := AllEx.get l us i x h3 (by simpa using hi)
    exact ⟨u, by simpa using h4, h5⟩
theorem okL_get : ∀ (l : List Ex) (i : Nat) (x : Ex), okL l → l[i]? = some x → okX x ∧ (prt 1 x).length ≤ (prtM l).length
  | [], i, x, _, hi => by simp at hi
  | y :: l, 0, x, h, hi => by
    unfold okL at h
    simp only [List.getElem?_cons_zero, Option.some.injEq] at hi
    subst hi
    refine ⟨h.1, ?_⟩
    rw [prtM]
    simp
    omega
  | y :: l, i + 1, x, h, hi => by
    unfold okL at h
    obtain ⟨h1, h2⟩ := okL_get l i x h.2 (by simpa using hi)
    refine ⟨h1, ?_⟩
    rw [prtM]
    simp
    omega
/-- The fields of element i of a row of trees. -/
theorem RowOf.get {w : World} {S : Nat → Prop} {A : Option Addr} {vs : List Ev} (h : RowOf w S A vs) (i : Nat) (v : Ev) (hi : vs[i]? = some v) : ∃ g, A = some ⟨g, 0, none⟩ ∧ g < w.heap.size ∧ ∀ j u, j < 14 → v.cells[j]? = some u → w.cell? ⟨g, i * 14 + j, none⟩ = some u := by
  obtain ⟨g, h1, _, h3, h4⟩ := h (fun e => by rw [e] at hi; simp at hi)
  exact ⟨g, h1, h3, fun j u hj hu => h4 _ _ ((flat_cell Ev.cells 14 (fun _ => rfl) vs i j v hi hj).trans hu)⟩

set_option maxHeartbeats 16000000 in
set_option maxRecDepth 100000 in
theorem tokens_any (kids : List Ex) (hT : ∀ x ∈ kids, TokOf x) (A : Option Addr) (c : Nat) (vs : List Ev) (S : Nat → Prop) (w : World) (hrow : RowOf w S A vs) (hall : AllEx w S kids vs) (hok : okL kids) (hl : (prtM kids).length ≤ 8000) (hk8 : kids.length ≤ 8000) :
    Calls Tryz.prog 31 #[.slice A kids.length c, .bool false] w (ListPost w (kids.map (tok 1))) := by
  have HALL := Lib.hid hall
  have HROW := Lib.hid hrow
  have HOK := Lib.hid hok
  have HLX := Lib.hid hl
  have HTX := Lib.hid hT
  clear hT hrow hall hok hl
  go_enter Tryz.func31, Tryz.ntmps31
  go_upto_region 3 with fail
  go_loopw [9, 5] (fun i s wr => ∃ (k : Nat) (Ax : Option Addr) (cx : Nat) (us : List Value), i = .int .i64 k ∧ s = .slice Ax k cx ∧ k ≤ kids.length ∧ Hid (RowsOwn wr w.heap.size (.slice Ax k cx) k us ((kids.map (tok 1)).take k)) ∧ Hid (Below w.heap.size w wr)) (fun i _ _ => kids.length - (intOf i).toNat)
  case atStart => exact ⟨0, none, 0, [], rfl, rfl, Nat.zero_le _, Lib.hid (RowsOwn.nil _ _), Lib.hid (Below.refl _ _)⟩
  case round =>
    obtain ⟨k, Ax, cx, us, rfl, rfl, hk, HO, HB⟩ := hrel
    by_cases hlt : k < kids.length
    · obtain ⟨x, hx⟩ : ∃ x, kids[k]? = some x := ⟨_, List.getElem?_eq_getElem hlt⟩
      obtain ⟨v, hv, hvx⟩ := AllEx.get kids vs k x HALL.out hx
      obtain ⟨g, hA, hg, hc⟩ := RowOf.get HROW.out k v hv
      obtain ⟨hxo, hxl⟩ := okL_get kids k x HOK.out hx
      have HXM := Lib.hid (List.mem_of_getElem? hx)
      have HCL := Lib.hid (HTX.out x HXM.out v S wr (hvx.below HB.out) hxo (Nat.le_trans hxl HLX.out))
      have HX := Lib.hid hx
      have HC := Lib.hid hc
      have HG := Lib.hid hg
      subst hA
      clear hc hv hvx hxo hxl hx
      have X := fun (j : Nat) (u : Value) (hj : j < 14) (hu : v.cells[j]? = some u) => (HB.out.cell (p := ⟨g, k * 14 + j, none⟩) HG.out).trans (HC.out j u hj hu)
      have x0 := X 0 _ (by omega) rfl
      have x1 := X 1 _ (by omega) rfl
      have x2 := X 2 _ (by omega) rfl
      have x3 := X 3 _ (by omega) rfl
      have x4 := X 4 _ (by omega) rfl
      have x5 := X 5 _ (by omega) rfl
      have x6 := X 6 _ (by omega) rfl
      have x7 := X 7 _ (by omega) rfl
      have x8 := X 8 _ (by omega) rfl
      have x9 := X 9 _ (by omega) rfl
      have x10 := X 10 _ (by omega) rfl
      have x11 := X 11 _ (by omega) rfl
      have x12 := X 12 _ (by omega) rfl
      have x13 := X 13 _ (by omega) rfl
      rw [Nat.add_zero] at x0
      unfold Ev.val at HCL
      clear X hg
      go_wp2_with fail
      clear x0 x1 x2 x3 x4 x5 x6 x7 x8 x9 x10 x11 x12 x13
      refine HCL.out.mono ?_
      rintro e w1 ⟨Ai, ci, rfl, hb, hk1⟩
      obtain ⟨g1, hg1⟩ : ∃ g1, w1.heap.size = g1 := ⟨_, rfl⟩
      have H2 : Hid (Below w1.heap.size w1 (w1.alloc (.cells #[.slice Ai (tok 1 x).length ci] 42))) := Lib.hid ((Below.refl _ _).alloc (Nat.le_refl _) _)
      have hbw : Below w.heap.size w w1 := HB.out.trans (hb.mono HB.out.size)
      obtain ⟨A3, c3, w3, happ3, hk3, hg3⟩ := push_rows (w1.alloc (.cells #[.slice Ai (tok 1 x).length ci] 42)) w.heap.size k cx Ax us _ ((HO.out.below hb).below H2.out) (by omega) (Nat.le_trans hbw.size H2.out.size) w1.heap.size Ai ci (tok 1 x) ((hk1.lower HB.out.size).below H2.out) (Box.made _ _ _)
      have HF3 := Lib.hid (below_grew (hbw.trans (H2.out.mono hbw.size)) hg3 (fun k hk => ((HO.out.below hb).below H2.out).own.lt k hk |>.1) (Nat.le_trans hbw.size H2.out.size))
      have HTK : Hid ((kids.map (tok 1)).take (k + 1) = (kids.map (tok 1)).take k ++ [tok 1 x]) := Lib.hid (take_snoc _ k _ (by rw [List.getElem?_map, HX.out]; rfl))
      rw [← HTK.out] at hk3
      have HK3 := Lib.hid hk3
      clear hk3 hg3 hbw H2 hk1 hb HCL hg1
      go_wp2_with (at_builtin; refine wpList_append_eq rfl _ _ _ rfl rfl rfl happ3 ?_)
      clear happ3
      go_roundw
      case rel => exact ⟨k + 1, A3, c3, _, by go_num, rfl, by omega, HK3, HF3⟩
      case measure => simp [intOf]; omega
    · obtain rfl : k = kids.length := by omega
      have e : (kids.map (tok 1)).take kids.length = kids.map (tok 1) := by
        have : kids.length = (kids.map (tok 1)).length := by simp
        rw [this, List.take_length]
      have HO2 := HO.out
      rw [e] at HO2
      have HO3 := Lib.hid HO2
      clear HO2 e HO
      go_wp2
      go_ret
      refine ⟨Ax, cx, us, by rw [List.length_map]; rfl, HB.out, ?_⟩
      rw [List.length_map]
      exact HO3.out

end Go.Proofs.YtfeffdjnjckjaaaGreatDoor.Rg
