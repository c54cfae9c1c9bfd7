/- MODE of a column: the number that is counted most. -/
import Derived.Test.YtfnphohdipdmpaaMCount
import Derived.Test.YtfnphohdipdmpaaMPdq
import Derived.Laws.OwnMore
namespace Go.Proofs.Ytfnphohdipdmpaa.Rg
open Go.RowKit

theorem infoFloat : (Try.prog.info? 29).map (fun i => (i.zero, i.size, i.bytes)) = some (some (.float .f64 0), 1, 8) := by kernel_rfl

/-- The slice is a row of floats of whole numbers. -/
structure OwnsN (w : World) (B : Nat) (A : Option Addr) (m c : Nat) (X : List Int) : Prop where
  own : w.ownsRow B 29 1 (.slice A m c) m (X.map fun x => Value.float .f64 (fl x))
  len : m = X.length

theorem OwnsN.row {w : World} {B : Nat} {A : Option Addr} {m c : Nat} {X : List Int} (h : OwnsN w B A m c X) (hm : 1 ≤ m) : ∃ blk, A = some ⟨blk, 0, none⟩ ∧ B ≤ blk ∧ RowF w blk (X.map fl) := by
  have hl := h.len
  obtain ⟨g, cap, hv, hgg⟩ := h.own.form (by omega)
  injection hv with hA hm' hc
  subst hA
  have hlt := h.own.lt g (by rw [hc]; rfl)
  refine ⟨g, rfl, hlt.1, ?_, ?_, hlt.2⟩
  · intro j b hj
    rw [List.getElem?_map] at hj
    obtain ⟨x, hx, rfl⟩ := Option.map_eq_some_iff.1 hj
    have := h.own.cells (g := g) (by rw [hc]; rfl) j (.float .f64 (fl x)) (by simp [hx])
    rwa [addAt] at this
  · intro j hj
    rw [← hc] at *
    exact World.ownsRow.frozenAt (by simpa using h.own) j

theorem asFa (v : Value) (w : World) : (Instr.typeAssert (.iface 60 v) 20 60 false).run Try.prog w = .ok v w := by kernel_rfl

def ptrM : Value → Nat
  | .pointer none => 0
  | _ => 1

/-- The ten cells of element k of a row of formulas' numbers. -/
theorem ten_row {w : World} {g k : Nat} {x : Int} (h : ∀ j u, (faCells x)[j]? = some u → w.cell? ⟨g, k * 10 + j, none⟩ = some u) :
    w.cell? ⟨g, k * 10, none⟩ = some (.string ⟨#[]⟩) ∧ w.cell? ⟨g, k * 10 + 1, none⟩ = some (.float .f64 (fl x)) ∧ w.cell? ⟨g, k * 10 + 2, none⟩ = some (.string ⟨#[]⟩) ∧ w.cell? ⟨g, k * 10 + 3, none⟩ = some (.slice none 0 0) ∧ w.cell? ⟨g, k * 10 + 4, none⟩ = some (.slice none 0 0) ∧
    w.cell? ⟨g, k * 10 + 5, none⟩ = some (.bool false) ∧ w.cell? ⟨g, k * 10 + 6, none⟩ = some (.string ⟨#[]⟩) ∧ w.cell? ⟨g, k * 10 + 7, none⟩ = some (.int .u8 1) ∧ w.cell? ⟨g, k * 10 + 8, none⟩ = some (.pointer none) ∧ w.cell? ⟨g, k * 10 + 9, none⟩ = some (.pointer none) :=
  ⟨h 0 _ rfl, h 1 _ rfl, h 2 _ rfl, h 3 _ rfl, h 4 _ rfl, h 5 _ rfl, h 6 _ rfl, h 7 _ rfl, h 8 _ rfl, h 9 _ rfl⟩

/-- While it counts: the row, the result's cells. -/
structure CSt (w : World) (blk gr : Nat) (Y : List Int) (wr : World) : Prop where
  row : RowF wr blk (Y.map fl)
  below : Below w.heap.size w wr
  res : wr.heap[gr]? = some (.cells #[.string ⟨#[]⟩, .float .f64 0, .string ⟨#[]⟩, .slice none 0 0, .slice none 0 0, .bool false, .string ⟨#[]⟩, .int .u8 0, .pointer none, .pointer none] 60 (0, 0))
theorem CSt.drewN {w : World} {blk gr : Nat} {Y : List Int} {wr : World} (h : CSt w blk gr Y wr) (q : Nat) : CSt w blk gr Y (wr.drewN q) := by
  have hb : Below wr.heap.size wr (wr.drewN q) := below_drewN wr q
  exact ⟨h.row.drewN q, h.below.trans (hb.mono h.below.size), h.res⟩

def ModeFPost (w : World) (m : Int) (e : Ending) (w' : World) : Prop := e = .returned (.agg (faCells m).toArray) ∧ Below w.heap.size w w'

set_option maxHeartbeats 6400000 in
set_option maxRecDepth 100000 in
theorem modef_any (a : Addr) (gl : Nat) (X : List Int) (m : Int) (w : World) (hn1 : 1 ≤ X.length) (hn2 : X.length ≤ 100) (hX : ∀ x ∈ X, -9 ≤ x ∧ x ≤ 9) (hu : Uniq X m) (hL : FListAt w X gl) :
    Calls Try.prog 29 #[.pointer (some a), .pointer (some ⟨gl, 0, none⟩)] w (ModeFPost w m) := by
  obtain ⟨i1, hi1, hi1z, hi1s, hi1b⟩ := info_parts infoFloat
  have hst := store_float Try.prog
  have has := asFa
  have HX := Lib.hid hX
  have HU := Lib.hid hu
  have hal : Below w.heap.size w (w.alloc (.cells #[.string ⟨#[]⟩, .float .f64 0, .string ⟨#[]⟩, .slice none 0 0, .slice none 0 0, .bool false, .string ⟨#[]⟩, .int .u8 0, .pointer none, .pointer none] 60)) := (Below.refl _ _).alloc (Nat.le_refl _) _
  have h9 := heap_alloc_new w (.cells #[.string ⟨#[]⟩, .float .f64 0, .string ⟨#[]⟩, .slice none 0 0, .slice none 0 0, .bool false, .string ⟨#[]⟩, .int .u8 0, .pointer none, .pointer none] 60)
  have HAL := Lib.hid hal
  have HZ := Lib.hid h9
  have HL : Hid (FListAt (w.alloc (.cells #[.string ⟨#[]⟩, .float .f64 0, .string ⟨#[]⟩, .slice none 0 0, .slice none 0 0, .bool false, .string ⟨#[]⟩, .int .u8 0, .pointer none, .pointer none] 60)) X gl) := by
    obtain ⟨ge, A, c, p, q, h1, h2, h3⟩ := hL
    exact ⟨ge, A, c, p, q, (hal.block gl (Array.getElem?_eq_some_iff.1 h1).1).trans h1, (hal.block ge (Array.getElem?_eq_some_iff.1 h2).1).trans h2, h3.later hal⟩
  obtain ⟨n, hn⟩ : ∃ n, X.length = n := ⟨_, rfl⟩
  have HN := Lib.hid hn
  rw [hn] at hn1 hn2
  clear hX hu hal h9 hL hn
  go_enter Try.func29, Try.ntmps29
  go_wp2_with fail
  refine (llen_any gl X _ HL.out).mono ?_
  rintro e w1 ⟨rfl, rfl⟩
  go_wp2_with fail
  generalize w.alloc (.cells #[.string ⟨#[]⟩, .float .f64 0, .string ⟨#[]⟩, .slice none 0 0, .slice none 0 0, .bool false, .string ⟨#[]⟩, .int .u8 0, .pointer none, .pointer none] 60) = w0 at *
  have hgr : w.heap.size < w0.heap.size := (Array.getElem?_eq_some_iff.1 HZ.out).1
  obtain ⟨gr, eGR⟩ : ∃ gr, w.heap.size = gr := ⟨_, rfl⟩
  rw [eGR] at hgr HZ ⊢
  have EGR := Lib.hid eGR
  clear eGR
  obtain ⟨ge, A, c, p, q, h1, h2, h3⟩ := HL.out
  have H1 := Lib.hid h1
  have H2 := Lib.hid h2
  have H3 := Lib.hid h3
  have hgel := (Array.getElem?_eq_some_iff.1 h2).1
  clear h1 h2 h3 HL
  refine (lfront_any gl ge _ H1.out).mono ?_
  rintro e w1 ⟨rfl, rfl⟩
  clear H1
  go_wp2
  go_loopw [5, 6] (fun v arg wr => (arg = .pointer (some ⟨ge, 0, none⟩) ∧ v = .slice none 0 0 ∧ w1 = wr) ∨ (arg = .pointer none ∧ ∃ (Ax : Option Addr) (cx : Nat), v = .slice Ax n cx ∧ Hid (∃ B, w1.heap.size ≤ B ∧ OwnsN wr B Ax n cx X ∧ Below w1.heap.size w1 wr))) (fun _ arg _ => ptrM arg)
  case atStart => exact .inl ⟨rfl, rfl, rfl⟩
  case round =>
    rcases hrel with ⟨rfl, rfl, rfl⟩ | ⟨rfl, Ax, cx, rfl, HO⟩
    · have e3 : w1.cell? ⟨ge, 3, none⟩ = some (.iface 60 (.agg (maCells A X.length c (.pointer p) (.pointer q)).toArray)) := by simp [World.cell?, H2.out]
      have hal : Below w1.heap.size w1 (w1.alloc (.cells (maCells A X.length c (.pointer p) (.pointer q)).toArray 60)) := (Below.refl _ _).alloc (Nat.le_refl _) _
      have TL := Lib.hid (tolist_any A X.length c p q X _ rfl (by have := HN.out; omega) (H3.out.later hal))
      have HALL := Lib.hid hal
      clear hal
      unfold maCells at e3 TL HALL
      rw [HN.out] at e3 TL HALL
      have hb9 : ∃ gb, w1.heap.size = gb := ⟨_, rfl⟩
      go_wp2_with fail
      refine TL.out.mono ?_
      rintro e w2 ⟨A2, c2, rfl, hr2, hb2⟩
      rw [HN.out]
      have HB2 := Lib.hid (HALL.out.trans (hb2.mono HALL.out.size))
      have HR2 := Lib.hid hr2
      clear TL HALL hr2 hb2 e3 hb9
      go_wp2
      go_loopw [5, 43] (fun v i wr => ∃ (k : Nat) (Ax : Option Addr) (cx : Nat), k ≤ n ∧ i = .int .i64 k ∧ v = .slice Ax k cx ∧ Hid (OwnsN wr w2.heap.size Ax k cx (X.take k)) ∧ Hid (Below w2.heap.size w2 wr)) (fun _ i _ => n - (intOf i).toNat)
      case atStart => exact ⟨0, none, 0, by omega, rfl, rfl, ⟨World.ownsRow_nil _ _ _ _, rfl⟩, Below.refl _ _⟩
      case round =>
        obtain ⟨k, Ax, cx, hk, rfl, rfl, HO, HB⟩ := hrel
        by_cases hkn : k < n
        · obtain ⟨x, hx⟩ : ∃ x, X[k]? = some x := ⟨_, List.getElem?_eq_getElem (by have := HN.out; omega)⟩
          have HTK : Hid (X.take (k + 1) = X.take k ++ [x]) := by
            show X.take (k + 1) = X.take k ++ [x]
            rw [List.take_add_one, hx]
            rfl
          have i0' : (0 : Int) ≤ (k : Int) := by omega
          have i1' : (k : Int) < (n : Int) := by omega
          obtain ⟨g, rfl, hg, hrow⟩ := (HR2.out.later HB.out) (by have := HN.out; omega)
          obtain ⟨r0, r1, r2, r3, r4, r5, r6, r7, r8, r9⟩ := ten_row (hrow k x hx)
          obtain ⟨z, hz⟩ : ∃ z, fl x = z := ⟨_, rfl⟩
          rw [hz] at r1
          have HFL := Lib.hid hz
          have HLN := Lib.hid HO.out.len
          have hown := HO.out.own
          have hbs := HB.out.size
          have hal : Below wr.heap.size wr (wr.alloc (.cells #[.string ⟨#[]⟩, .float .f64 z, .string ⟨#[]⟩, .slice none 0 0, .slice none 0 0, .bool false, .string ⟨#[]⟩, .int .u8 1, .pointer none, .pointer none] 60)) := (Below.refl _ _).alloc (Nat.le_refl _) _
          have HAL2 := Lib.hid hal
          clear hx hrow hz hal HO
          go_wp2_with (at_builtin; refine wpList_append_own _ rfl _ _ 80 rfl w2.heap.size 29 i1 _ 1 8 Try.underlying80 hi1 hi1z hi1s hi1b rfl (by decide) _ _ _ rfl ((hown.alloc _).alloc _) ⟨wr.heap.size + 1, 0, none⟩ 1 1 [.float .f64 z] rfl rfl ?c1 ?c2 ?c3 ?c4 ?c5 ?_)
          case c1 => exact newAt _ [.float .f64 z] _ _ (by simp)
          case c2 => intro u hu; simp at hu; subst hu; rfl
          case c3 => unfold maxLen; omega
          case c4 => omega
          case c5 => simp; omega
          intro v' w3 hown' hgrow _
          have hb3 : Below w2.heap.size w2 w3 := ((HB.out.trans (HAL2.out.mono hbs)).alloc (Nat.le_trans hbs HAL2.out.size) _).grown hgrow (by simp; omega) (fun j hj => (hown.lt j hj).1)
          obtain ⟨A', c', he⟩ := own_slice hown'
          have HO2 : Hid (OwnsN w3 w2.heap.size A' (k + 1) c' (X.take (k + 1))) := by
            rw [he] at hown'
            refine ⟨?_, by rw [HTK.out, List.length_append, ← HLN.out]; rfl⟩
            rw [HTK.out, List.map_append, List.map_singleton, HFL.out, List.map_take]
            exact hown'
          have HB3 := Lib.hid hb3
          clear hgrow hown' hown hb3 hbs r0 r1 r2 r3 r4 r5 r6 r7 r8 r9
          subst he
          go_wp2
          go_roundw
          case rel => exact ⟨k + 1, A', c', by omega, by go_num, rfl, HO2, HB3⟩
          case measure => simp [intOf]; omega
        · obtain rfl : k = n := by omega
          have hO := HO.out
          rw [List.take_of_length_le (by have := HN.out; omega)] at hO
          have hb2s := HB2.out.size
          have HB4 : Hid (∃ B, w1.heap.size ≤ B ∧ OwnsN wr B Ax k cx X ∧ Below w1.heap.size w1 wr) := ⟨w2.heap.size, hb2s, hO, HB2.out.trans (HB.out.mono hb2s)⟩
          have hge := (HB4.out.choose_spec.2.2.block ge hgel).trans H2.out
          clear hO HO HB HB2 HR2
          go_wp2_with fail
          refine (lnext_any gl ge _ _ hge).mono ?_
          rintro e w3 ⟨rfl, rfl⟩
          clear hge
          go_wp2
          go_roundw
          case rel => exact .inr ⟨rfl, Ax, cx, rfl, HB4⟩
          case measure => simp [ptrM]
    · clear H2 H3 hgel
      obtain ⟨B, hB, hO, hb⟩ := HO.out
      obtain ⟨blk, rfl, hblk, hrow⟩ := hO.row hn1
      have hz := (hb.block gr hgr).trans HZ.out
      have FA := Lib.hid (floats_any blk n cx (X.map fl) wr hrow (by rw [List.length_map]; exact HN.out) hn2)
      have hbk : w1.heap.size ≤ blk := Nat.le_trans hB hblk
      have HB4 := Lib.hid (HAL.out.trans (hb.mono HAL.out.size))
      have HZ2 := Lib.hid hz
      have hbs := hb.size
      clear hO HO hrow hz hblk hB hb HZ HAL
      go_wp2_with fail
      refine FA.out.mono ?_
      rintro e w2 ⟨rfl, X', hp, hrow, hg⟩
      obtain ⟨Y, hpY, rfl⟩ := perm_map_inv fl hp X rfl
      have hYl : Y.length = n := by rw [hpY.length_eq, HN.out]
      have HY : Hid (∀ y ∈ Y, -9 ≤ y ∧ y ≤ 9) := fun y hy => HX.out y (hpY.mem_iff.1 hy)
      have HP := Lib.hid hpY
      have HROW := Lib.hid hrow
      have HYL := Lib.hid hYl
      have hz2 := (hg.block gr (by omega) (fun e => by cases e; omega)).trans HZ2.out
      have HB5 := Lib.hid (HB4.out.grown hg (by have := HB4.out.size; omega) (fun j hj => by cases hj; have := HB4.out.size; have := EGR.out; omega))
      have HZ3 := Lib.hid hz2
      have HCS : Hid (CSt w blk gr Y w2) := ⟨hrow, HB5.out, hz2⟩
      clear hp hrow hg hpY hYl hz2 HZ2 HB4 FA HX hbs HB5 HZ3 HROW
      go_wp2
      go_loopw [12, 13, 14] (fun vm vf vi wr => ∃ (i mc : Nat) (md : Int), i ≤ n ∧ vi = .int .i64 i ∧ vm = .int .i64 mc ∧ vf = .float .f64 (fl md) ∧ mc ≤ n ∧ Hid (Best Y i mc md) ∧ Hid (CSt w blk gr Y wr)) (fun _ _ vi _ => n - (intOf vi).toNat)
      case atStart => exact ⟨0, 0, 0, by omega, rfl, rfl, by rw [fl_zero], by omega, Best.start Y, HCS⟩
      clear HCS
      case round =>
        obtain ⟨i, mc, md, hi, rfl, rfl, rfl, hmc, HBEST, HCS⟩ := hrel
        by_cases hin : i < n
        · obtain ⟨x, hx⟩ : ∃ x, Y[i]? = some x := ⟨_, List.getElem?_eq_getElem (by have := HYL.out; omega)⟩
          have HXR := Lib.hid (HY.out x (List.mem_of_getElem? hx))
          have HXI := Lib.hid hx
          have i0' : (0 : Int) ≤ (i : Int) := by omega
          have i1' : (i : Int) < (n : Int) := by omega
          obtain ⟨zm, hzm⟩ : ∃ z, fl md = z := ⟨_, rfl⟩
          have HZM := Lib.hid hzm
          obtain ⟨zx, hzx⟩ : ∃ z, fl x = z := ⟨_, rfl⟩
          have HZX := Lib.hid hzx
          rw [hzm]
          clear hx hzm hzx
          go_wp2
          go_loopw [11, 15] (fun vc vj wr => ∃ (j c : Nat), j ≤ n ∧ c ≤ j ∧ vj = .int .i64 j ∧ vc = .int .i64 c ∧ Hid (CntAt Y i j x c) ∧ Hid (CSt w blk gr Y wr)) (fun _ vj _ => n - (intOf vj).toNat)
          case atStart => exact ⟨0, 0, by omega, by omega, rfl, rfl, CntAt.start Y i x, HCS⟩
          clear HCS
          case round =>
            obtain ⟨j, c, hj, hcj, rfl, rfl, HC, HCS⟩ := hrel
            by_cases hjn : j < n
            · obtain ⟨y, hy⟩ : ∃ y, Y[j]? = some y := ⟨_, List.getElem?_eq_getElem (by have := HYL.out; omega)⟩
              have cx := HCS.out.row.cells i (fl x) (by rw [List.getElem?_map, HXI.out]; rfl)
              rw [HZX.out] at cx
              have cy := HCS.out.row.cells j (fl y) (by rw [List.getElem?_map, hy]; rfl)
              have hyr := HY.out y (List.mem_of_getElem? hy)
              have j0' : (0 : Int) ≤ (j : Int) := by omega
              have j1' : (j : Int) < (n : Int) := by omega
              have hstep := HC.out.step hy HXI.out
              have hfe := fl_eq hyr.1 hyr.2 HXR.out.1 HXR.out.2
              rw [HZX.out] at hfe
              generalize fl y = zy at hfe cy
              have HCD := Lib.hid HCS.out.drewN
              clear HCS
              by_cases hji : j = i
              · have hbq : ((j : Int) != (i : Int)) = false := by simp [hji]
                have HC2 : Hid (CntAt Y i (j + 1) x c) := by show CntAt _ _ _ _ _; simpa [hji] using hstep
                have HJI := Lib.hid hji
                clear hstep hji hyr hy hfe cy cx
                go_wp2
                go_quiet (fail)
                go_wp2
                go_roundw
                case rel => exact ⟨j + 1, c, by omega, by omega, by go_num, rfl, HC2, HCD.out _⟩
                case measure => simp [intOf]; omega
              · have hbq : ((j : Int) != (i : Int)) = true := by simp [bne, beq_false_of_ne (show (j : Int) ≠ (i : Int) by omega)]
                by_cases hyx : y = x
                · rw [decide_eq_true hyx] at hfe
                  have HC2 : Hid (CntAt Y i (j + 1) x (c + 1)) := by show CntAt _ _ _ _ _; simpa [hji, hyx] using hstep
                  clear hstep hji hyr hy
                  go_wp2
                  go_quiet (fail)
                  go_wp2
                  go_roundw
                  case rel => exact ⟨j + 1, c + 1, by omega, by omega, by go_num, by go_num, HC2, HCD.out _⟩
                  case measure => simp [intOf]; omega
                · rw [decide_eq_false hyx] at hfe
                  have HC2 : Hid (CntAt Y i (j + 1) x c) := by show CntAt _ _ _ _ _; simpa [hji, hyx] using hstep
                  clear hstep hji hyr hy
                  go_wp2
                  go_quiet (fail)
                  go_wp2
                  go_roundw
                  case rel => exact ⟨j + 1, c, by omega, by omega, by go_num, rfl, HC2, HCD.out _⟩
                  case measure => simp [intOf]; omega
            · obtain rfl : j = n := by omega
              have hcd := HC.out
              rw [← HYL.out] at hcd
              have hcnt := hcd.done HXI.out
              have cx := HCS.out.row.cells i (fl x) (by rw [List.getElem?_map, HXI.out]; rfl)
              rw [HZX.out] at cx
              by_cases hlt : mc < c
              · have HB2 := Lib.hid (HBEST.out.better HXI.out hcnt hlt HXR.out.1 HXR.out.2)
                have hltI : (mc : Int) < (c : Int) := by omega
                clear hcd hcnt hlt
                go_wp2
                go_roundw
                case rel => exact ⟨i + 1, c, x, by omega, by go_num, rfl, by rw [HZX.out], by omega, HB2, HCS⟩
                case measure => simp [intOf]; omega
              · have HB2 := Lib.hid (HBEST.out.keep HXI.out hcnt hlt)
                have hltI : ¬ (mc : Int) < (c : Int) := by omega
                clear hcd hcnt hlt
                go_wp2
                go_roundw
                case rel => exact ⟨i + 1, mc, md, by omega, by go_num, rfl, by rw [HZM.out], by omega, HB2, HCS⟩
                case measure => simp [intOf]; omega
        · obtain rfl : i = n := by omega
          have hb := HBEST.out
          rw [← HYL.out] at hb
          obtain ⟨hmc1, rfl⟩ := hb.uniq HP.out HU.out
          have hmcb : ((mc : Int) == 0) = false := beq_false_of_ne (by omega)
          have hmc0 : ¬ (mc : Int) = 0 := by omega
          have NM := Lib.hid (newnum_any md wr hb.lo hb.hi)
          have HCB := Lib.hid HCS.out.below
          have HRES := Lib.hid HCS.out.res
          clear hb HCS HBEST
          go_wp2_with fail
          refine NM.out.mono ?_
          rintro e w3 ⟨rfl, hb3⟩
          have hz3 := (hb3.block gr (Array.getElem?_eq_some_iff.1 HRES.out).1).trans HRES.out
          obtain ⟨s0, s1, s2, s3, s4, s5, s6, s7, s8, s9, sf⟩ := ten hz3
          have HB3 := Lib.hid (HCB.out.trans (hb3.mono HCB.out.size))
          have hge : w.heap.size ≤ gr := Nat.le_of_eq EGR.out
          have HGE := Lib.hid hge
          unfold faCells
          obtain ⟨zm, hzm⟩ : ∃ z, fl md = z := ⟨_, rfl⟩
          have HZM := Lib.hid hzm
          rw [hzm]
          clear hz3 hb3 hge NM hzm
          go_wp2
          (try simp only [Exit.inBlock, Exit.then])
          exact bodyPost_ret (v := .agg #[.string ⟨#[]⟩, .float .f64 zm, .string ⟨#[]⟩, .slice none 0 0, .slice none 0 0, .bool false, .string ⟨#[]⟩, .int .u8 1, .pointer none, .pointer none]) (by simp [results, Try.results29, go_sem, s0, s1, s2, s3, s4, s5, s6, s7, s8, s9]) rfl ⟨by unfold faCells; rw [HZM.out], put10_below HB3.out HGE.out _ _ _ _ _ _ _ _ _ _⟩
end Go.Proofs.Ytfnphohdipdmpaa.Rg
