/- A merged cell's rectangle, read from its text once, and the package's test on two rectangles. -/
import Derived.Test.YtokooampmhcfeaaDoorRHeap
import Derived.Test.YtokooampmhcfeaaDoorRMerge2
import Derived.Test.YtokooampmhcfeaaDoorRMergePlain
import Derived.WalkSpells
namespace Go.Proofs.YtokooampmhcfeaaDoor.Rg
open Go.RowKit

def RecPost (w0 : World) (a : Ar) (e : Ending) (w : World) : Prop :=
  ∃ b, e = .returned (.tuple #[.slice (some ⟨b, 0, none⟩) 4 4, .nilIface]) ∧ Rec w b a ∧ w0.heap.size ≤ b ∧ Below w0.heap.size w0 w

set_option maxHeartbeats 1000000 in
set_option maxRecDepth 100000 in
theorem cells_rec (s t : ByteArray) (n m : Nat) (p q x y : Int) (w : World) (hs : IsCell s n p q) (ht : IsCell t m x y) :
    Calls Tryd.prog 47 #[.string s, .string t] w fun e w' => RecPost w ⟨p, q, x, y⟩ e w' := by
  have hmk : ∀ w, (Instr.makeSlice 24 (.int .i64 4) (.int .i64 4)).run Tryd.prog w = .ok (.slice (some ⟨w.heap.size, 0, none⟩) 4 4) (w.alloc (.cells #[.int .i64 0, .int .i64 0, .int .i64 0, .int .i64 0] 3)) := fun _ => by kernel_rfl
  have F0 := Four.made w 0 0 0 0 3
  have T0 := Tag.made w #[.int .i64 0, .int .i64 0, .int .i64 0, .int .i64 0] 3 _ rfl
  go_enter Tryd.func47, Tryd.ntmps47
  go_wp2_with fail
  clear hmk
  refine (cell_any s n p q _ hs).mono ?_
  rintro e w1 ⟨rfl, hb1⟩
  replace F0 := F0.later hb1
  replace T0 := T0.below hb1
  have f1 := F0.free
  have a0 := F0.c0
  have a1 := F0.c1
  clear hb1
  go_wp2_with fail
  refine (cell_any t m x y _ ht).mono ?_
  rintro e w2 ⟨rfl, hb2⟩
  replace T0 := (((T0.setCell ⟨w.heap.size, 0, none⟩ (.int .i64 p) rfl).setCell ⟨w.heap.size, 1, none⟩ (.int .i64 q) rfl).below hb2)
  replace F0 := ((F0.set0 p).set1 q).later hb2
  clear f1 a0 a1 hb2
  have f1 := F0.free
  have a0 := F0.c2
  have a1 := F0.c3
  go_wp2
  go_ret2
  have FE := (F0.set2 x).set3 y
  exact ⟨_, rfl, ⟨(T0.setCell ⟨w.heap.size, 2, none⟩ (.int .i64 x) rfl).setCell ⟨w.heap.size, 3, none⟩ (.int .i64 y) rfl, FE.c0, FE.c1, FE.c2, FE.c3⟩, Nat.le_refl _, FE.below⟩

set_option maxHeartbeats 1000000 in
set_option maxRecDepth 100000 in
theorem range_rec (t : ByteArray) (p q x y : Int) (w : World) (h : IsRange t p q x y) :
    Calls Tryd.prog 38 #[.string t] w fun e w' => RecPost w ⟨p, q, x, y⟩ e w' := by
  obtain ⟨a, b, n, m, hf, hA, hB, ht⟩ := h
  have HP : Hid (pieces 58 (⟨(t.data.toList.filter (· != 36)).toArray⟩ : ByteArray).data.toList = [a, b]) := by
    show pieces 58 (t.data.toList.filter (· != 36)) = [a, b]
    rw [hf]
    exact pieces_two (by simpa using hA.name.not_colon) (by simpa using hB.name.not_colon)
  have HS : Hid ((⟨(t.data.toList.filter (· != 36)).toArray⟩ : ByteArray).size ≤ 1000000) := by
    show (t.data.toList.filter (· != 36)).toArray.size ≤ 1000000
    have h1 := List.length_filter_le (· != (36 : UInt8)) t.data.toList
    have h2 : t.data.toList.length = t.size := by simp
    rw [List.size_toArray]
    omega
  clear hf
  go_enter Tryd.func38, Tryd.ntmps38
  go_wp2_with fail
  refine (replace_any t 36 _ (by omega)).mono ?_
  rintro e w1 ⟨rfl, hb1⟩
  go_wp2_with fail
  refine (split_any _ 58 _ HS.out).mono ?_
  rw [HP.out]
  rintro e w2 ⟨A, k, c, rfl, hO, hb2⟩
  obtain ⟨g, rfl, rfl, hg, c0, c1⟩ := hO.two
  clear hO
  have hB2 : Below w.heap.size w w2 := hb1.trans (hb2.mono hb1.size)
  clear hb1 hb2 HP HS
  go_wp2_with fail
  go_region_held3 (fun w' => w'.cell? ⟨g, 0, none⟩ = some (.string ⟨a.toArray⟩) ∧ w'.cell? ⟨g, 1, none⟩ = some (.string ⟨b.toArray⟩))
    (first | exact ⟨c0, c1⟩ | exact ⟨k0, k1⟩ | assumption)
    (first | (go_at_call 47; refine (cells_rec ⟨a.toArray⟩ ⟨b.toArray⟩ n m p q x y _ hA hB).mono ?_; rintro e w3 ⟨b3, rfl, hF, hf, hb3⟩; have k0 := (hb3.cell (p := ⟨g, 0, none⟩) hg).trans c0; have k1 := (hb3.cell (p := ⟨g, 1, none⟩) hg).trans c1))
  have hb2 := hB2.drew
  go_wp2
  go_ret2
  exact ⟨b3, rfl, hF, Nat.le_trans hb2.size hf, hb2.trans (hb3.mono hb2.size)⟩

theorem Rec.ss {w : World} {ga gb : Nat} {a b : Ar} (ha : Rec w ga a) (hb : Rec w gb b) : SS w ga gb a.p a.q a.x a.y b.p b.q b.x b.y w :=
  ⟨Below.refl _ _, ha.c0, ha.c1, ha.c2, ha.c3, hb.c0, hb.c1, hb.c2, hb.c3⟩

theorem inA {w : World} {ga gb : Nat} {a0 a1 a2 a3 b0 b1 b2 b3 c r : Int} {t : Bool} (kb : Nat) (ht : within c r ⟨b0, b1, b2, b3⟩ = t) :
    ∀ (d k : Nat) (w' : World), SS w ga gb a0 a1 a2 a3 b0 b1 b2 b3 w' → w'.cell? ⟨d, 0, none⟩ = some (.int .i64 c) → w'.cell? ⟨d, 1, none⟩ = some (.int .i64 r) → Calls Tryd.prog 57 #[.slice (some ⟨d, 0, none⟩) 2 k, .slice (some ⟨gb, 0, none⟩) 4 kb] w' fun e w'' => e = .returned (.bool t) ∧ SS w ga gb a0 a1 a2 a3 b0 b1 b2 b3 w'' := by
  intro d k w' hS h0 h1
  have hS' := hS
  obtain ⟨_, _, _, _, _, d0, d1, d2, d3⟩ := hS'
  exact (inrange_cells c r b0 b1 b2 b3 d gb k kb w' h0 h1 d0 d1 d2 d3).mono fun e w'' ⟨he, hb⟩ => ⟨by rw [he, ht], hS.later hb⟩
theorem inB {w : World} {ga gb : Nat} {a0 a1 a2 a3 b0 b1 b2 b3 c r : Int} {t : Bool} (ka : Nat) (ht : within c r ⟨a0, a1, a2, a3⟩ = t) :
    ∀ (d k : Nat) (w' : World), SS w ga gb a0 a1 a2 a3 b0 b1 b2 b3 w' → w'.cell? ⟨d, 0, none⟩ = some (.int .i64 c) → w'.cell? ⟨d, 1, none⟩ = some (.int .i64 r) → Calls Tryd.prog 57 #[.slice (some ⟨d, 0, none⟩) 2 k, .slice (some ⟨ga, 0, none⟩) 4 ka] w' fun e w'' => e = .returned (.bool t) ∧ SS w ga gb a0 a1 a2 a3 b0 b1 b2 b3 w'' := by
  intro d k w' hS h0 h1
  have hS' := hS
  obtain ⟨_, c0, c1, c2, c3, _, _, _, _⟩ := hS'
  exact (inrange_cells c r a0 a1 a2 a3 d ga k ka w' h0 h1 c0 c1 c2 c3).mono fun e w'' ⟨he, hb⟩ => ⟨by rw [he, ht], hS.later hb⟩

/-- The package's test on two rectangles. -/
theorem isover_any (a b : Ar) (ga gb ka kb : Nat) (w : World) (ha : Rec w ga a) (hb : Rec w gb b) :
    Calls Tryd.prog 49 #[.slice (some ⟨ga, 0, none⟩) 4 ka, .slice (some ⟨gb, 0, none⟩) 4 kb] w fun e w' => e = .returned (.bool (pover a b)) ∧ Below w.heap.size w w' := by
  have hS := ha.ss hb
  obtain ⟨a0, a1, a2, a3⟩ := a
  obtain ⟨b0, b1, b2, b3⟩ := b
  simp only at hS
  unfold pover
  simp only
  cases h1 : within a0 a1 ⟨b0, b1, b2, b3⟩ with
  | true => exact ov_1 a0 a1 a2 a3 b0 b1 b2 b3 ga gb ka kb w hS (inA kb h1)
  | false =>
  cases h2 : within a2 a1 ⟨b0, b1, b2, b3⟩ with
  | true => exact ov_2 a0 a1 a2 a3 b0 b1 b2 b3 ga gb ka kb w hS (inA kb h1) (inA kb h2)
  | false =>
  cases h3 : within a0 a3 ⟨b0, b1, b2, b3⟩ with
  | true => exact ov_3 a0 a1 a2 a3 b0 b1 b2 b3 ga gb ka kb w hS (inA kb h1) (inA kb h2) (inA kb h3)
  | false =>
  cases h4 : within a2 a3 ⟨b0, b1, b2, b3⟩ with
  | true => exact ov_4 a0 a1 a2 a3 b0 b1 b2 b3 ga gb ka kb w hS (inA kb h1) (inA kb h2) (inA kb h3) (inA kb h4)
  | false =>
  cases h5 : within b0 b1 ⟨a0, a1, a2, a3⟩ with
  | true => exact ov_5 a0 a1 a2 a3 b0 b1 b2 b3 ga gb ka kb w hS (inA kb h1) (inA kb h2) (inA kb h3) (inA kb h4) (inB ka h5)
  | false =>
  cases h6 : within b2 b1 ⟨a0, a1, a2, a3⟩ with
  | true => exact ov_6 a0 a1 a2 a3 b0 b1 b2 b3 ga gb ka kb w hS (inA kb h1) (inA kb h2) (inA kb h3) (inA kb h4) (inB ka h5) (inB ka h6)
  | false =>
  cases h7 : within b0 b3 ⟨a0, a1, a2, a3⟩ with
  | true => exact ov_7 a0 a1 a2 a3 b0 b1 b2 b3 ga gb ka kb w hS (inA kb h1) (inA kb h2) (inA kb h3) (inA kb h4) (inB ka h5) (inB ka h6) (inB ka h7)
  | false =>
  cases h8 : within b2 b3 ⟨a0, a1, a2, a3⟩ with
  | true => exact ov_8 a0 a1 a2 a3 b0 b1 b2 b3 ga gb ka kb w hS (inA kb h1) (inA kb h2) (inA kb h3) (inA kb h4) (inB ka h5) (inB ka h6) (inB ka h7) (inB ka h8)
  | false => exact ov_9 a0 a1 a2 a3 b0 b1 b2 b3 ga gb ka kb w hS (inA kb h1) (inA kb h2) (inA kb h3) (inA kb h4) (inB ka h5) (inB ka h6) (inB ka h7) (inB ka h8)

set_option maxHeartbeats 400000 in
theorem contains_any (s : ByteArray) (c : UInt8) (w : World) (hs : s.size ≤ 1000000) (i : Nat) (h : s.data.toList.findIdx? (· == c) = some i) :
    Calls Tryd.prog 56 #[.string s, .string ⟨#[c]⟩] w fun e w' => e = .returned (.bool true) ∧ w = w' := by
  have HI := Lib.hid h
  clear h
  go_enter Tryd.func56, Tryd.ntmps56
  go_wp2_with fail
  refine (index_yes s c _ hs i HI.out).mono ?_
  rintro e w' ⟨rfl, rfl⟩
  have h0 : (0 : Int) ≤ (i : Int) := by omega
  go_wp2
  go_ret
  exact ⟨by simp, rfl⟩

/-- What asking a merged cell for its rectangle does: the rectangle is read and kept in it. -/
def RectPost (w : World) (g : Nat) (a : Ar) (e : Ending) (w' : World) : Prop :=
  ∃ b w1, e = .returned (.tuple #[.slice (some ⟨b, 0, none⟩) 4 4, .nilIface]) ∧ Rec w1 b a ∧ w.heap.size ≤ b ∧ Below w.heap.size w w1 ∧ w' = w1.setCell ⟨g, 0, none⟩ (.slice (some ⟨b, 0, none⟩) 4 4)

set_option maxHeartbeats 1000000 in
set_option maxRecDepth 100000 in
theorem rect_any (g : Nat) (t : ByteArray) (p q x y : Int) (w : World) (i : Nat) (h0 : w.cell? ⟨g, 0, none⟩ = some (.slice none 0 0)) (h1 : w.cell? ⟨g, 1, none⟩ = some (.string t)) (htg : Tag w g 95) (ht : t.size ≤ 1000) (hi : t.data.toList.findIdx? (· == 58) = some i) (h : IsRange t p q x y) :
    Calls Tryd.prog 48 #[.pointer (some ⟨g, 0, none⟩)] w (RectPost w g ⟨p, q, x, y⟩) := by
  have HI := Lib.hid hi
  clear hi
  have hlt := htg.lt
  have f0 := htg.free 0
  have hq := fun (w : World) => Lib.run_eql_slice_nil (P := Tryd.prog) w 24 3 none 0 0 0 0 Tryd.underlying24
  go_enter Tryd.func48, Tryd.ntmps48
  go_wp2_with fail
  refine (contains_any t 58 w (by omega) i HI.out).mono ?_
  rintro e w' ⟨rfl, rfl⟩
  go_wp2_with fail
  refine (range_rec t p q x y _ h).mono ?_
  rintro e w1 ⟨b, rfl, hR, hb0, hb1⟩
  have k0 := (hb1.cell (p := ⟨g, 0, none⟩) hlt).trans h0
  have k1 := (hb1.frozen (p := ⟨g, 0, none⟩) hlt).trans f0
  clear h0 h1 f0 hq
  go_wp2
  go_ret2
  exact ⟨b, w1, rfl, hR, hb0, hb1, rfl⟩
end Go.Proofs.YtokooampmhcfeaaDoor.Rg
