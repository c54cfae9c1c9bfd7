/- Go's list: a new one, and one element put behind. -/
import Derived.Test.YtfnphohdipdmpaaMKeep
import Derived.Lib.BufferOwn
namespace Go.Proofs.Ytfnphohdipdmpaa.Rg
open Go.RowKit

def pt (g : Nat) : Value := .pointer (some ⟨g, 0, none⟩)

/-- Block gl is a list without elements. -/
def List0 (w : World) (gl : Nat) : Prop := w.heap[gl]? = some (.cells #[.pointer (some ⟨gl, 0, none⟩), .pointer (some ⟨gl, 0, none⟩), .pointer none, .nilIface, .int .i64 0] 79 (0, 0))

theorem set_os (w : World) (b i : Nat) (v : Value) : (w.setCell ⟨b, i, none⟩ v).os = w.os := (Lib.grownBy_setCell w b i v).os
theorem set_tape (w : World) (b i : Nat) (v : Value) : (w.setCell ⟨b, i, none⟩ v).tape = w.tape := (Lib.grownBy_setCell w b i v).tape
theorem set_output (w : World) (b i : Nat) (v : Value) : (w.setCell ⟨b, i, none⟩ v).output = w.output := (Lib.grownBy_setCell w b i v).output
theorem set_size (w : World) (b i : Nat) (v : Value) : (w.setCell ⟨b, i, none⟩ v).heap.size = w.heap.size := by simp [World.setCell]

def NewPost (w : World) (e : Ending) (w' : World) : Prop := e = .returned (.pointer (some ⟨w.heap.size, 0, none⟩)) ∧ List0 w' w.heap.size ∧ Below w.heap.size w w'

set_option maxHeartbeats 3200000 in
set_option maxRecDepth 100000 in
theorem init_any (gl : Nat) (w : World) (h : w.heap[gl]? = some (.cells #[.pointer none, .pointer none, .pointer none, .nilIface, .int .i64 0] 79 (0, 0))) :
    Calls Try.prog 38 #[.pointer (some ⟨gl, 0, none⟩)] w fun e w' => e = .returned (.pointer (some ⟨gl, 0, none⟩)) ∧ List0 w' gl ∧ w.grownBy w' (some gl) := by
  have c0 : w.cell? ⟨gl, 0, none⟩ = some (.pointer none) := by simp [World.cell?, h]
  have c1 : w.cell? ⟨gl, 1, none⟩ = some (.pointer none) := by simp [World.cell?, h]
  have c4 : w.cell? ⟨gl, 4, none⟩ = some (.int .i64 0) := by simp [World.cell?, h]
  have cf : ∀ i, w.frozen? ⟨gl, i, none⟩ = false := fun i => by simp [World.frozen?, h]
  have H := Lib.hid h
  clear h
  go_enter Try.func38, Try.ntmps38
  go_wp2
  go_ret
  have h0 := heap_setCell_same w gl 0 _ _ (.pointer (some ⟨gl, 0, none⟩)) H.out
  have h1 := heap_setCell_same _ gl 1 _ _ (.pointer (some ⟨gl, 0, none⟩)) h0
  have h2 := heap_setCell_same _ gl 4 _ _ (.int .i64 0) h1
  exact ⟨rfl, by unfold List0; simpa using h2, Lib.grownBy_setB (Lib.grownBy_setB (Lib.grownBy_setCell w gl 0 _) 1 _) 4 _⟩

set_option maxHeartbeats 3200000 in
set_option maxRecDepth 100000 in
theorem new_any (w : World) : Calls Try.prog 30 #[] w (NewPost w) := by
  have hal : Below w.heap.size w (w.alloc (.cells #[.pointer none, .pointer none, .pointer none, .nilIface, .int .i64 0] 79)) := (Below.refl _ _).alloc (Nat.le_refl _) _
  have IN := Lib.hid (init_any w.heap.size _ (heap_alloc_new w (.cells #[.pointer none, .pointer none, .pointer none, .nilIface, .int .i64 0] 79)))
  have HA := Lib.hid hal
  clear hal
  go_enter Try.func30, Try.ntmps30
  go_wp2_with fail
  refine IN.out.mono ?_
  rintro e w1 ⟨rfl, h1, hg⟩
  have HL := Lib.hid h1
  have HG := Lib.hid (HA.out.grown hg (by have := HA.out.size; omega) (fun j hj => by cases hj; exact Nat.le_refl _))
  clear h1 hg
  go_wp2
  go_ret
  exact ⟨rfl, HL.out, HG.out⟩

def PushPost (w : World) (gl : Nat) (v : Value) (e : Ending) (w' : World) : Prop := ∃ ge : Nat, e = .returned (.pointer (some ⟨ge, 0, none⟩)) ∧ w.heap.size ≤ ge ∧ w.grownBy w' (some gl) ∧
  w'.heap[gl]? = some (.cells #[.pointer (some ⟨ge, 0, none⟩), .pointer (some ⟨ge, 0, none⟩), .pointer none, .nilIface, .int .i64 1] 79 (0, 0)) ∧
  w'.heap[ge]? = some (.cells #[.pointer (some ⟨gl, 0, none⟩), .pointer (some ⟨gl, 0, none⟩), .pointer (some ⟨gl, 0, none⟩), v] 77 (0, 0))

set_option maxHeartbeats 3200000 in
set_option maxRecDepth 100000 in
theorem insert_any (gl ge : Nat) (t : TypeId) (x : Value) (w : World) (hne : ge ≠ gl) (hl : List0 w gl) (he : w.heap[ge]? = some (.cells #[.pointer none, .pointer none, .pointer none, .iface t x] 77 (0, 0))) :
    Calls Try.prog 47 #[.pointer (some ⟨gl, 0, none⟩), .pointer (some ⟨ge, 0, none⟩), .pointer (some ⟨gl, 0, none⟩)] w fun e w' => e = .returned (.pointer (some ⟨ge, 0, none⟩)) ∧ w'.heap.size = w.heap.size ∧ (∀ k, k ≠ gl → k ≠ ge → w'.heap[k]? = w.heap[k]?) ∧ (w'.os = w.os ∧ w'.tape = w.tape ∧ w'.output = w.output) ∧
      w'.heap[gl]? = some (.cells #[.pointer (some ⟨ge, 0, none⟩), .pointer (some ⟨ge, 0, none⟩), .pointer none, .nilIface, .int .i64 1] 79 (0, 0)) ∧
      w'.heap[ge]? = some (.cells #[.pointer (some ⟨gl, 0, none⟩), .pointer (some ⟨gl, 0, none⟩), .pointer (some ⟨gl, 0, none⟩), .iface t x] 77 (0, 0)) := by
  unfold List0 at hl
  have c0 : w.cell? ⟨gl, 0, none⟩ = some (.pointer (some ⟨gl, 0, none⟩)) := by simp [World.cell?, hl]
  have c1 : w.cell? ⟨gl, 1, none⟩ = some (.pointer (some ⟨gl, 0, none⟩)) := by simp [World.cell?, hl]
  have c4 : w.cell? ⟨gl, 4, none⟩ = some (.int .i64 0) := by simp [World.cell?, hl]
  have cf : ∀ i, w.frozen? ⟨gl, i, none⟩ = false := fun i => by simp [World.frozen?, hl]
  have d0 : w.cell? ⟨ge, 0, none⟩ = some (.pointer none) := by simp [World.cell?, he]
  have d1 : w.cell? ⟨ge, 1, none⟩ = some (.pointer none) := by simp [World.cell?, he]
  have d2 : w.cell? ⟨ge, 2, none⟩ = some (.pointer none) := by simp [World.cell?, he]
  have df : ∀ i, w.frozen? ⟨ge, i, none⟩ = false := fun i => by simp [World.frozen?, he]
  have hne' : gl ≠ ge := fun e => hne e.symm
  have HL := Lib.hid hl
  have HE := Lib.hid he
  clear hl he
  go_enter Try.func47, Try.ntmps47
  go_wp2
  go_ret
  refine ⟨rfl, by rw [set_size, set_size, set_size, set_size, set_size, set_size], ?_, ⟨by rw [set_os, set_os, set_os, set_os, set_os, set_os], by rw [set_tape, set_tape, set_tape, set_tape, set_tape, set_tape], by rw [set_output, set_output, set_output, set_output, set_output, set_output]⟩, ?_, ?_⟩
  · intro k h1 h2
    rw [heap_setCell_other _ _ _ _ h1, heap_setCell_other _ _ _ _ h2, heap_setCell_other _ _ _ _ h1, heap_setCell_other _ _ _ _ h1, heap_setCell_other _ _ _ _ h2, heap_setCell_other _ _ _ _ h2]
  · have L1 := (heap_setCell_other w ⟨ge, 1, none⟩ gl (.pointer (some ⟨gl, 0, none⟩)) hne').trans HL.out
    have L2 := (heap_setCell_other _ ⟨ge, 0, none⟩ gl (.pointer (some ⟨gl, 0, none⟩)) hne').trans L1
    have L3 := heap_setCell_same _ gl 0 _ _ (.pointer (some ⟨ge, 0, none⟩)) L2
    have L4 := heap_setCell_same _ gl 1 _ _ (.pointer (some ⟨ge, 0, none⟩)) L3
    have L5 := (heap_setCell_other _ ⟨ge, 2, none⟩ gl (.pointer (some ⟨gl, 0, none⟩)) hne').trans L4
    have L6 := heap_setCell_same _ gl 4 _ _ (.int .i64 1) L5
    simpa using L6
  · have L1 := heap_setCell_same w ge 1 _ _ (.pointer (some ⟨gl, 0, none⟩)) HE.out
    have L2 := heap_setCell_same _ ge 0 _ _ (.pointer (some ⟨gl, 0, none⟩)) L1
    have L3 := (heap_setCell_other _ ⟨gl, 0, none⟩ ge (.pointer (some ⟨ge, 0, none⟩)) hne).trans L2
    have L4 := (heap_setCell_other _ ⟨gl, 1, none⟩ ge (.pointer (some ⟨ge, 0, none⟩)) hne).trans L3
    have L5 := heap_setCell_same _ ge 2 _ _ (.pointer (some ⟨gl, 0, none⟩)) L4
    have L6 := (heap_setCell_other _ ⟨gl, 4, none⟩ ge (.int .i64 1) hne).trans L5
    simpa using L6

set_option maxHeartbeats 3200000 in
set_option maxRecDepth 100000 in
theorem lazy_any (gl : Nat) (w : World) (hl : List0 w gl) : Calls Try.prog 39 #[.pointer (some ⟨gl, 0, none⟩)] w fun e w' => e = .returned (.tuple #[]) ∧ w' = w := by
  unfold List0 at hl
  have c0 : w.cell? ⟨gl, 0, none⟩ = some (.pointer (some ⟨gl, 0, none⟩)) := by simp [World.cell?, hl]
  clear hl
  go_enter Try.func39, Try.ntmps39
  go_wp2
  go_end0
  exact ⟨rfl, rfl⟩

set_option maxHeartbeats 3200000 in
set_option maxRecDepth 100000 in
theorem insertv_any (gl : Nat) (t : TypeId) (x : Value) (w : World) (hl : List0 w gl) :
    Calls Try.prog 40 #[.pointer (some ⟨gl, 0, none⟩), .iface t x, .pointer (some ⟨gl, 0, none⟩)] w (PushPost w gl (.iface t x)) := by
  have hlt : gl < w.heap.size := (Array.getElem?_eq_some_iff.1 hl).1
  have hal : Below w.heap.size w (w.alloc (.cells #[.pointer none, .pointer none, .pointer none, .iface t x] 77)) := (Below.refl _ _).alloc (Nat.le_refl _) _
  have IN := Lib.hid (insert_any gl w.heap.size t x _ (by omega) ((hal.block gl hlt).trans hl) (heap_alloc_new w (.cells #[.pointer none, .pointer none, .pointer none, .iface t x] 77)))
  have HA := Lib.hid hal
  clear hl hal
  go_enter Try.func40, Try.ntmps40
  go_wp2_with fail
  refine IN.out.mono ?_
  rintro e w1 ⟨rfl, hsz, hoth, ⟨ho, ht, hou⟩, h1, h2⟩
  have HH := Lib.hid (show w.grownBy w1 (some gl) ∧ _ ∧ _ from ⟨⟨ho.trans HA.out.os, ht.trans HA.out.tape, hou.trans HA.out.output, by have := HA.out.size; omega, fun k hk hne => (hoth k (fun e => hne (by rw [e])) (by omega)).trans (HA.out.block k hk)⟩, h1, h2⟩)
  clear hsz hoth ho ht hou h1 h2 IN
  go_wp2
  go_ret
  exact ⟨_, rfl, Nat.le_refl _, HH.out.1, HH.out.2.1, HH.out.2.2⟩

set_option maxHeartbeats 3200000 in
set_option maxRecDepth 100000 in
theorem push_any (gl : Nat) (t : TypeId) (x : Value) (w : World) (hl : List0 w gl) :
    Calls Try.prog 31 #[.pointer (some ⟨gl, 0, none⟩), .iface t x] w (PushPost w gl (.iface t x)) := by
  have LZ := Lib.hid (lazy_any gl w hl)
  have IV := Lib.hid (insertv_any gl t x w hl)
  unfold List0 at hl
  have c1 : w.cell? ⟨gl, 1, none⟩ = some (.pointer (some ⟨gl, 0, none⟩)) := by simp [World.cell?, hl]
  clear hl
  go_enter Try.func31, Try.ntmps31
  go_wp2_with fail
  refine LZ.out.mono ?_
  rintro e w1 ⟨rfl, rfl⟩
  clear LZ
  go_wp2_with fail
  refine IV.out.mono ?_
  rintro e w1 ⟨ge, rfl, h1, h2, h3, h4⟩
  have HH := Lib.hid (show _ ∧ _ ∧ _ ∧ _ from ⟨h1, h2, h3, h4⟩)
  clear h1 h2 h3 h4 IV
  go_wp2
  go_ret
  exact ⟨ge, rfl, HH.out.1, HH.out.2.1, HH.out.2.2.1, HH.out.2.2.2⟩
end Go.Proofs.Ytfnphohdipdmpaa.Rg
