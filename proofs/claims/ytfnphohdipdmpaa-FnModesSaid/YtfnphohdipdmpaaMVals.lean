/- Values of the reference and of the program: numbers, and what makes them. -/
import Derived.Test.YtfnphohdipdmpaaMKeep
namespace Go.Proofs.Ytfnphohdipdmpaa.Rg
open Go.RowKit

def nilS : Value := .slice none 0 0
def emptyT : Value := .string ⟨#[]⟩

/-- The five cells of a number of the reference. -/
def svCells (z : Int) : List Value := [.int .i64 1, .int .i64 z, .int .i64 1, .string ⟨#[]⟩, .slice none 0 0]
def sv (z : Int) : Value := .agg #[.int .i64 1, .int .i64 z, .int .i64 1, .string ⟨#[]⟩, .slice none 0 0]
def doubtV : Value := .agg #[.int .i64 6, .int .i64 0, .int .i64 0, .string ⟨#[]⟩, .slice none 0 0]

/-- The bits of a whole number as a float. -/
def fl (z : Int) : Nat := floatOfInt .f64 z

def small : List Int := (List.range 19).map fun n : Nat => (n : Int) - 9
theorem mem_small {z : Int} (h1 : -9 ≤ z) (h2 : z ≤ 9) : z ∈ small := by
  unfold small
  refine List.mem_map.2 ⟨(z + 9).toNat, List.mem_range.2 (by omega), by omega⟩
theorem fl_facts : (small.all fun x => (floatBits .quo .f64 (fl x) (fl 1) == some (fl x)) && (FloatKind.f64.format.order (fl x) (fl x) == some .eq) && small.all fun y => (FloatKind.f64.format.order (fl x) (fl y) == some .eq) == decide (x = y)) = true := by decide +kernel
theorem fl_quo {z : Int} (h1 : -9 ≤ z) (h2 : z ≤ 9) : floatBits .quo .f64 (fl z) (fl 1) = some (fl z) := by
  have := List.all_eq_true.1 fl_facts z (mem_small h1 h2)
  simp only [Bool.and_eq_true, beq_iff_eq] at this
  exact this.1.1
theorem fl_eq {x y : Int} (h1 : -9 ≤ x) (h2 : x ≤ 9) (h3 : -9 ≤ y) (h4 : y ≤ 9) : (FloatKind.f64.format.order (fl x) (fl y) == some .eq) = decide (x = y) := by
  have := List.all_eq_true.1 fl_facts x (mem_small h1 h2)
  simp only [Bool.and_eq_true] at this
  have := List.all_eq_true.1 this.2 y (mem_small h3 h4)
  simpa using this
theorem fl_zero : fl 0 = 0 := by decide +kernel

set_option maxHeartbeats 1600000 in
set_option maxRecDepth 100000 in
theorem doubt_any (w : World) : Calls Try.prog 13 #[] w fun e w' => e = .returned doubtV ∧ Below w.heap.size w w' := by
  go_enter Try.func13, Try.ntmps13
  go_wp2
  (try simp only [Exit.inBlock, Exit.then])
  exact bodyPost_ret (v := doubtV) (by simp [results, Try.results13, go_sem, doubtV]) rfl ⟨rfl, (Below.refl _ _).alloc (Nat.le_refl _) _⟩

set_option maxHeartbeats 1600000 in
set_option maxRecDepth 100000 in
theorem int_any (z : Int) (w : World) (h1 : -100 ≤ z) (h2 : z ≤ 100) : Calls Try.prog 10 #[.int .i64 z] w fun e w' => e = .returned (sv z) ∧ Below w.heap.size w w' := by
  have g1 : ¬ (99999999999 : Int) < z := by omega
  have g2 : ¬ z < (-99999999999 : Int) := by omega
  go_enter Try.func10, Try.ntmps10
  go_wp2
  (try simp only [Exit.inBlock, Exit.then])
  exact bodyPost_ret (v := sv z) (by simp [results, Try.results10, go_sem, sv]) rfl ⟨rfl, (Below.refl _ _).alloc (Nat.le_refl _) _⟩

set_option maxHeartbeats 1600000 in
set_option maxRecDepth 100000 in
theorem err_any (s : ByteArray) (w : World) : Calls Try.prog 20 #[.string s] w fun e w' => e = .returned (.agg #[.int .i64 4, .int .i64 0, .int .i64 0, .string s, .slice none 0 0]) ∧ Below w.heap.size w w' := by
  go_enter Try.func20, Try.ntmps20
  go_wp2
  (try simp only [Exit.inBlock, Exit.then])
  exact bodyPost_ret (v := .agg #[.int .i64 4, .int .i64 0, .int .i64 0, .string s, .slice none 0 0]) (by simp [results, Try.results20, go_sem]) rfl ⟨rfl, (Below.refl _ _).alloc (Nat.le_refl _) _⟩

set_option maxHeartbeats 1600000 in
set_option maxRecDepth 100000 in
theorem table_any (A : Option Addr) (n c : Nat) (w : World) : Calls Try.prog 18 #[.slice A n c] w fun e w' => e = .returned (.agg #[.int .i64 5, .int .i64 0, .int .i64 0, .string ⟨#[]⟩, .slice A n c]) ∧ Below w.heap.size w w' := by
  go_enter Try.func18, Try.ntmps18
  go_wp2
  (try simp only [Exit.inBlock, Exit.then])
  exact bodyPost_ret (v := .agg #[.int .i64 5, .int .i64 0, .int .i64 0, .string ⟨#[]⟩, .slice A n c]) (by simp [results, Try.results18, go_sem]) rfl ⟨rfl, (Below.refl _ _).alloc (Nat.le_refl _) _⟩

set_option maxHeartbeats 1600000 in
set_option maxRecDepth 100000 in
theorem same_sv (x y : Int) (w : World) : Calls Try.prog 21 #[sv x, sv y] w fun e w' => e = .returned (.bool (decide (x = y))) ∧ Below w.heap.size w w' := by
  have hal : Below w.heap.size w ((w.alloc (.cells #[.int .i64 1, .int .i64 x, .int .i64 1, .string ⟨#[]⟩, .slice none 0 0] 26)).alloc (.cells #[.int .i64 1, .int .i64 y, .int .i64 1, .string ⟨#[]⟩, .slice none 0 0] 26)) := ((Below.refl _ _).alloc (Nat.le_refl _) _).alloc (by simp) _
  unfold sv
  by_cases h : x = y
  · subst h
    go_enter Try.func21, Try.ntmps21
    go_wp2
    go_loopw [5] (fun u wr => u = .int .i64 0 ∧ Below w.heap.size w wr ∧ wr.cell? ⟨w.heap.size, 4, none⟩ = some (.slice none 0 0)) (fun _ _ => 0)
    case atStart => exact ⟨rfl, hal, by simp [go_sem]⟩
    case round =>
      obtain ⟨rfl, hb, c4⟩ := hrel
      go_wp2
      go_ret
      exact ⟨by simp, hb⟩
  · have hne : (x == y) = false := beq_false_of_ne h
    go_enter Try.func21, Try.ntmps21
    go_wp2
    go_ret
    exact ⟨by simp [h], hal⟩
end Go.Proofs.Ytfnphohdipdmpaa.Rg
