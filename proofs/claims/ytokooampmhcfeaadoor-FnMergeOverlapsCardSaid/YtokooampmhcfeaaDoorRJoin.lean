/- The smallest area that holds two, and any four numbers made an area of two cells at least. -/
import Derived.Test.YtokooampmhcfeaaDoorRArea
namespace Go.Proofs.YtokooampmhcfeaaDoor.Rg
open Go.RowKit

def join (a b : Ar) : Ar := ⟨min a.p b.p, min a.q b.q, max a.x b.x, max a.y b.y⟩

set_option maxHeartbeats 1600000 in
set_option maxRecDepth 100000 in
theorem join_any (a b : Ar) (w : World) :
    Calls Tryd.prog 23 #[a.val, b.val] w fun e w' => e = .returned (join a b).val ∧ Below w.heap.size w w' := by
  obtain ⟨a0, a1, a2, a3⟩ := a
  obtain ⟨b0, b1, b2, b3⟩ := b
  simp only [Ar.val, join]
  have FA := Four.made w a0 a1 a2 a3 22
  obtain ⟨wA, hA⟩ : ∃ wA, wA = w.alloc (.cells #[.int .i64 a0, .int .i64 a1, .int .i64 a2, .int .i64 a3] 22) := ⟨_, rfl⟩
  rw [← hA] at FA
  have FB := (Four.made wA b0 b1 b2 b3 22).under FA.below
  replace FA := FA.later ((Below.refl _ _).alloc (Nat.le_refl _) (.cells #[.int .i64 b0, .int .i64 b1, .int .i64 b2, .int .i64 b3] 22))
  have hAz : wA.heap.size = w.heap.size + 1 := by rw [hA]; simp [go_sem]
  obtain ⟨wB, hB⟩ : ∃ wB, wB = wA.alloc (.cells #[.int .i64 b0, .int .i64 b1, .int .i64 b2, .int .i64 b3] 22) := ⟨_, rfl⟩
  rw [← hB] at FA FB
  have FZ := (Four.made wB 0 0 0 0 22).under FB.below
  replace FA := FA.later ((Below.refl _ _).alloc (Nat.le_refl _) (.cells #[.int .i64 0, .int .i64 0, .int .i64 0, .int .i64 0] 22))
  replace FB := FB.later ((Below.refl _ _).alloc (Nat.le_refl _) (.cells #[.int .i64 0, .int .i64 0, .int .i64 0, .int .i64 0] 22))
  have hBz : wB.heap.size = w.heap.size + 1 + 1 := by rw [hB]; simp [go_sem, hAz]
  go_enter Tryd.func23, Tryd.ntmps23
  go_upto_region 1 with fail
  rw [← hA, ← hB, ← hBz, ← hAz]
  generalize wB.alloc (.cells #[.int .i64 0, .int .i64 0, .int .i64 0, .int .i64 0] 22) = wC at *
  generalize wB.heap.size = g3 at *
  generalize wA.heap.size = g2 at *
  generalize w.heap.size = g1 at FA ⊢
  clear hA hAz hB hBz
  have c0 := FA.c0
  have c1 := FA.c1
  have c2 := FA.c2
  have c3 := FA.c3
  have d0 := FB.c0
  have d1 := FB.c1
  have d2 := FB.c2
  have d3 := FB.c3
  have e0 := FZ.c0
  have e1 := FZ.c1
  have e2 := FZ.c2
  have e3 := FZ.c3
  have f0 := FZ.free 0
  have f1 := FZ.free 1
  have f2 := FZ.free 2
  have f3 := FZ.free 3
  go_wp2
  have FE := (((FZ.set0 (min a0 b0)).set1 (min a1 b1)).set2 (max a2 b2)).set3 (max a3 b3)
  clear c0 c1 c2 c3 d0 d1 d2 d3 e0 e1 e2 e3 f0 f1 f2 f3 FZ FA FB
  generalize (((wC.setCell ⟨g3, 0, none⟩ (.int .i64 (min a0 b0))).setCell ⟨g3, 1, none⟩ (.int .i64 (min a1 b1))).setCell ⟨g3, 2, none⟩ (.int .i64 (max a2 b2))).setCell ⟨g3, 3, none⟩ (.int .i64 (max a3 b3)) = wE at *
  have c0 := FE.c0
  have c1 := FE.c1
  have c2 := FE.c2
  have c3 := FE.c3
  exact bodyPost_ret (v := .agg #[.int .i64 (min a0 b0), .int .i64 (min a1 b1), .int .i64 (max a2 b2), .int .i64 (max a3 b3)]) (by simp [results, Tryd.results23, go_sem, c0, c1, c2, c3]) rfl ⟨rfl, FE.below⟩
end Go.Proofs.YtokooampmhcfeaaDoor.Rg
