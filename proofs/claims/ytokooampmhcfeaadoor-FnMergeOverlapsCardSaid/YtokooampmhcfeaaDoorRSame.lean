/- Two lists with the same areas: the specification's comparison says yes. -/
import Derived.Test.YtokooampmhcfeaaDoorRReadOne
import Derived.Laws.StructEq
import Derived.ChangeKeysEq
namespace Go.Proofs.YtokooampmhcfeaaDoor.Rg
open Go.RowKit

/-- The slice reads as the list of areas. -/
def Rd4 (w : World) (A : Option Addr) (L : List Ar) : Prop :=
  0 < L.length → ∃ g, A = some ⟨g, 0, none⟩ ∧ g < w.heap.size ∧ ∀ j u, (L.flatMap Ar.cells)[j]? = some u → w.cell? ⟨g, j, none⟩ = some u

theorem OwnsR.reads {w : World} {B : Nat} {A : Option Addr} {m c : Nat} {L : List Ar} (h : OwnsR w B A m c L) : Rd4 w A L := by
  intro hn
  have ho := h.own
  rcases ho.2 with ⟨h0, h1⟩ | ⟨g, cap, cur, hv, hg⟩
  · have hl := h.len
    omega
  · simp only [Value.slice.injEq] at hv
    obtain ⟨rfl, _, rfl⟩ := hv
    refine ⟨g, rfl, (ho.lt g rfl).2, fun j u hu => ?_⟩
    have := ho.cells (g := g) rfl j u hu
    rwa [addAt] at this

theorem Rd4.later {w w' : World} {A : Option Addr} {L : List Ar} (h : Rd4 w A L) (hb : Below w.heap.size w w') : Rd4 w' A L := by
  intro hn
  obtain ⟨g, hA, hg, hc⟩ := h hn
  exact ⟨g, hA, Nat.lt_of_lt_of_le hg hb.size, fun j u hu => (hb.cell (p := ⟨g, j, none⟩) hg).trans (hc j u hu)⟩

/-- The cell j of element k of a list of records. -/
theorem flat_cell {α : Type} (f : α → List Value) (s : Nat) (hf : ∀ a, (f a).length = s) (l : List α) (k j : Nat) (a : α) (hk : l[k]? = some a) (hj : j < s) : (l.flatMap f)[k * s + j]? = (f a)[j]? := by
  induction l generalizing k with
  | nil => simp at hk
  | cons b l ih =>
    rw [List.flatMap_cons]
    cases k with
    | zero =>
      simp at hk
      subst hk
      rw [List.getElem?_append_left (by rw [hf]; omega)]
      congr 1
      omega
    | succ k =>
      rw [List.getElem?_append_right (by rw [hf, Nat.add_mul]; omega)]
      have e : (k + 1) * s + j - (f b).length = k * s + j := by rw [hf, Nat.add_mul]; omega
      rw [e]
      exact ih k (by simpa using hk)

/-- The four cells of element k. -/
structure At4 (w : World) (g k : Nat) (a : Ar) : Prop where
  c0 : w.cell? ⟨g, k * 4, none⟩ = some (.int .i64 a.p)
  c1 : w.cell? ⟨g, k * 4 + 1, none⟩ = some (.int .i64 a.q)
  c2 : w.cell? ⟨g, k * 4 + 2, none⟩ = some (.int .i64 a.x)
  c3 : w.cell? ⟨g, k * 4 + 3, none⟩ = some (.int .i64 a.y)

theorem At4.later {w w' : World} {g k : Nat} {a : Ar} (h : At4 w g k a) (hg : g < w.heap.size) (hb : Below w.heap.size w w') : At4 w' g k a :=
  ⟨(hb.cell (p := ⟨g, k * 4, none⟩) hg).trans h.c0, (hb.cell (p := ⟨g, k * 4 + 1, none⟩) hg).trans h.c1, (hb.cell (p := ⟨g, k * 4 + 2, none⟩) hg).trans h.c2, (hb.cell (p := ⟨g, k * 4 + 3, none⟩) hg).trans h.c3⟩

theorem Rd4.at {w : World} {A : Option Addr} {L : List Ar} (h : Rd4 w A L) (k : Nat) (hk : k < L.length) : ∃ g, A = some ⟨g, 0, none⟩ ∧ g < w.heap.size ∧ ∀ j (hj : j < L.length), At4 w g j L[j] := by
  obtain ⟨g, hA, hg, hc⟩ := h (by omega)
  refine ⟨g, hA, hg, fun j hj => ?_⟩
  have h4 := fun i hi => flat_cell Ar.cells 4 Ar.cells_len L j i L[j] (List.getElem?_eq_getElem hj) hi
  exact ⟨hc _ _ (h4 0 (by omega)), hc _ _ (h4 1 (by omega)), hc _ _ (h4 2 (by omega)), hc _ _ (h4 3 (by omega))⟩

theorem part_int (a0 a1 a2 a3 : Int) (w : World) : (part 3 #[.int .i64 a0, .int .i64 a1, .int .i64 a2, .int .i64 a3] 0).run Tryd.prog w = .ok (.int .i64 a0) w ∧ (part 3 #[.int .i64 a0, .int .i64 a1, .int .i64 a2, .int .i64 a3] 1).run Tryd.prog w = .ok (.int .i64 a1) w ∧ (part 3 #[.int .i64 a0, .int .i64 a1, .int .i64 a2, .int .i64 a3] 2).run Tryd.prog w = .ok (.int .i64 a2) w ∧ (part 3 #[.int .i64 a0, .int .i64 a1, .int .i64 a2, .int .i64 a3] 3).run Tryd.prog w = .ok (.int .i64 a3) w := by
  refine ⟨?_, ?_, ?_, ?_⟩ <;> kernel_rfl
set_option maxHeartbeats 1000000 in
theorem eq_four_d (d : Nat) (a0 a1 a2 a3 b0 b1 b2 b3 : Int) (w : World) : (Op.equalIn (d + 1 + 1) 22 (.agg #[.int .i64 a0, .int .i64 a1, .int .i64 a2, .int .i64 a3]) (.agg #[.int .i64 b0, .int .i64 b1, .int .i64 b2, .int .i64 b3])).run Tryd.prog w = .ok (a0 == b0 && (a1 == b1 && (a2 == b2 && a3 == b3))) w := by
  obtain ⟨i0, hi, hz0, hz1, hz2⟩ := info_parts infoInt
  have hc : Tryd.prog.cellsOf 3 = 1 := by kernel_rfl
  rw [run_equalIn_array w (d + 1) _ _ Tryd.underlying22 hi, hc]
  have e : List.range 4 = [0, 1, 2, 3] := rfl
  obtain ⟨p0, p1, p2, p3⟩ := part_int a0 a1 a2 a3 w
  obtain ⟨q0, q1, q2, q3⟩ := part_int b0 b1 b2 b3 w
  rw [e]
  have g := fun a b => run_equalIn_int w d 3 .i64 .i64 a b Tryd.underlying3
  cases h0 : (a0 == b0)
  · simp [Op.eqItems, Sem.run_bind, p0, q0, g, h0]
  · cases h1 : (a1 == b1)
    · simp [Op.eqItems, Sem.run_bind, p0, q0, p1, q1, g, h0, h1]
    · cases h2 : (a2 == b2)
      · simp [Op.eqItems, Sem.run_bind, p0, q0, p1, q1, p2, q2, g, h0, h1, h2]
      · cases h3 : (a3 == b3) <;> simp [Op.eqItems, Sem.run_bind, p0, q0, p1, q1, p2, q2, p3, q3, g, h0, h1, h2, h3]
theorem eq_four (a0 a1 a2 a3 b0 b1 b2 b3 : Int) (w : World) : (Op.equalIn 10000 22 (.agg #[.int .i64 a0, .int .i64 a1, .int .i64 a2, .int .i64 a3]) (.agg #[.int .i64 b0, .int .i64 b1, .int .i64 b2, .int .i64 b3])).run Tryd.prog w = .ok (a0 == b0 && (a1 == b1 && (a2 == b2 && a3 == b3))) w := eq_four_d 9998 a0 a1 a2 a3 b0 b1 b2 b3 w

set_option maxHeartbeats 1600000 in
set_option maxRecDepth 100000 in
theorem gsame_any (A B : Option Addr) (n c d : Nat) (L : List Ar) (w : World) (hn : n = L.length) (hn2 : n ≤ 1000) (hA : Rd4 w A L) (hB : Rd4 w B L) :
    Calls Tryd.prog 33 #[.slice A n c, .slice B n d] w fun e w' => e = .returned (.bool true) ∧ Below w.heap.size w w' := by
  have hnn : ((n : Int) != (n : Int)) = false := by simp
  have HN := Lib.hid hn
  clear hn
  have HA := Lib.hid hA
  have HB := Lib.hid hB
  clear hA hB
  go_enter Tryd.func33, Tryd.ntmps33
  go_wp2
  go_loopw [5] (fun i wr => ∃ k : Nat, k ≤ n ∧ i = .int .i64 k ∧ Below w.heap.size w wr) (fun i _ => n - (intOf i).toNat)
  case atStart => exact ⟨0, by omega, rfl, Below.refl _ _⟩
  case round =>
    obtain ⟨i, hi, rfl, hb⟩ := hrel
    by_cases hlt : i < n
    · obtain ⟨wo, rfl⟩ : ∃ wo : World, wo = wr := ⟨_, rfl⟩
      go_wp2
      go_loopw [6, 7, 8] (fun x y z wr => ∃ k u : Nat, k ≤ n ∧ u ≤ k ∧ z = .int .i64 k ∧ x = .int .i64 u ∧ y = .int .i64 u ∧ Below w.heap.size w wr) (fun _ _ z _ => n - (intOf z).toNat)
      case atStart => exact ⟨0, 0, by omega, by omega, rfl, rfl, rfl, hb⟩
      case round =>
        obtain ⟨k, u, hk, hu, rfl, rfl, rfl, hbk⟩ := hrel
        by_cases hkn : k < n
        · obtain ⟨ga, rfl, hga, hca⟩ := (HA.out.later hbk).at k (by rw [← HN.out]; exact hkn)
          obtain ⟨gb, rfl, hgb, hcb⟩ := (HB.out.later hbk).at k (by rw [← HN.out]; exact hkn)
          have ha := hca k (by rw [← HN.out]; exact hkn)
          have hai := hca i (by rw [← HN.out]; exact hlt)
          have hbb := hcb k (by rw [← HN.out]; exact hkn)
          generalize L[k]'(by rw [← HN.out]; exact hkn) = ak at ha hbb
          generalize L[i]'(by rw [← HN.out]; exact hlt) = ai at hai
          clear hca hcb
          have i0 : (0 : Int) ≤ (i : Int) := by omega
          have i1 : (i : Int) < (n : Int) := by omega
          have k0 : (0 : Int) ≤ (k : Int) := by omega
          have k1 : (k : Int) < (n : Int) := by omega
          have hgd : Tryd.prog.eqGuardType Tryd.prog.depth 22 = false := by kernel_rfl
          have heq := fun w => eq_four ak.p ak.q ak.x ak.y ai.p ai.q ai.x ai.y w
          generalize (ak.p == ai.p && (ak.q == ai.q && (ak.x == ai.x && ak.y == ai.y))) = t at heq
          have hs1 : (u : Int) + 1 ≤ 1001 := by omega
          obtain ⟨a0, a1, a2, a3⟩ := ha
          obtain ⟨b0, b1, b2, b3⟩ := hai
          cases t
          all_goals
            go_wp2_with fail
            go_quiet (fail)
            have hb1 := hbk.trans ((below_drewN wr nq).mono hbk.size)
            have hai1 := (At4.mk b0 b1 b2 b3).later hga (below_drewN wr nq)
            have hbb1 := hbb.later hgb (below_drewN wr nq)
            clear a0 a1 a2 a3 b0 b1 b2 b3 hbb
            generalize wr.drewN nq = w1 at *
            obtain ⟨b0, b1, b2, b3⟩ := hai1
            obtain ⟨d0, d1, d2, d3⟩ := hbb1
            go_wp2_with fail
            go_quiet (fail)
            have hb2 := hb1.trans ((below_drewN w1 nq).mono hb1.size)
            clear b0 b1 b2 b3 d0 d1 d2 d3
            generalize w1.drewN nq = w2 at *
            go_wp2
            go_roundw
          case rel => exact ⟨k + 1, u, by omega, by omega, by go_num, rfl, rfl, hb2⟩
          case measure => simp [intOf]; omega
          case rel => exact ⟨k + 1, u + 1, by omega, by omega, by go_num, by go_num, by go_num, hb2⟩
          case measure => simp [intOf]; omega
        · obtain rfl : k = n := by omega
          have huu : ((u : Int) != (u : Int)) = false := by simp
          go_wp2
          go_roundw
          case rel => exact ⟨i + 1, by omega, by go_num, hbk⟩
          case measure => simp [intOf]; omega
    · go_wp2
      go_ret
      exact ⟨rfl, hb⟩
end Go.Proofs.YtokooampmhcfeaaDoor.Rg
