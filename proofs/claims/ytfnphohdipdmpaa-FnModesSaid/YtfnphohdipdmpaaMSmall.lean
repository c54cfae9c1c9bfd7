/- The statement's own numbers: whole, of one digit, at most sixty. -/
import Derived.Test.YtfnphohdipdmpaaMVals
import Derived.ProofKit
import Derived.OpenShut
namespace Go.Proofs.Ytfnphohdipdmpaa.Rg
open Go.RowKit Go.ChangeShapes Go.WideShapes Go.ChangeAt

theorem infoInt : (Try.prog.info? 3).map (fun i => (i.zero, i.size, i.bytes)) = some (some (.int .i64 0), 1, 8) := by kernel_rfl

/-- The argument's numbers. -/
def ArgI (w : World) (A : Option Addr) (n : Nat) : Prop :=
  0 < n → ∃ b off, A = some ⟨b, off, none⟩ ∧ b < w.heap.size ∧ ∀ k, k < n → ∃ z : Int, w.cell? ⟨b, off + k, none⟩ = some (.int .i64 z)

theorem ArgI.later {w w' : World} {A : Option Addr} {n : Nat} (h : ArgI w A n) (hb : Below w.heap.size w w') : ArgI w' A n := by
  intro hn
  obtain ⟨b, off, hA, hbl, hc⟩ := h hn
  refine ⟨b, off, hA, Nat.lt_of_lt_of_le hbl hb.size, fun k hk => ?_⟩
  obtain ⟨z, c⟩ := hc k hk
  exact ⟨z, (hb.cell (p := ⟨b, off + k, none⟩) hbl).trans c⟩

/-- The slice is a row of these numbers, made since B. -/
structure OwnsI (w : World) (B : Nat) (A : Option Addr) (m c : Nat) (X : List Int) : Prop where
  own : w.ownsRow B 3 1 (.slice A m c) m (X.map (Value.int .i64))
  len : m = X.length

theorem OwnsI.later {w w' : World} {B : Nat} {A : Option Addr} {m c : Nat} {X : List Int} (h : OwnsI w B A m c X) (hb : Below w.heap.size w w') : OwnsI w' B A m c X := ⟨own_below h.own hb, h.len⟩

theorem open_ints_of {P : Program} {t q : TypeId} (ht : P.underlying t = some (.slice q)) (hq : P.underlying q = some (.int .i64)) (h1 : P.cellsOf q = 1) {H : Type} {enc : TypeId × Value → H} {W : World} {A : Option Addr} {len cap : Nat} {d : DataW H} {p : List MemPlace} (h : DataW.Trod enc P W 0 (fun _ => true) true t (.slice A len cap) d p) (hp : 0 < len) :
    ∃ b off, A = some ⟨b, off, none⟩ ∧ ∀ k, k < len → ∃ z : Int, W.cell? ⟨b, off + k, none⟩ = some (.int .i64 z) := by
  obtain ⟨fuel, hf⟩ := h
  rcases DataW.trod_slice ht hf with ⟨hcs, _⟩ | ⟨a, len', cap', elems, rest, n, _, hcs, _, hb, hl, hm, hlen, hel, _⟩
  · simp [Value.cells] at hcs
    omega
  · simp only [Value.cells] at hcs
    injection hcs with hcs _
    injection hcs with hA hn hc
    subst hA
    subst hn
    obtain ⟨b, off, spot⟩ := a
    have each : ∀ k, k < len → ∃ z : Int, W.cell? ((⟨b, off, spot⟩ : Addr).add k) = some (.int .i64 z) := by
      intro k hk
      have hE := hel k hk
      rw [h1, Nat.mul_one, List.getElem?_eq_getElem (by omega), Option.bind_eq_some_iff] at hE
      obtain ⟨cs', hc1, hc2⟩ := hE
      obtain ⟨z, e1, _, _⟩ := DataW.trod_int hq hc2
      refine ⟨z, ?_⟩
      unfold World.cells? at hc1
      rw [if_pos (Nat.zero_le _)] at hc1
      have h3 := mapM_some_get hc1 0 0 (by simp)
      rw [e1] at h3
      simpa [Addr.add] using h3
    obtain ⟨z0, hz0⟩ := each 0 hp
    have hspot : spot = none := by
      have := World.cell?_spot hz0
      simpa [Addr.add] using this
    subst hspot
    refine ⟨b, off, rfl, fun k hk => ?_⟩
    obtain ⟨z, hz⟩ := each k hk
    refine ⟨z, ?_⟩
    rwa [Go.WideShapes.add_plain] at hz

set_option maxRecDepth 100000 in
theorem open_ints {H : Type} {enc : TypeId × Value → H} {W : World} {A : Option Addr} {len cap : Nat} {d : DataW H} {p : List MemPlace} (h : DataW.Trod enc Try.prog W 0 (fun _ => true) true 22 (.slice A len cap) d p) : ArgI W A len := by
  intro hp
  obtain ⟨b, off, rfl, hc⟩ := open_ints_of Try.underlying22 Try.underlying3 (by kernel_rfl) h hp
  obtain ⟨z0, hz0⟩ := hc 0 hp
  have hlt : b < W.heap.size := by
    rcases Nat.lt_or_ge b W.heap.size with h' | h'
    · exact h'
    · simp [World.cell?, Array.getElem?_eq_none h'] at hz0
  exact ⟨b, off, rfl, hlt, hc⟩

def SmallPost (w : World) (e : Ending) (w' : World) : Prop := ∃ (A : Option Addr) (m c : Nat) (X : List Int), e = .returned (.slice A m c) ∧ OwnsI w' w.heap.size A m c X ∧ (∀ x ∈ X, -9 ≤ x ∧ x ≤ 9) ∧ m ≤ 60 ∧ Below w.heap.size w w'

set_option maxHeartbeats 3200000 in
set_option maxRecDepth 100000 in
theorem small_any (A : Option Addr) (n c : Nat) (w : World) (hn : n ≤ 2147483647) (hA : ArgI w A n) :
    Calls Try.prog 4 #[.slice A n c, .int .i64 60, .int .i64 10] w (SmallPost w) := by
  obtain ⟨i1, hi1, hi1z, hi1s, hi1b⟩ := info_parts infoInt
  have HA := Lib.hid hA
  clear hA
  go_enter Try.func4, Try.ntmps4
  go_wp2
  go_loopw [7, 8] (fun x i wr => ∃ (k cx : Nat) (Ax : Option Addr) (X : List Int), k ≤ 60 ∧ i = .int .i64 k ∧ x = .slice Ax k cx ∧ OwnsI wr w.heap.size Ax k cx X ∧ Hid (∀ x ∈ X, -9 ≤ x ∧ x ≤ 9) ∧ Below w.heap.size w wr) (fun _ i _ => 60 - (intOf i).toNat)
  case atStart => exact ⟨0, 0, none, [], by omega, rfl, rfl, ⟨World.ownsRow_nil _ _ _ _, rfl⟩, (show ∀ x ∈ ([] : List Int), _ by simp), Below.refl _ _⟩
  case round =>
    obtain ⟨k, cx, Ax, X, hk, rfl, rfl, hO, HL, hb⟩ := hrel
    have HM := Lib.hid hO.len
    by_cases hlt : k < n ∧ k < 60
    · obtain ⟨h1, h2⟩ := hlt
      obtain ⟨b, off, rfl, hbl, hc⟩ := (HA.out.later hb) (by omega)
      obtain ⟨y, c0⟩ := hc k h1
      have i0' : (0 : Int) ≤ (k : Int) := by omega
      have i1' : (k : Int) < (n : Int) := by omega
      have hown := hO.own
      have hbs := hb.size
      have t1 := Int.lt_tmod_of_pos y (show (0 : Int) < 10 by omega)
      have t2 := Int.tmod_lt_of_pos y (show (0 : Int) < 10 by omega)
      clear hc hO
      have HL2 : Hid (∀ x ∈ X ++ [y.tmod 10], -9 ≤ x ∧ x ≤ 9) := by
        intro x hx
        rcases List.mem_append.1 hx with hx | hx
        · exact HL.out x hx
        · simp only [List.mem_singleton] at hx
          omega
      generalize hz : y.tmod 10 = z at t1 t2 HL2
      go_wp2_with (at_builtin; refine wpList_append_own _ rfl _ _ 22 rfl w.heap.size 3 i1 _ 1 8 Try.underlying22 hi1 hi1z hi1s hi1b rfl (by decide) _ _ _ rfl (hown.alloc _) ⟨wr.heap.size, 0, none⟩ 1 1 [.int .i64 z] rfl rfl ?c1 ?c2 ?c3 ?c4 ?c5 ?_)
      case c1 => exact newAt _ [.int .i64 z] _ _ rfl
      case c2 => intro v hv; simp at hv; subst hv; rfl
      case c3 => unfold maxLen; omega
      case c4 => omega
      case c5 => simp; omega
      intro v' w2 hown' hgrow _
      have hb2 := (hb.alloc hb.size _).grown hgrow (by simp; omega) (fun j hj => (hown.lt j hj).1)
      have HO2 := Lib.hid hown'
      clear hgrow hown' hown hz
      go_wp2
      go_roundw
      case rel =>
        obtain ⟨A', c', he⟩ := own_slice HO2.out
        have h2 := HO2.out
        rw [he] at h2
        refine ⟨k + 1, c', A', X ++ [z], by omega, by go_num, he, ⟨?_, by have := HM.out; simp; omega⟩, HL2, hb2⟩
        rw [List.map_append]
        simpa using h2
      case measure => simp [intOf]; omega
    · by_cases h1 : k < n
      · have h2 : k = 60 := by omega
        have h3 : ¬ ((k : Int) < 60) := by omega
        have HK := Lib.hid h2
        clear h2 hlt
        go_wp2
        go_ret
        exact ⟨Ax, k, cx, X, rfl, hO, HL.out, hk, hb⟩
      · go_wp2
        go_ret
        exact ⟨Ax, k, cx, X, rfl, hO, HL.out, hk, hb⟩

/-- The slice reads as these numbers. -/
def RdI (w : World) (A : Option Addr) (X : List Int) : Prop :=
  0 < X.length → ∃ g, A = some ⟨g, 0, none⟩ ∧ g < w.heap.size ∧ ∀ (k : Nat) (x : Int), X[k]? = some x → w.cell? ⟨g, k, none⟩ = some (.int .i64 x)
theorem RdI.later {w w' : World} {A : Option Addr} {X : List Int} (h : RdI w A X) (hb : Below w.heap.size w w') : RdI w' A X := by
  intro hn
  obtain ⟨g, hA, hg, hc⟩ := h hn
  exact ⟨g, hA, Nat.lt_of_lt_of_le hg hb.size, fun k y hk => (hb.cell (p := ⟨g, k, none⟩) hg).trans (hc k y hk)⟩
theorem OwnsI.reads {w : World} {B : Nat} {A : Option Addr} {m c : Nat} {X : List Int} (h : OwnsI w B A m c X) : RdI w A X := by
  intro hn
  have hl := h.len
  obtain ⟨g, cap, hv, _⟩ := h.own.form (by omega)
  injection hv with hA hm hc
  subst hA
  refine ⟨g, rfl, (h.own.lt g (by rw [hc]; rfl)).2, fun k y hy => ?_⟩
  have := h.own.cells (g := g) (by rw [hc]; rfl) k (.int .i64 y) (by simp [hy])
  rwa [addAt] at this
end Go.Proofs.Ytfnphohdipdmpaa.Rg
