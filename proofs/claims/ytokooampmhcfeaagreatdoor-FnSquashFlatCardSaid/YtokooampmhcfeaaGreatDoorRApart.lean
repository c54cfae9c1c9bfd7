/- The statement's own lists of areas: at most five, within the limits, and none overlaps one before it. -/
import Derived.Test.YtokooampmhcfeaaGreatDoorRTexts
import Derived.Test.YtokooampmhcfeaaGreatDoorRMergePlain
import Derived.Deep.RegionHeld3
namespace Go.Proofs.YtokooampmhcfeaaGreatDoor.Rg
open Go.RowKit

def freeOf (a : Ar) (M : List Ar) : Bool := M.all fun b => !overlap a b

theorem freeOf_succ (a : Ar) (M : List Ar) (k : Nat) (h : k < M.length) : freeOf a (M.take (k + 1)) = (freeOf a (M.take k) && !overlap a M[k]) := by
  unfold freeOf
  rw [List.take_succ_eq_append_getElem h, List.all_append]
  simp

theorem overlap_comm (a b : Ar) : overlap a b = overlap b a := by
  unfold overlap
  generalize decide (a.p ≤ b.x) = t1
  generalize decide (b.p ≤ a.x) = t2
  generalize decide (a.q ≤ b.y) = t3
  generalize decide (b.q ≤ a.y) = t4
  revert t1 t2 t3 t4
  decide

theorem Apart.snoc {M : List Ar} (h : Apart M) (a : Ar) (hf : freeOf a M = true) : Apart (M ++ [a]) := by
  unfold Apart
  rw [List.pairwise_append]
  refine ⟨h, by simp, fun b hb c hc => ?_⟩
  simp only [List.mem_singleton] at hc
  subst hc
  unfold freeOf at hf
  rw [List.all_eq_true] at hf
  have := hf b hb
  rw [overlap_comm]
  simpa using this

theorem OwnsR.lower {w : World} {B B' : Nat} {A : Option Addr} {m c : Nat} {L : List Ar} (h : OwnsR w B A m c L) (hB : B' ≤ B) : OwnsR w B' A m c L := by
  refine ⟨⟨h.own.1, ?_⟩, h.len⟩
  rcases h.own.2 with hn | ⟨g, cap, cur, hv, hbb, hgg, rest⟩
  · exact .inl hn
  · exact .inr ⟨g, cap, cur, hv, Nat.le_trans hB hbb, hgg, rest⟩

def ApartPost (w : World) (B : Nat) (L : List Ar) (e : Ending) (w' : World) : Prop := ∃ (A : Option Addr) (m c : Nat) (M : List Ar), e = .returned (.slice A m c) ∧ OwnsR w' B A m c M ∧ Apart M ∧ (∀ a ∈ M, a ∈ L) ∧ m ≤ L.length ∧ Below w.heap.size w w'

/-- Two areas, each in its place. -/
def Two4 (w : World) (ga gb i k : Nat) (a b : Ar) (w' : World) : Prop := Below w.heap.size w w' ∧ w'.cell? ⟨ga, i * 4, none⟩ = some (.int .i64 a.p) ∧ w'.cell? ⟨ga, i * 4 + 1, none⟩ = some (.int .i64 a.q) ∧ w'.cell? ⟨ga, i * 4 + 2, none⟩ = some (.int .i64 a.x) ∧ w'.cell? ⟨ga, i * 4 + 3, none⟩ = some (.int .i64 a.y) ∧ w'.cell? ⟨gb, k * 4, none⟩ = some (.int .i64 b.p) ∧ w'.cell? ⟨gb, k * 4 + 1, none⟩ = some (.int .i64 b.q) ∧ w'.cell? ⟨gb, k * 4 + 2, none⟩ = some (.int .i64 b.x) ∧ w'.cell? ⟨gb, k * 4 + 3, none⟩ = some (.int .i64 b.y)

theorem Two4.of {w w' : World} {ga gb i k : Nat} {a b : Ar} (h0 : Below w.heap.size w w') (ha : At4 w' ga i a) (hb : At4 w' gb k b) : Two4 w ga gb i k a b w' :=
  ⟨h0, ha.c0, ha.c1, ha.c2, ha.c3, hb.c0, hb.c1, hb.c2, hb.c3⟩

theorem Two4.later {w w1 w2 : World} {ga gb i k : Nat} {a b : Ar} (h : Two4 w ga gb i k a b w1) (hga : ga < w.heap.size) (hgb : gb < w.heap.size) (hb : Below w1.heap.size w1 w2) : Two4 w ga gb i k a b w2 := by
  obtain ⟨h0, a0, a1, a2, a3, b0, b1, b2, b3⟩ := h
  have hs := h0.size
  exact Two4.of (h0.trans (hb.mono hs)) ((At4.mk a0 a1 a2 a3).later (by omega) hb) ((At4.mk b0 b1 b2 b3).later (by omega) hb)

set_option maxHeartbeats 3200000 in
set_option maxRecDepth 100000 in
theorem apart_any (A : Option Addr) (n c : Nat) (L : List Ar) (w : World) (hn : n = L.length) (hn2 : n ≤ 5) (hA : Rd4 w A L) :
    Calls Tryz.prog 16 #[.slice A n c] w (ApartPost w w.heap.size L) := by
  obtain ⟨i0, hi, hz0, hz1, hz2⟩ := info_parts infoFour
  have HN := Lib.hid hn
  clear hn
  have HA := Lib.hid hA
  clear hA
  go_enter Tryz.func16, Tryz.ntmps16
  go_wp2
  go_loopw [3, 4] (fun x i wr => ∃ (k m cx : Nat) (Ax : Option Addr) (M : List Ar), k ≤ n ∧ i = .int .i64 k ∧ x = .slice Ax m cx ∧ OwnsR wr w.heap.size Ax m cx M ∧ m ≤ k ∧ Apart M ∧ (∀ a ∈ M, a ∈ L) ∧ Below w.heap.size w wr) (fun _ i _ => n - (intOf i).toNat)
  case atStart => exact ⟨0, 0, 0, none, [], by omega, rfl, rfl, ⟨World.ownsRow_nil _ _ _ _, rfl⟩, by omega, List.Pairwise.nil, by simp, Below.refl _ _⟩
  case round =>
    obtain ⟨i, m, cx, Ax, M, hin, rfl, rfl, hO, hmi, hap, hML, hb⟩ := hrel
    by_cases hlt : i < n
    · have hiL : i < L.length := by rw [← HN.out]; exact hlt
      obtain ⟨ga, rfl, hga, hca⟩ := (HA.out.later hb).at i hiL
      have hai := hca i hiL
      have HML := Lib.hid hML
      have hmem : L[i] ∈ L := List.getElem_mem hiL
      have HMEM := Lib.hid hmem
      generalize hLi : L[i] = ai at hai HMEM
      have HM := Lib.hid hO.len
      have HAP := Lib.hid hap
      have HO := Lib.hid hO
      clear hca hLi hmem hML hap hO
      have i0' : (0 : Int) ≤ (i : Int) := by omega
      have i1' : (i : Int) < (n : Int) := by omega
      obtain ⟨wo, rfl⟩ : ∃ wo : World, wo = wr := ⟨_, rfl⟩
      have HAI := Lib.hid hai
      clear hai hiL
      go_wp2
      go_loopw [5, 6] (fun t z wr => ∃ k : Nat, k ≤ m ∧ z = .int .i64 k ∧ t = .bool (freeOf ai (M.take k)) ∧ Below wo.heap.size wo wr) (fun _ z _ => m - (intOf z).toNat)
      case atStart => exact ⟨0, by omega, rfl, rfl, Below.refl _ _⟩
      case round =>
        obtain ⟨k, hk, rfl, rfl, hbk⟩ := hrel
        by_cases hkm : k < m
        · have hkM : k < M.length := by rw [← HM.out]; exact hkm
          have hs := freeOf_succ ai M k hkM
          obtain ⟨gb, rfl, hgb, hcb⟩ := HO.out.reads.at k hkM
          have hbb := (hcb k hkM).later hgb hbk
          have hov := overlap_any ai M[k]
          generalize M[k] = bk at hs hbb hov
          generalize overlap ai bk = t2 at hs hov
          have HS := Lib.hid hs
          have HOV := Lib.hid hov
          clear hs hov hcb hkM
          have k0' : (0 : Int) ≤ (k : Int) := by omega
          have k1' : (k : Int) < (m : Int) := by omega
          have haj := HAI.out.later hga hbk
          cases ht : freeOf ai (M.take k) with
          | false =>
            have HS2 : Hid (freeOf ai (M.take (k + 1)) = false) := by
              show freeOf ai (M.take (k + 1)) = false
              rw [HS.out, ht]
              rfl
            clear ht
            go_wp2_with fail
            go_quiet (fail)
            go_wp2
            go_roundw
            case rel => exact ⟨k + 1, by omega, by go_num, by rw [HS2.out], hbk.trans ((below_drewN _ _).mono hbk.size)⟩
            case measure => simp [intOf]; omega
          | true =>
            have HS2 : Hid (freeOf ai (M.take (k + 1)) = !t2) := by
              show freeOf ai (M.take (k + 1)) = !t2
              rw [HS.out, ht]
              rfl
            clear ht
            have hga' : ga < wr.heap.size := Nat.lt_of_lt_of_le hga hbk.size
            have hgb' : gb < wr.heap.size := Nat.lt_of_lt_of_le hgb hbk.size
            have h0 : Two4 wr ga gb i k ai bk wr.drew := (Two4.of (Below.refl _ _) haj hbb).later hga' hgb' (Below.refl _ _).drew
            obtain ⟨_, a0, a1, a2, a3, b0, b1, b2, b3⟩ := h0
            go_wp2_with fail
            go_region_held3 (fun w' => Below wr.heap.size wr w' ∧ w'.cell? ⟨ga, i * 4, none⟩ = some (.int .i64 ai.p) ∧ w'.cell? ⟨ga, i * 4 + 1, none⟩ = some (.int .i64 ai.q) ∧ w'.cell? ⟨ga, i * 4 + 2, none⟩ = some (.int .i64 ai.x) ∧ w'.cell? ⟨ga, i * 4 + 3, none⟩ = some (.int .i64 ai.y) ∧ w'.cell? ⟨gb, k * 4, none⟩ = some (.int .i64 bk.p) ∧ w'.cell? ⟨gb, k * 4 + 1, none⟩ = some (.int .i64 bk.q) ∧ w'.cell? ⟨gb, k * 4 + 2, none⟩ = some (.int .i64 bk.x) ∧ w'.cell? ⟨gb, k * 4 + 3, none⟩ = some (.int .i64 bk.y))
              (first | exact (Two4.of (Below.refl _ _) haj hbb).later hga' hgb' (Below.refl _ _).drew | exact hT | assumption)
              (first | (go_at_call 25; refine (HOV.out _).mono ?_; rintro e w1 ⟨rfl, hb1⟩; have hT := ((Two4.of (Below.refl _ _) haj hbb).later hga' hgb' (Below.refl _ _).drew).later hga' hgb' hb1))
            have hB1 := hbk.trans (hT.1.mono hbk.size)
            clear a0 a1 a2 a3 b0 b1 b2 b3
            go_wp2
            go_roundw
            case rel => exact ⟨k + 1, by omega, by go_num, by rw [HS2.out], hB1⟩
            case measure => simp [intOf]; omega
        · obtain rfl : k = m := by omega
          have hfull : M.take k = M := List.take_of_length_le (by have := HM.out; omega)
          rw [hfull]
          have haj := HAI.out.later hga hbk
          have hown1 := own_below HO.out.own hbk
          have hB := hb.trans (hbk.mono hb.size)
          have hs := hB.size
          clear hfull
          cases hfr : freeOf ai M with
          | false =>
            clear hfr
            go_wp2
            go_roundw
            case rel => exact ⟨i + 1, k, cx, Ax, M, by omega, by go_num, rfl, ⟨hown1, HM.out⟩, by omega, HAP.out, HML.out, hB⟩
            case measure => simp [intOf]; omega
          | true =>
            have HAP2 := Lib.hid (HAP.out.snoc ai hfr)
            clear hfr
            obtain ⟨a0, a1, a2, a3⟩ := haj
            have ht : (Value.bool true) = Value.bool true := rfl
            clear ht
            go_wp2_with (at_builtin; refine wpList_append_own _ rfl _ _ 22 rfl w.heap.size 41 i0 _ 4 32 Tryz.underlying22 hi hz0 hz1 hz2 rfl (by decide) _ _ _ rfl (hown1.alloc _) ⟨wr.heap.size, 0, none⟩ 1 1 (Ar.cells ai) rfl rfl ?c1 (Ar.cells_one _) ?c3 ?c4 ?c5 ?_)
            case c1 => exact newAt _ (Ar.cells ai) _ _ rfl
            case c3 => unfold maxLen; omega
            case c4 => omega
            case c5 => simp; omega
            intro v' w2 hown' hgrow _
            have hb2 := (hB.alloc hs _).grown hgrow (by simp; omega) (fun j hj => (hown1.lt j hj).1)
            have HO2 := Lib.hid hown'
            clear hgrow hown' hown1 a0 a1 a2 a3
            go_wp2
            go_roundw
            case rel =>
              obtain ⟨A', c', he⟩ := own_slice HO2.out
              have h2 := HO2.out
              rw [he] at h2
              refine ⟨i + 1, k + 1, c', A', M ++ [ai], by omega, by go_num, he, ⟨?_, by have := HM.out; simp; omega⟩, by omega, HAP2.out, ?_, hb2⟩
              · rw [List.flatMap_append]
                simpa using h2
              · intro a ha
                rcases List.mem_append.1 ha with h | h
                · exact HML.out a h
                · simp only [List.mem_singleton] at h
                  rw [h]
                  exact HMEM.out
            case measure => simp [intOf]; omega
    · have hn' : n ≤ L.length := by have := HN.out; omega
      go_wp2
      go_ret
      exact ⟨Ax, m, cx, M, rfl, hO, hap, hML, by omega, hb⟩

/-- The argument's areas: the four numbers of each. -/
def ArgR (w : World) (A : Option Addr) (n : Nat) : Prop :=
  0 < n → ∃ b off, A = some ⟨b, off, none⟩ ∧ b < w.heap.size ∧ ∀ k, k < n → ∃ a : Ar, w.cell? ⟨b, off + k * 4, none⟩ = some (.int .i64 a.p) ∧ w.cell? ⟨b, off + k * 4 + 1, none⟩ = some (.int .i64 a.q) ∧ w.cell? ⟨b, off + k * 4 + 2, none⟩ = some (.int .i64 a.x) ∧ w.cell? ⟨b, off + k * 4 + 3, none⟩ = some (.int .i64 a.y)

theorem ArgR.later {w w' : World} {A : Option Addr} {n : Nat} (h : ArgR w A n) (hb : Below w.heap.size w w') : ArgR w' A n := by
  intro hn
  obtain ⟨b, off, hA, hbl, hc⟩ := h hn
  refine ⟨b, off, hA, Nat.lt_of_lt_of_le hbl hb.size, fun k hk => ?_⟩
  obtain ⟨a, c0, c1, c2, c3⟩ := hc k hk
  exact ⟨a, (hb.cell (p := ⟨b, off + k * 4, none⟩) hbl).trans c0, (hb.cell (p := ⟨b, off + k * 4 + 1, none⟩) hbl).trans c1, (hb.cell (p := ⟨b, off + k * 4 + 2, none⟩) hbl).trans c2, (hb.cell (p := ⟨b, off + k * 4 + 3, none⟩) hbl).trans c3⟩

def RefApartPost (w : World) (e : Ending) (w' : World) : Prop := ∃ (A : Option Addr) (m c : Nat) (M : List Ar), e = .returned (.slice A m c) ∧ OwnsR w' w.heap.size A m c M ∧ Apart M ∧ (∀ a ∈ M, Good a) ∧ m ≤ 5 ∧ Below w.heap.size w w'

set_option maxHeartbeats 3200000 in
set_option maxRecDepth 100000 in
theorem refapart_any (A : Option Addr) (n c : Nat) (w : World) (hn : n ≤ 2147483647) (hA : ArgR w A n) :
    Calls Tryz.prog 5 #[.slice A n c] w (RefApartPost w) := by
  obtain ⟨i0, hi, hz0, hz1, hz2⟩ := info_parts infoFour
  have HA := Lib.hid hA
  clear hA
  go_enter Tryz.func5, Tryz.ntmps5
  go_wp2
  go_loopw [3, 4] (fun x i wr => ∃ (k cx : Nat) (Ax : Option Addr) (M : List Ar), k ≤ 5 ∧ i = .int .i64 k ∧ x = .slice Ax k cx ∧ OwnsR wr w.heap.size Ax k cx M ∧ (∀ a ∈ M, Good a) ∧ Below w.heap.size w wr) (fun _ i _ => 5 - (intOf i).toNat)
  case atStart => exact ⟨0, 0, none, [], by omega, rfl, rfl, ⟨World.ownsRow_nil _ _ _ _, rfl⟩, by simp, Below.refl _ _⟩
  case round =>
    obtain ⟨k, cx, Ax, M, hk, rfl, rfl, hO, hG, hb⟩ := hrel
    have HM := Lib.hid hO.len
    have HG := Lib.hid hG
    by_cases hlt : k < n ∧ k < 5
    · obtain ⟨h1, h2⟩ := hlt
      obtain ⟨b, off, rfl, hbl, hc⟩ := (HA.out.later hb) (by omega)
      obtain ⟨a, c0, c1, c2, c3⟩ := hc k h1
      have i0' : (0 : Int) ≤ (k : Int) := by omega
      have i1' : (k : Int) < (n : Int) := by omega
      have hown := hO.own
      have HOG := Lib.hid (fun w => good_any a w)
      simp only [Ar.val] at HOG
      clear hc hG hO
      go_wp2_with fail
      refine (HOG.out _).mono ?_
      rintro e w1 ⟨a', rfl, hg', hb1⟩
      have hown1 := own_below hown hb1
      have hB := hb.trans (hb1.mono hb.size)
      have hs := hB.size
      have HG2 := Lib.hid hg'
      simp only [Ar.val]
      clear c0 c1 c2 c3 hg' HOG hown
      go_wp2_with (at_builtin; refine wpList_append_own _ rfl _ _ 22 rfl w.heap.size 41 i0 _ 4 32 Tryz.underlying22 hi hz0 hz1 hz2 rfl (by decide) _ _ _ rfl (hown1.alloc _) ⟨w1.heap.size, 0, none⟩ 1 1 (Ar.cells a') rfl rfl ?c1 (Ar.cells_one _) ?c3 ?c4 ?c5 ?_)
      case c1 => exact newAt _ (Ar.cells a') _ _ rfl
      case c3 => unfold maxLen; omega
      case c4 => omega
      case c5 => simp; omega
      intro v' w2 hown' hgrow _
      have hb2 := (hB.alloc hs _).grown hgrow (by simp; omega) (fun j hj => (hown1.lt j hj).1)
      have HO2 := Lib.hid hown'
      clear hgrow hown' hown1
      go_wp2
      go_roundw
      case rel =>
        obtain ⟨A', c', he⟩ := own_slice HO2.out
        have h2 := HO2.out
        rw [he] at h2
        refine ⟨k + 1, c', A', M ++ [a'], by omega, by go_num, he, ⟨?_, by have := HM.out; simp; omega⟩, ?_, hb2⟩
        · rw [List.flatMap_append]
          simpa using h2
        · intro a ha
          rcases List.mem_append.1 ha with h | h
          · exact HG.out a h
          · simp only [List.mem_singleton] at h
            rw [h]
            exact HG2.out
      case measure => simp [intOf]; omega
    · have hrd := hO.reads
      have HO := Lib.hid hO
      clear hO hG
      by_cases h1 : k < n
      · have h2 : k = 5 := by omega
        have h3 : ¬ ((k : Int) < 5) := by omega
        have HK := Lib.hid h2
        clear h2 hlt
        go_wp2_with fail
        refine (apart_any Ax k cx M _ HM.out hk hrd).mono ?_
        rintro e w1 ⟨A', m, c', M', rfl, hO', hap', hmem, hm, hb1⟩
        go_wp2
        go_ret
        exact ⟨A', m, c', M', rfl, hO'.lower hb.size, hap', fun a ha => HG.out a (hmem a ha), by have := HM.out; omega, hb.trans (hb1.mono hb.size)⟩
      · go_wp2_with fail
        refine (apart_any Ax k cx M _ HM.out hk hrd).mono ?_
        rintro e w1 ⟨A', m, c', M', rfl, hO', hap', hmem, hm, hb1⟩
        go_wp2
        go_ret
        exact ⟨A', m, c', M', rfl, hO'.lower hb.size, hap', fun a ha => HG.out a (hmem a ha), by have := HM.out; omega, hb.trans (hb1.mono hb.size)⟩
end Go.Proofs.YtokooampmhcfeaaGreatDoor.Rg
