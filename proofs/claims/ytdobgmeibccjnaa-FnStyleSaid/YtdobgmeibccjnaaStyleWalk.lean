/- Giving columns a style: the call returns true for every list of numbers and every three further arguments. -/
import Derived.Test.YtdobgmeibccjnaaLive
namespace Go.Proofs.Ytdobgmeibccjnaa.Ln
open Go.RowKit
attribute [local go_sem] run_store_float

set_option maxHeartbeats 1600000 in
set_option maxRecDepth 100000 in
theorem fnStyle_any (A : Option Addr) (n c : Nat) (zs : List Int) (first last style : Int) (w : World) (h : NumsIn w A n zs) :
    Calls Try.prog 7 #[.slice A n c, .int .i64 first, .int .i64 last, .int .i64 style] w fun e w' => e = .returned (.bool true) ∧ Below w.heap.size w w' := by
  obtain ⟨i0, hi, hz0, hz1, hz2⟩ := info_parts infoA
  by_cases hbig : 2147483647 < n
  · have hb' : (2147483647 : Int) < (n : Int) := by omega
    go_enter Try.func7, Try.ntmps7
    go_wp2
    go_ret
    exact ⟨rfl, Below.refl _ _⟩
  · have hb' : ¬ (2147483647 : Int) < (n : Int) := by omega
    have g1 := gn_range first 40 (by omega)
    have g2 := gn_range last 40 (by omega)
    go_enter Try.func7, Try.ntmps7
    go_wp2_with fail
    refine (refLines_lit A n c zs w (by omega) h).mono ?_
    rintro e w1 ⟨A1, m, c1, X, z, rfl, ho, hok, hm6, hb1⟩
    have hs1 := hb1.size
    have HO := Lib.hid ho; clear ho
    go_wp2_with fail
    refine (grid_any first 40 _ (by omega) (by omega)).mono ?_
    rintro e w' ⟨rfl, rfl⟩
    go_wp2_with fail
    refine (grid_any last 40 _ (by omega) (by omega)).mono ?_
    rintro e w' ⟨rfl, rfl⟩
    go_wp2_with fail
    refine (grid_any style 9 _ (by omega) (by omega)).mono ?_
    rintro e w' ⟨rfl, rfl⟩
    generalize gn style 9 = sty
    generalize gn first 40 = p at g1
    generalize gn last 40 = q at g2
    obtain ⟨a, b, ha1, hab, hb40, hmn, hmx⟩ : ∃ a b : Int, 1 ≤ a ∧ a ≤ b ∧ b ≤ 40 ∧ (if q < p then q else p) = a ∧ (if p < q then q else p) = b := by
      refine ⟨_, _, ?_, ?_, ?_, rfl, rfl⟩ <;> (split <;> (try split) <;> omega)
    go_wp2_with (at_builtin; refine wpList_append_row rfl _ _ 29 rfl w1.heap.size 34 i0 _ 7 48 Try.underlying29 hi hz0 hz1 hz2 rfl (by decide) _ 0 [] rfl ?c0 _ m _ w.heap.size 34 (X.flatMap cA) rfl ?c1 ?c2 ?c3 ?c4 ?c5 ?_)
    case c0 => exact World.ownsRow_made w1 #[] 0 (Nat.le_refl _) (by unfold maxLen; omega) (by simp)
    case c1 => exact HO.out.own.alloc _
    case c2 =>
      intro u hu
      rw [List.mem_flatMap] at hu
      obtain ⟨r, _, hr⟩ := hu
      exact cA_one r u hr
    case c3 => unfold maxLen; omega
    case c4 => omega
    case c5 => simp
    intro v2 w2 hown2 hg2
    have hO2 : w2.ownsRow w1.heap.size 34 7 v2 m (X.flatMap cA) := by simpa using hown2
    have hB2 : Below w.heap.size w w2 := (hb1.alloc hs1 _).grown hg2 (by simp; omega) (fun j hj => by simp [Value.ownBlock] at hj; omega)
    have hL2 : w2.ownsRow w.heap.size 34 7 (.slice A1 m c1) m (X.flatMap cA) := (HO.out.own.alloc _).kept hg2 (by
      cases hq : (Value.slice A1 m c1).ownBlock with
      | none => exact .inl rfl
      | some g => exact .inr (by have := (HO.out.own.lt g hq).2; simp [Value.ownBlock]; omega))
    have hr2 := Rd.of_own hO2
    have hrL := Rd.of_own hL2
    have HM := Lib.hid HO.out.len
    have hX1 : ∀ r ∈ X, 1 ≤ r.mn ∧ r.mn ≤ r.mx ∧ r.mx ≤ 60 := fun r hr => by
      have h1 := hok.out.each r hr
      have h2 := hok.out.hi
      have h3 := HM.out
      omega
    have hXl := outerF_len repS (runS a b sty) X hok.out (by rw [← HM.out]; exact hm6) ha1 (by show b ≤ 60; omega)
    have HLOOK := Lib.hid (look_style a b sty X hok.out hab)
    have hs2 := hB2.size
    clear hown2 hg2 hL2 hO2 hmn hmx hs1 hb1 g1 g2 h hok
    go_wp2_with fail
    refine (style_any a b sty v2 X w2 m HM.out (by omega) hr2 ha1 hab (by omega) hX1 hXl).mono ?_
    rintro e w3 ⟨A3, m3, c3, rfl, ho3, hb3⟩
    have HM3 := Lib.hid ho3.len
    have hr3 := Rd.of_own ho3.own
    have hrL3 := (hrL.below hb3).more hb3.size
    have hm3 : m3 ≤ 1000 := by rw [ho3.len]; exact hXl
    have hB3 : Below w.heap.size w w3 := hB2.trans (hb3.mono hs2)
    clear ho3 hr2 hrL hb3 hB2 hX1 hXl
    go_wp2_with fail
    have hrel0 := Below.refl w3.heap.size w3
    go_loopw [14] (fun t wr => ∃ x : Int, 1 ≤ x ∧ x ≤ 61 ∧ t = .int .i64 x ∧ Below w3.heap.size w3 wr)
      (fun t _ => (61 - intOf t).toNat)
    case atStart => exact ⟨1, by omega, by omega, rfl, hrel0⟩
    case round =>
      clear hrel0
      obtain ⟨x, hx1, hx2, rfl, hnx⟩ := hrel
      have hsn := hnx.size
      have hrA := (hrL3.below hnx).more hsn
      have hrB := (hr3.below hnx).more hsn
      by_cases hx : x ≤ 60
      · obtain ⟨wd, cu, hlook⟩ := HLOOK.out x
        have HL := Lib.hid hlook; clear hlook
        obtain ⟨r1, hr1⟩ : ∃ r1, look X x = r1 := ⟨_, rfl⟩
        rw [hr1] at HL
        have HR1 := Lib.hid hr1; clear hr1
        by_cases hin : a ≤ x ∧ x ≤ b
        · obtain ⟨hin1, hin2⟩ := hin
          have HL2 : Hid (look (outerF repS (runS a b sty) X) x = { mn := x, mx := x, lv := r1.lv, st := sty, wd := wd, hd := r1.hd, cu := cu }) := by
            have h0 := HL.out
            rw [if_pos ⟨hin1, hin2⟩] at h0
            exact h0
          go_wp2_with fail
          refine (refLine_lit x _ X wr m HM.out (by omega) hrA r1 HR1.out).mono ?_
          rintro e w4 ⟨rfl, hb4⟩
          have hrB4 := (hrB.below hb4).more hb4.size
          have hn4 := hnx.trans (hb4.mono hsn)
          go_wp2_with fail
          refine (refLine_lit x _ _ w4 m3 HM3.out hm3 hrB4 _ HL2.out).mono ?_
          rintro e w5 ⟨rfl, hb5⟩
          have hn5 := hn4.trans (hb5.mono hn4.size)
          have hs5 := hn5.size
          clear hrA hrB hrB4 hb4 hb5 hn4 hnx
          go_wp2
          go_roundw
          case rel => exact ⟨x + 1, by omega, by omega, rfl, (hn5.alloc hs5 _).alloc (by simp; omega) _⟩
          case measure => simp [intOf]; omega
        · have HL2 : Hid (look (outerF repS (runS a b sty) X) x = { mn := x, mx := x, lv := r1.lv, st := r1.st, wd := wd, hd := r1.hd, cu := cu }) := by
            have h0 := HL.out
            rw [if_neg hin] at h0
            exact h0
          by_cases hin1 : a ≤ x
          · have hin2 : ¬ x ≤ b := fun h => hin ⟨hin1, h⟩
            clear hin
            go_wp2_with fail
            refine (refLine_lit x _ X wr m HM.out (by omega) hrA r1 HR1.out).mono ?_
            rintro e w4 ⟨rfl, hb4⟩
            have hrB4 := (hrB.below hb4).more hb4.size
            have hn4 := hnx.trans (hb4.mono hsn)
            go_wp2_with fail
            refine (refLine_lit x _ _ w4 m3 HM3.out hm3 hrB4 _ HL2.out).mono ?_
            rintro e w5 ⟨rfl, hb5⟩
            have hn5 := hn4.trans (hb5.mono hn4.size)
            have hs5 := hn5.size
            clear hrA hrB hrB4 hb4 hb5 hn4 hnx
            go_wp2
            go_roundw
            case rel => exact ⟨x + 1, by omega, by omega, rfl, (hn5.alloc hs5 _).alloc (by simp; omega) _⟩
            case measure => simp [intOf]; omega
          · clear hin
            go_wp2_with fail
            refine (refLine_lit x _ X wr m HM.out (by omega) hrA r1 HR1.out).mono ?_
            rintro e w4 ⟨rfl, hb4⟩
            have hrB4 := (hrB.below hb4).more hb4.size
            have hn4 := hnx.trans (hb4.mono hsn)
            go_wp2_with fail
            refine (refLine_lit x _ _ w4 m3 HM3.out hm3 hrB4 _ HL2.out).mono ?_
            rintro e w5 ⟨rfl, hb5⟩
            have hn5 := hn4.trans (hb5.mono hn4.size)
            have hs5 := hn5.size
            clear hrA hrB hrB4 hb4 hb5 hn4 hnx
            go_wp2
            go_roundw
            case rel => exact ⟨x + 1, by omega, by omega, rfl, (hn5.alloc hs5 _).alloc (by simp; omega) _⟩
            case measure => simp [intOf]; omega
      · have e : x = 61 := by omega
        subst e
        go_wp2_with fail
        refine (live_any wr).mono ?_
        rintro e w4 ⟨rfl, hb4⟩
        have hn4 : Below w.heap.size w w4 := hB3.trans ((hnx.trans (hb4.mono hsn)).mono hB3.size)
        go_wp2
        go_ret
        exact ⟨rfl, hn4⟩
end Go.Proofs.Ytdobgmeibccjnaa.Ln
