/- Areas that do not overlap are left as they are, and two that overlap, a corner of one in the other, become the smallest area that holds both: the statement's function returns true, at every list of areas and every two areas; no condition. The row, then its tied card. -/
import Derived.Test.YtokooampmhcfeaaDoorCards
import Derived.Test.YtokooampmhcfeaaDoorTie
import Derived.WalkKit
import Derived.ProofKit
import Derived.OpenShut
import Derived.LaidMore
import Derived.Lay
import Derived.SevenTiedAt
import Derived.Stop.Joined
import Derived.ChangeOld
import Derived.Below
import Derived.Test.YtokooampmhcfeaaDoorRMergeLaw
import Derived.Test.YtokooampmhcfeaaDoorROpenRows
import Derived.Carry
import Derived.Lib.LaidTab
import Derived.Stop.LaidErr
namespace Go.Proofs.YtokooampmhcfeaaDoor.fnMergeOverlaps
open Go.ChangeShapes Go.WideShapes Go.ChangeAt Go.RowKit
set_option linter.unusedVariables false

theorem own0 : laidOutB Tryd.prog = true := by kernel_rfl
theorem own : ownKnob Tryd.prog.godebug = none := by kernel_rfl

set_option maxRecDepth 100000 in
/-- The powers of ten lie where the row's list says. -/
theorem tab_of_laid {W : World} (h : laidMetH Tryd.prog Rows.fnMergeOverlapsRow.laid W) : Rg.Tab W := by
  rw [MakeChecks.laidMetH_plain _ _ _ (by kernel_rfl)] at h
  exact Lib.tabIs_of_head (g := 4) (t := 140) (e := 132) (n := 20) (by kernel_rfl) (by kernel_rfl) (by kernel_rfl) (by kernel_rfl) (by kernel_rfl) (by kernel_rfl) (laidMet.tail (laidMet.tail h))

set_option maxRecDepth 100000 in
theorem lifted (os : Os) (started : os.Started) (H : Type) (enc : TypeId × Value → H) :
    ReturnsInHanded {} Tryd.checked os 6 .any (fun w args => (Rows.fnMergeOverlapsSpec.pre enc Tryd.prog Tryd.f6 Rows.fnMergeOverlapsRow.domain false w args ∧ laidMetH Tryd.prog Rows.fnMergeOverlapsRow.laid w) ∧ sizedMet enc Tryd.prog Tryd.f6 (OpenSpec.ofChange Rows.fnMergeOverlapsSpec) false w args)
      (Rows.fnMergeOverlapsSpec.post enc Tryd.prog Tryd.f6 false true false false) := by
  refine returnsInHanded_of_change_and (C := Tryd.checked) (X := fun w _ => laidMetH Tryd.prog Rows.fnMergeOverlapsRow.laid w) (fun _ _ _ hh h => h.of_heap hh) own started (by kernel_rfl) Tryd.func6
    (ChangeSpec.witness_shaped (enc := enc) (C := Tryd.checked) (os := os) (X := fun w _ => laidMetH Tryd.prog Rows.fnMergeOverlapsRow.laid w) false (World.laidAll Tryd.prog os Rows.fnMergeOverlapsRow.laid) #[.slice none 0 0, .agg #[.int .i64 0, .int .i64 0, .int .i64 0, .int .i64 0], .agg #[.int .i64 0, .int .i64 0, .int .i64 0, .int .i64 0]] 8 (World.laidAll_os _ _ _)
      (World.shaped_of_ZipB (by kernel_rfl) (by kernel_rfl)) (by kernel_rfl) (by kernel_rfl) (by kernel_rfl)
      (by rw [MakeChecks.laidMetH_plain _ _ _ (by kernel_rfl)]; exact laidMet_laidAll _ (by kernel_rfl) (by kernel_rfl))) ?_
  intro W base args ds gs before hval0 hW hc _ hL _
  have hval : ∀ (j : Nat) t v, Tryd.f6.params[j]? = some t → args[j]? = some v → Value.okWide Tryd.prog W .any base t v := hval0
  have hW' := hW
  obtain ⟨p, q, hA0, hV, rfl, hfz, hnd⟩ := hW
  have hA : DataW.TrodAll enc Tryd.prog W 0 (fun _ => true) true Tryd.f6.params.toList args.toList ds p := hA0
  rw [Tryd.params6] at hA hval
  obtain ⟨v0, vs0, d0, ds0, p0, q0, hargs, rfl, rfl, h0, r0⟩ := trodAll_cons hA
  obtain ⟨v1, vs1, d1, ds1, p1, q1, rfl, rfl, rfl, h1, r1⟩ := trodAll_cons r0
  obtain ⟨v2, vs2, d2, ds2, p2, q2, rfl, rfl, rfl, h2, r2⟩ := trodAll_cons r1
  obtain ⟨rfl, rfl, rfl⟩ := trodAll_nil r2
  obtain rfl : args = #[v0, v1, v2] := by cases args; simp_all
  obtain ⟨rfl, rfl⟩ := trodVars_none hV
  have k0 := h0
  have k1 := h1
  have k2 := h2
  have lt0 : ∀ x ∈ p0, x.block < W.heap.size := by obtain ⟨m, hm⟩ := k0; exact DataW.trod_lt m _ _ _ hm
  have lt1 : ∀ x ∈ p1, x.block < W.heap.size := by obtain ⟨m, hm⟩ := k1; exact DataW.trod_lt m _ _ _ hm
  have lt2 : ∀ x ∈ p2, x.block < W.heap.size := by obtain ⟨m, hm⟩ := k2; exact DataW.trod_lt m _ _ _ hm
  obtain ⟨A0, len0, cap0, rfl⟩ := okWide_slice Tryd.underlying41 (hval 0 41 v0 rfl rfl)
  have hArg := Rg.open_fours h0
  obtain ⟨a0, a1, a2, a3, rfl⟩ := Rg.open_four (hval 1 22 v1 rfl rfl) h1
  obtain ⟨b0, b1, b2, b3, rfl⟩ := Rg.open_four (hval 2 22 v2 rfl rfl) h2
  have hT : Rg.Tab W := tab_of_laid hL
  clear hA0 hval0
  simp only [List.append_nil] at hW'
  refine (Rg.merge_all A0 len0 cap0 ⟨a0, a1, a2, a3⟩ ⟨b0, b1, b2, b3⟩ W hArg hT).mono fun e W' ⟨he, bel⟩ => ?_
  subst he
  exact ⟨_, rfl, _, _, _, [], _, [], hW', trodAll_mk1 (shut_bool Tryd.underlying4 _), (trodAll_cons_mk (Below.trod own0 (by kernel_rfl) (of_decide_eq_true (by kernel_rfl)) k0 bel lt0) (trodAll_cons_mk (Below.trod own0 (by kernel_rfl) (of_decide_eq_true (by kernel_rfl)) k1 bel lt1) (trodAll_cons_mk (Below.trod own0 (by kernel_rfl) (of_decide_eq_true (by kernel_rfl)) k2 bel lt2) trodAll_mk0))), rfl, bel.frame _, fun h => by cases h⟩

theorem holds : Rows.FnMergeOverlapsSaid :=
  OpenClaim.holds_of_wide 6 Tryd.f6 rfl rfl rfl rfl rfl rfl rfl ⟨rfl, rfl, rfl, rfl, rfl⟩ rfl rfl rfl rfl rfl (by kernel_rfl) Tryd.func6 (by kernel_rfl)
    (of_decide_eq_true (by kernel_rfl)) (by unfold Func.isWrapper; first | (rw [if_pos (by decide +kernel)]; kernel_rfl) | (rw [if_neg (by decide +kernel)]; exact ⟨rfl, rfl⟩))
    (fun os started H enc _ => lifted os started H enc)

/-- ████ THE STATEMENT ████ -/
theorem proved : Rows.FnMergeOverlapsCardSaid :=
  Claim7.holds_tied_plain_at .later [] [.data, .data, .data, .data, .sentinel, .sentinel, .sentinel, .sentinel, .sentinel, .sentinel, .pinned] true (true, "4250695f5238175daabdb42aa77d832312feb6da842cdc30127f24d869c3d245") true
    holds (fun _ h => by cases h) (by kernel_rfl) (fun _ h => by cases h) fnMergeOverlaps_row_tie rfl ⟨rfl, rfl⟩ (by kernel_rfl) rfl
    (fun f fn hf hfn => by
      obtain rfl : f = 6 := Option.some.inj ((show Tryd.prog.funcNamed "pub-gridwork/laws.FnMergeOverlaps" = some 6 by kernel_rfl).symm.trans hf) |>.symm
      obtain rfl : fn = Tryd.f6 := (Option.some.inj (Tryd.func6.symm.trans hfn)).symm
      exact ⟨by kernel_rfl, fun j t ht => by
        rw [Tryd.params6] at ht
        have hm : t ∈ [41, 22, 22] := by simpa using Array.mem_of_getElem? ht
        have hall : ([41, 22, 22].all fun u => !Tryd.prog.wantsStandIn u) = true := by kernel_rfl
        exact (show Tryd.prog.wantsStandIn t = false by simpa using List.all_eq_true.1 hall t hm)⟩)
    (by kernel_rfl)
#print axioms proved
end Go.Proofs.YtokooampmhcfeaaDoor.fnMergeOverlaps
