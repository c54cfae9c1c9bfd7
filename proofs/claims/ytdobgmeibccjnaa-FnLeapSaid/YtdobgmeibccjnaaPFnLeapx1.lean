-- PRINTED BY print.sh 35421559b90ae4d0a3588c463048766b98c2df88dd9212a6774a882060cdf62d: not written by this session
import Derived.Test.YtdobgmeibccjnaaPFnLeapx0
namespace Go.Proofs.Ytdobgmeibccjnaa.PFnLeap
open Go.RowKit Go.Proofs.YtdobgmeibccjnaaW.PrintWords Go.Proofs.YtdobgmeibccjnaaW.PrintLast Go.Proofs.YtdobgmeibccjnaaW.PrintMore
attribute [local go_sem] max2_int min2_int max_two min_two max_three min_three max_four min_four   -- for this text's walks alone
set_option linter.unusedVariables false
set_option linter.unusedSimpArgs false

/-! ### excelize_isLeapYear: function 28 -/
def excelize_isLeapYear.f (a0 : Int) : Option (Bool) := if a0 = (wrap64 ((wrap64 (Int.tdiv a0 400)) * 400)) then (some true) else (if a0 = (wrap64 ((wrap64 (Int.tdiv a0 100)) * 100)) then (some false) else (some (a0 == (wrap64 ((wrap64 (Int.tdiv a0 4)) * 4)))))
set_option maxHeartbeats 8000000 in
set_option maxRecDepth 100000 in
theorem excelize_isLeapYear.calls (a0 : Int) (r : Bool) (w : World) (h : excelize_isLeapYear.f a0 = some r) :
    Calls Try.prog 28 #[.int .i64 a0] w fun e w' => e = .returned (.bool r) ∧ Drawn0 w w' := by
  have H : (if a0 = (wrap64 ((wrap64 (Int.tdiv a0 400)) * 400)) then (some true) else (if a0 = (wrap64 ((wrap64 (Int.tdiv a0 100)) * 100)) then (some false) else (some (a0 == (wrap64 ((wrap64 (Int.tdiv a0 4)) * 4)))))) = some r := h
  clear h
  by_cases c2 : a0 = (wrap64 ((wrap64 (Int.tdiv a0 400)) * 400))
  · rw [if_pos c2] at H
    have c2b0 : (a0 == (wrap64 ((wrap64 (Int.tdiv a0 400)) * 400))) = true := beq_iff_eq.mpr c2
    have c2b1 : (a0 != (wrap64 ((wrap64 (Int.tdiv a0 400)) * 400))) = false := bne_eq_false_iff_eq.mpr c2
    clear c2
    obtain rfl := Option.some.inj H
    go_enter Try.func28, Try.ntmps28
    go_wp2
    go_ret
    exact ⟨by first | rfl | (simp; done) | (simp [*]; done), by repeat (first | exact Drawn0.refl _ | apply Drawn0.step)⟩
  · rw [if_neg c2] at H
    have c2b0 : (a0 == (wrap64 ((wrap64 (Int.tdiv a0 400)) * 400))) = false := beq_eq_false_iff_ne.mpr c2
    have c2b1 : (a0 != (wrap64 ((wrap64 (Int.tdiv a0 400)) * 400))) = true := bne_iff_ne.mpr c2
    by_cases c3 : a0 = (wrap64 ((wrap64 (Int.tdiv a0 100)) * 100))
    · rw [if_pos c3] at H
      have c3b0 : (a0 == (wrap64 ((wrap64 (Int.tdiv a0 100)) * 100))) = true := beq_iff_eq.mpr c3
      have c3b1 : (a0 != (wrap64 ((wrap64 (Int.tdiv a0 100)) * 100))) = false := bne_eq_false_iff_eq.mpr c3
      clear c3
      obtain rfl := Option.some.inj H
      go_enter Try.func28, Try.ntmps28
      go_wp2
      go_ret
      exact ⟨by first | rfl | (simp; done) | (simp [*]; done), by repeat (first | exact Drawn0.refl _ | apply Drawn0.step)⟩
    · rw [if_neg c3] at H
      have c3b0 : (a0 == (wrap64 ((wrap64 (Int.tdiv a0 100)) * 100))) = false := beq_eq_false_iff_ne.mpr c3
      have c3b1 : (a0 != (wrap64 ((wrap64 (Int.tdiv a0 100)) * 100))) = true := bne_iff_ne.mpr c3
      obtain rfl := Option.some.inj H
      go_enter Try.func28, Try.ntmps28
      go_wp2
      go_ret
      exact ⟨by first | rfl | (simp; done) | (simp [*]; done), by repeat (first | exact Drawn0.refl _ | apply Drawn0.step)⟩

/-! ### excelize_DoorLeap: function 20 -/
def excelize_DoorLeap.f (a0 : Int) : Option (Bool) := (excelize_isLeapYear.f a0).bind fun t101 => (some t101)
set_option maxHeartbeats 8000000 in
set_option maxRecDepth 100000 in
theorem excelize_DoorLeap.calls (a0 : Int) (r : Bool) (w : World) (h : excelize_DoorLeap.f a0 = some r) :
    Calls Try.prog 20 #[.int .i64 a0] w fun e w' => e = .returned (.bool r) ∧ Drawn0 w w' := by
  have H : ((excelize_isLeapYear.f a0).bind fun t101 => (some t101)) = some r := h
  clear h
  replace H := Option.bind_eq_some_iff.mp H
  obtain ⟨t101, A20, H⟩ := H
  replace H : (some t101) = some r := H
  have A2 := Aside0.mk A20
  clear A20
  obtain rfl := Option.some.inj H
  go_enter Try.func20, Try.ntmps20
  go_wp2_with (first | ((with_reducible refine gate_callee (f := 28) rfl ?_); refine goesL_ (some 4) rfl rfl Try.func28 (by kernel_rfl) rfl #[.int .i64 a0] rfl (by (try simp only [List.map_toArray, List.map_cons, List.map_nil]); first | done | rfl | (simp only [List.length_drop, List.length_take]; rfl)) ?_; (with_reducible refine (excelize_isLeapYear.calls a0 t101 _ A2.out).mono ?_); rintro e w' ⟨rfl, ⟨nd, rfl⟩⟩; refine ⟨_, rfl, ?_⟩))
  go_ret
  exact ⟨by first | rfl | (simp; done) | (simp [*]; done), by repeat (first | exact Drawn0.refl _ | apply Drawn0.step)⟩

/-! ### impl_Leap: function 8 -/
def impl_Leap.f (a0 : Int) : Option (Bool) := (excelize_DoorLeap.f a0).bind fun t102 => (some t102)
set_option maxHeartbeats 8000000 in
set_option maxRecDepth 100000 in
theorem impl_Leap.calls (a0 : Int) (r : Bool) (w : World) (h : impl_Leap.f a0 = some r) :
    Calls Try.prog 8 #[.int .i64 a0] w fun e w' => e = .returned (.bool r) ∧ Drawn0 w w' := by
  have H : ((excelize_DoorLeap.f a0).bind fun t102 => (some t102)) = some r := h
  clear h
  replace H := Option.bind_eq_some_iff.mp H
  obtain ⟨t102, A20, H⟩ := H
  replace H : (some t102) = some r := H
  have A2 := Aside0.mk A20
  clear A20
  obtain rfl := Option.some.inj H
  go_enter Try.func8, Try.ntmps8
  go_wp2_with (first | ((with_reducible refine gate_callee (f := 20) rfl ?_); refine goesL_ (some 4) rfl rfl Try.func20 (by kernel_rfl) rfl #[.int .i64 a0] rfl (by (try simp only [List.map_toArray, List.map_cons, List.map_nil]); first | done | rfl | (simp only [List.length_drop, List.length_take]; rfl)) ?_; (with_reducible refine (excelize_DoorLeap.calls a0 t102 _ A2.out).mono ?_); rintro e w' ⟨rfl, ⟨nd, rfl⟩⟩; refine ⟨_, rfl, ?_⟩))
  go_ret
  exact ⟨by first | rfl | (simp; done) | (simp [*]; done), by repeat (first | exact Drawn0.refl _ | apply Drawn0.step)⟩

/-! ### spec_DayLeap: function 9 -/
def spec_DayLeap.f (a0 : Int) : Option (Bool) := if (Int.tmod a0 4) = 0 then (if (Int.tmod a0 100) = 0 then (some ((Int.tmod a0 400) == 0)) else (some true)) else (some false)
set_option maxHeartbeats 8000000 in
set_option maxRecDepth 100000 in
theorem spec_DayLeap.calls (a0 : Int) (r : Bool) (w : World) (h : spec_DayLeap.f a0 = some r) :
    Calls Try.prog 9 #[.int .i64 a0] w fun e w' => e = .returned (.bool r) ∧ Drawn0 w w' := by
  have H : (if (Int.tmod a0 4) = 0 then (if (Int.tmod a0 100) = 0 then (some ((Int.tmod a0 400) == 0)) else (some true)) else (some false)) = some r := h
  clear h
  by_cases c2 : (Int.tmod a0 4) = 0
  · rw [if_pos c2] at H
    have c2b0 : ((Int.tmod a0 4) == 0) = true := beq_iff_eq.mpr c2
    have c2b1 : ((Int.tmod a0 4) != 0) = false := bne_eq_false_iff_eq.mpr c2
    clear c2
    by_cases c3 : (Int.tmod a0 100) = 0
    · rw [if_pos c3] at H
      have c3b0 : ((Int.tmod a0 100) == 0) = true := beq_iff_eq.mpr c3
      have c3b1 : ((Int.tmod a0 100) != 0) = false := bne_eq_false_iff_eq.mpr c3
      clear c3
      obtain rfl := Option.some.inj H
      go_enter Try.func9, Try.ntmps9
      go_wp2
      go_ret
      exact ⟨by first | rfl | (simp; done) | (simp [*]; done), by repeat (first | exact Drawn0.refl _ | apply Drawn0.step)⟩
    · rw [if_neg c3] at H
      have c3b0 : ((Int.tmod a0 100) == 0) = false := beq_eq_false_iff_ne.mpr c3
      have c3b1 : ((Int.tmod a0 100) != 0) = true := bne_iff_ne.mpr c3
      obtain rfl := Option.some.inj H
      go_enter Try.func9, Try.ntmps9
      go_wp2
      go_ret
      exact ⟨by first | rfl | (simp; done) | (simp [*]; done), by repeat (first | exact Drawn0.refl _ | apply Drawn0.step)⟩
  · rw [if_neg c2] at H
    have c2b0 : ((Int.tmod a0 4) == 0) = false := beq_eq_false_iff_ne.mpr c2
    have c2b1 : ((Int.tmod a0 4) != 0) = true := bne_iff_ne.mpr c2
    obtain rfl := Option.some.inj H
    go_enter Try.func9, Try.ntmps9
    go_wp2
    go_ret
    exact ⟨by first | rfl | (simp; done) | (simp [*]; done), by repeat (first | exact Drawn0.refl _ | apply Drawn0.step)⟩

/-! ### laws_FnLeap: function 3 -/
def laws_FnLeap.f (a0 : Int) : Option (Bool) := (impl_Leap.f a0).bind fun t103 => ((spec_DayLeap.f a0).bind fun t104 => (if (t103 == t104) = true then ((impl_Leap.f 2000).bind fun t105 => (if t105 = true then ((impl_Leap.f 1900).bind fun t106 => (some (!t106))) else (some false))) else (some false)))
set_option maxHeartbeats 8000000 in
set_option maxRecDepth 100000 in
theorem laws_FnLeap.calls (a0 : Int) (r : Bool) (w : World) (h : laws_FnLeap.f a0 = some r) :
    Calls Try.prog 3 #[.int .i64 a0] w fun e w' => e = .returned (.bool r) ∧ Drawn0 w w' := by
  have H : ((impl_Leap.f a0).bind fun t103 => ((spec_DayLeap.f a0).bind fun t104 => (if (t103 == t104) = true then ((impl_Leap.f 2000).bind fun t105 => (if t105 = true then ((impl_Leap.f 1900).bind fun t106 => (some (!t106))) else (some false))) else (some false)))) = some r := h
  clear h
  replace H := Option.bind_eq_some_iff.mp H
  obtain ⟨t103, A20, H⟩ := H
  replace H : ((spec_DayLeap.f a0).bind fun t104 => (if (t103 == t104) = true then ((impl_Leap.f 2000).bind fun t105 => (if t105 = true then ((impl_Leap.f 1900).bind fun t106 => (some (!t106))) else (some false))) else (some false))) = some r := H
  have A2 := Aside0.mk A20
  clear A20
  replace H := Option.bind_eq_some_iff.mp H
  obtain ⟨t104, A30, H⟩ := H
  replace H : (if (t103 == t104) = true then ((impl_Leap.f 2000).bind fun t105 => (if t105 = true then ((impl_Leap.f 1900).bind fun t106 => (some (!t106))) else (some false))) else (some false)) = some r := H
  have A3 := Aside0.mk A30
  clear A30
  by_cases c4 : (t103 == t104) = true
  · rw [if_pos c4] at H
    have c4b0 : (t103 == t104) = true := c4
    (try (have c4b1 : decide (t103 = t104) = true := by simpa using c4))
    (try (have c4b2 : (t103 == t104) = true := by simpa using c4))
    clear c4
    replace H := Option.bind_eq_some_iff.mp H
    obtain ⟨t105, A50, H⟩ := H
    replace H : (if t105 = true then ((impl_Leap.f 1900).bind fun t106 => (some (!t106))) else (some false)) = some r := H
    have A5 := Aside0.mk A50
    clear A50
    by_cases c6 : t105 = true
    · subst c6
      have H1 : ((impl_Leap.f 1900).bind fun t106 => (some (!t106))) = some r := by rw [if_pos rfl] at H; exact H
      clear H
      have H := H1
      clear H1
      replace H := Option.bind_eq_some_iff.mp H
      obtain ⟨t106, A70, H⟩ := H
      replace H : (some (!t106)) = some r := H
      have A7 := Aside0.mk A70
      clear A70
      obtain rfl := Option.some.inj H
      go_enter Try.func3, Try.ntmps3
      go_wp2_with (first | ((with_reducible refine gate_callee (f := 8) rfl ?_); refine goesL_ (some 4) rfl rfl Try.func8 (by kernel_rfl) rfl #[.int .i64 a0] rfl (by (try simp only [List.map_toArray, List.map_cons, List.map_nil]); first | done | rfl | (simp only [List.length_drop, List.length_take]; rfl)) ?_; (with_reducible refine (impl_Leap.calls a0 t103 _ A2.out).mono ?_); rintro e w' ⟨rfl, ⟨nd, rfl⟩⟩; refine ⟨_, rfl, ?_⟩) | ((with_reducible refine gate_callee (f := 9) rfl ?_); refine goesL_ (some 6) rfl rfl Try.func9 (by kernel_rfl) rfl #[.int .i64 a0] rfl (by (try simp only [List.map_toArray, List.map_cons, List.map_nil]); first | done | rfl | (simp only [List.length_drop, List.length_take]; rfl)) ?_; (with_reducible refine (spec_DayLeap.calls a0 t104 _ A3.out).mono ?_); rintro e w' ⟨rfl, ⟨nd, rfl⟩⟩; refine ⟨_, rfl, ?_⟩) | (go_at_call 8; (with_reducible refine (impl_Leap.calls 2000 true _ A5.out).mono ?_); rintro e w' ⟨rfl, ⟨nd, rfl⟩⟩) | (go_at_call 8; (with_reducible refine (impl_Leap.calls 1900 t106 _ A7.out).mono ?_); rintro e w' ⟨rfl, ⟨nd, rfl⟩⟩))
      go_ret
      exact ⟨by first | rfl | (simp; done) | (simp [*]; done), by repeat (first | exact Drawn0.refl _ | apply Drawn0.step)⟩
    · replace c6 := Bool.eq_false_iff.mpr c6
      subst c6
      have H1 : (some false) = some r := by rw [if_neg (show ¬ (false = true) by decide)] at H; exact H
      clear H
      have H := H1
      clear H1
      obtain rfl := Option.some.inj H
      go_enter Try.func3, Try.ntmps3
      go_wp2_with (first | ((with_reducible refine gate_callee (f := 8) rfl ?_); refine goesL_ (some 4) rfl rfl Try.func8 (by kernel_rfl) rfl #[.int .i64 a0] rfl (by (try simp only [List.map_toArray, List.map_cons, List.map_nil]); first | done | rfl | (simp only [List.length_drop, List.length_take]; rfl)) ?_; (with_reducible refine (impl_Leap.calls a0 t103 _ A2.out).mono ?_); rintro e w' ⟨rfl, ⟨nd, rfl⟩⟩; refine ⟨_, rfl, ?_⟩) | ((with_reducible refine gate_callee (f := 9) rfl ?_); refine goesL_ (some 6) rfl rfl Try.func9 (by kernel_rfl) rfl #[.int .i64 a0] rfl (by (try simp only [List.map_toArray, List.map_cons, List.map_nil]); first | done | rfl | (simp only [List.length_drop, List.length_take]; rfl)) ?_; (with_reducible refine (spec_DayLeap.calls a0 t104 _ A3.out).mono ?_); rintro e w' ⟨rfl, ⟨nd, rfl⟩⟩; refine ⟨_, rfl, ?_⟩) | (go_at_call 8; (with_reducible refine (impl_Leap.calls 2000 false _ A5.out).mono ?_); rintro e w' ⟨rfl, ⟨nd, rfl⟩⟩))
      go_ret
      exact ⟨by first | rfl | (simp; done) | (simp [*]; done), by repeat (first | exact Drawn0.refl _ | apply Drawn0.step)⟩
  · rw [if_neg c4] at H
    have c4b0 : (t103 == t104) = false := by simpa using c4
    (try (have c4b1 : decide (t103 = t104) = false := by simpa using c4))
    (try (have c4b2 : (t103 == t104) = false := by simpa using c4))
    (try (have c4b3 : ¬ (t103 = t104) := by simpa using c4))
    clear c4
    obtain rfl := Option.some.inj H
    go_enter Try.func3, Try.ntmps3
    go_wp2_with (first | ((with_reducible refine gate_callee (f := 8) rfl ?_); refine goesL_ (some 4) rfl rfl Try.func8 (by kernel_rfl) rfl #[.int .i64 a0] rfl (by (try simp only [List.map_toArray, List.map_cons, List.map_nil]); first | done | rfl | (simp only [List.length_drop, List.length_take]; rfl)) ?_; (with_reducible refine (impl_Leap.calls a0 t103 _ A2.out).mono ?_); rintro e w' ⟨rfl, ⟨nd, rfl⟩⟩; refine ⟨_, rfl, ?_⟩) | ((with_reducible refine gate_callee (f := 9) rfl ?_); refine goesL_ (some 6) rfl rfl Try.func9 (by kernel_rfl) rfl #[.int .i64 a0] rfl (by (try simp only [List.map_toArray, List.map_cons, List.map_nil]); first | done | rfl | (simp only [List.length_drop, List.length_take]; rfl)) ?_; (with_reducible refine (spec_DayLeap.calls a0 t104 _ A3.out).mono ?_); rintro e w' ⟨rfl, ⟨nd, rfl⟩⟩; refine ⟨_, rfl, ?_⟩))
    go_ret
    exact ⟨by first | rfl | (simp; done) | (simp [*]; done), by repeat (first | exact Drawn0.refl _ | apply Drawn0.step)⟩

/-- THE ONE PURE STATEMENT of laws_FnLeap: yours. -/
def laws_FnLeap.Pure : Prop := ∀ (a0 : Int), (Lit.int .i64 a0).wf = true → laws_FnLeap.f a0 = some true
theorem laws_FnLeap.walk (P : laws_FnLeap.Pure) (a0 : Int) (w : World) (w0 : (Lit.int .i64 a0).wf = true) :
    Calls Try.prog 3 #[.int .i64 a0] w fun e w' => e = .returned (.bool true) ∧ Below w.heap.size w w' := by
  have h := P a0 w0
  refine (laws_FnLeap.calls a0 true w h).mono ?_
  rintro e w' ⟨rfl, hd⟩
  exact ⟨rfl, hd.below⟩

end Go.Proofs.Ytdobgmeibccjnaa.PFnLeap
