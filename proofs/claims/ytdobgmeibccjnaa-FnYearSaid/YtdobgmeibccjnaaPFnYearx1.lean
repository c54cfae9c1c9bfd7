-- PRINTED BY print.sh 35421559b90ae4d0a3588c463048766b98c2df88dd9212a6774a882060cdf62d: not written by this session
import Derived.Test.YtdobgmeibccjnaaPFnYearx0
namespace Go.Proofs.Ytdobgmeibccjnaa.PFnYear
open Go.RowKit Go.Proofs.YtdobgmeibccjnaaW.PrintWords Go.Proofs.YtdobgmeibccjnaaW.PrintLast Go.Proofs.YtdobgmeibccjnaaW.PrintMore
attribute [local go_sem] max2_int min2_int max_two min_two max_three min_three max_four min_four   -- for this text's walks alone
set_option linter.unusedVariables false
set_option linter.unusedSimpArgs false

/-! ### laws_combSmall: function 10 -/
def laws_combSmall.f (a0 : Int) (a1 : Int) : Option (Int) := if (wrap64 (a1 + 1)) = 0 then (none) else (some (Int.tmod (wrap64 ((wrap64 ((Int.tmod a0 (wrap64 (a1 + 1))) + a1)) + 1)) (wrap64 (a1 + 1))))
set_option maxHeartbeats 8000000 in
set_option maxRecDepth 100000 in
theorem laws_combSmall.calls (a0 : Int) (a1 : Int) (r : Int) (w : World) (h : laws_combSmall.f a0 a1 = some r) :
    Calls Try.prog 10 #[.int .i64 a0, .int .i64 a1] w fun e w' => e = .returned (.int .i64 r) ∧ Drawn0 w w' := by
  have H : (if (wrap64 (a1 + 1)) = 0 then (none) else (some (Int.tmod (wrap64 ((wrap64 ((Int.tmod a0 (wrap64 (a1 + 1))) + a1)) + 1)) (wrap64 (a1 + 1))))) = some r := h
  clear h
  by_cases c3 : (wrap64 (a1 + 1)) = 0
  · rw [if_pos c3] at H
    exact absurd H (by simp)
  · rw [if_neg c3] at H
    have c3b0 : ((wrap64 (a1 + 1)) == 0) = false := beq_eq_false_iff_ne.mpr c3
    have c3b1 : ((wrap64 (a1 + 1)) != 0) = true := bne_iff_ne.mpr c3
    obtain rfl := Option.some.inj H
    go_enter Try.func10, Try.ntmps10
    go_wp2
    go_ret
    exact ⟨by first | rfl | (simp; done) | (simp [*]; done), by repeat (first | exact Drawn0.refl _ | apply Drawn0.step)⟩

/-! ### excelize_formatYear: function 29 -/
def excelize_formatYear.f (a0 : Int) : Option (Int) := if a0 < 1900 then (if a0 < 30 then (some (wrap64 (a0 + 2000))) else (some (wrap64 (a0 + 1900)))) else (some a0)
set_option maxHeartbeats 8000000 in
set_option maxRecDepth 100000 in
theorem excelize_formatYear.calls (a0 : Int) (r : Int) (w : World) (h : excelize_formatYear.f a0 = some r) :
    Calls Try.prog 29 #[.int .i64 a0] w fun e w' => e = .returned (.int .i64 r) ∧ Drawn0 w w' := by
  have H : (if a0 < 1900 then (if a0 < 30 then (some (wrap64 (a0 + 2000))) else (some (wrap64 (a0 + 1900)))) else (some a0)) = some r := h
  clear h
  by_cases c2 : a0 < 1900
  · rw [if_pos c2] at H
    have c2b0 : decide (a0 < 1900) = true := decide_eq_true c2
    clear c2
    by_cases c3 : a0 < 30
    · rw [if_pos c3] at H
      have c3b0 : decide (a0 < 30) = true := decide_eq_true c3
      clear c3
      obtain rfl := Option.some.inj H
      go_enter Try.func29, Try.ntmps29
      go_wp2
      go_ret
      exact ⟨by first | rfl | (simp; done) | (simp [*]; done), by repeat (first | exact Drawn0.refl _ | apply Drawn0.step)⟩
    · rw [if_neg c3] at H
      have c3b0 : decide (a0 < 30) = false := decide_eq_false c3
      clear c3
      obtain rfl := Option.some.inj H
      go_enter Try.func29, Try.ntmps29
      go_wp2
      go_ret
      exact ⟨by first | rfl | (simp; done) | (simp [*]; done), by repeat (first | exact Drawn0.refl _ | apply Drawn0.step)⟩
  · rw [if_neg c2] at H
    have c2b0 : decide (a0 < 1900) = false := decide_eq_false c2
    clear c2
    obtain rfl := Option.some.inj H
    go_enter Try.func29, Try.ntmps29
    go_wp2
    go_ret
    exact ⟨by first | rfl | (simp; done) | (simp [*]; done), by repeat (first | exact Drawn0.refl _ | apply Drawn0.step)⟩

/-! ### excelize_DoorYear: function 21 -/
def excelize_DoorYear.f (a0 : Int) : Option (Int) := (excelize_formatYear.f a0).bind fun t101 => (some t101)
set_option maxHeartbeats 8000000 in
set_option maxRecDepth 100000 in
theorem excelize_DoorYear.calls (a0 : Int) (r : Int) (w : World) (h : excelize_DoorYear.f a0 = some r) :
    Calls Try.prog 21 #[.int .i64 a0] w fun e w' => e = .returned (.int .i64 r) ∧ Drawn0 w w' := by
  have H : ((excelize_formatYear.f a0).bind fun t101 => (some t101)) = some r := h
  clear h
  replace H := Option.bind_eq_some_iff.mp H
  obtain ⟨t101, A20, H⟩ := H
  replace H : (some t101) = some r := H
  have A2 := Aside0.mk A20
  clear A20
  obtain rfl := Option.some.inj H
  go_enter Try.func21, Try.ntmps21
  go_wp2_with (first | ((with_reducible refine gate_callee (f := 29) rfl ?_); refine goesL_ (some 4) rfl rfl Try.func29 (by kernel_rfl) rfl #[.int .i64 a0] rfl (by (try simp only [List.map_toArray, List.map_cons, List.map_nil]); first | done | rfl | (simp only [List.length_drop, List.length_take]; rfl)) ?_; (with_reducible refine (excelize_formatYear.calls a0 t101 _ A2.out).mono ?_); rintro e w' ⟨rfl, ⟨nd, rfl⟩⟩; refine ⟨_, rfl, ?_⟩))
  go_ret
  exact ⟨by first | rfl | (simp; done) | (simp [*]; done), by repeat (first | exact Drawn0.refl _ | apply Drawn0.step)⟩

/-! ### impl_Year: function 11 -/
def impl_Year.f (a0 : Int) : Option (Int) := (excelize_DoorYear.f a0).bind fun t102 => (some t102)
set_option maxHeartbeats 8000000 in
set_option maxRecDepth 100000 in
theorem impl_Year.calls (a0 : Int) (r : Int) (w : World) (h : impl_Year.f a0 = some r) :
    Calls Try.prog 11 #[.int .i64 a0] w fun e w' => e = .returned (.int .i64 r) ∧ Drawn0 w w' := by
  have H : ((excelize_DoorYear.f a0).bind fun t102 => (some t102)) = some r := h
  clear h
  replace H := Option.bind_eq_some_iff.mp H
  obtain ⟨t102, A20, H⟩ := H
  replace H : (some t102) = some r := H
  have A2 := Aside0.mk A20
  clear A20
  obtain rfl := Option.some.inj H
  go_enter Try.func11, Try.ntmps11
  go_wp2_with (first | ((with_reducible refine gate_callee (f := 21) rfl ?_); refine goesL_ (some 4) rfl rfl Try.func21 (by kernel_rfl) rfl #[.int .i64 a0] rfl (by (try simp only [List.map_toArray, List.map_cons, List.map_nil]); first | done | rfl | (simp only [List.length_drop, List.length_take]; rfl)) ?_; (with_reducible refine (excelize_DoorYear.calls a0 t102 _ A2.out).mono ?_); rintro e w' ⟨rfl, ⟨nd, rfl⟩⟩; refine ⟨_, rfl, ?_⟩))
  go_ret
  exact ⟨by first | rfl | (simp; done) | (simp [*]; done), by repeat (first | exact Drawn0.refl _ | apply Drawn0.step)⟩

/-! ### laws_FnYear: function 4 -/
def laws_FnYear.f (a0 : Int) : Option (Bool) := (laws_combSmall.f a0 9999).bind fun t103 => (if t103 < 30 then ((impl_Year.f t103).bind fun t104 => (some (t104 == (wrap64 (2000 + t103))))) else (if t103 < 100 then ((impl_Year.f t103).bind fun t105 => (some (t105 == (wrap64 (1900 + t103))))) else (if t103 < 1900 then ((impl_Year.f 5).bind fun t106 => (some (t106 == 2005))) else ((impl_Year.f t103).bind fun t107 => (if t107 = t103 then ((impl_Year.f 5).bind fun t108 => (some (t108 == 2005))) else (some false))))))
set_option maxHeartbeats 8000000 in
set_option maxRecDepth 100000 in
theorem laws_FnYear.calls (a0 : Int) (r : Bool) (w : World) (h : laws_FnYear.f a0 = some r) :
    Calls Try.prog 4 #[.int .i64 a0] w fun e w' => e = .returned (.bool r) ∧ Drawn0 w w' := by
  have H : ((laws_combSmall.f a0 9999).bind fun t103 => (if t103 < 30 then ((impl_Year.f t103).bind fun t104 => (some (t104 == (wrap64 (2000 + t103))))) else (if t103 < 100 then ((impl_Year.f t103).bind fun t105 => (some (t105 == (wrap64 (1900 + t103))))) else (if t103 < 1900 then ((impl_Year.f 5).bind fun t106 => (some (t106 == 2005))) else ((impl_Year.f t103).bind fun t107 => (if t107 = t103 then ((impl_Year.f 5).bind fun t108 => (some (t108 == 2005))) else (some false))))))) = some r := h
  clear h
  replace H := Option.bind_eq_some_iff.mp H
  obtain ⟨t103, A20, H⟩ := H
  replace H : (if t103 < 30 then ((impl_Year.f t103).bind fun t104 => (some (t104 == (wrap64 (2000 + t103))))) else (if t103 < 100 then ((impl_Year.f t103).bind fun t105 => (some (t105 == (wrap64 (1900 + t103))))) else (if t103 < 1900 then ((impl_Year.f 5).bind fun t106 => (some (t106 == 2005))) else ((impl_Year.f t103).bind fun t107 => (if t107 = t103 then ((impl_Year.f 5).bind fun t108 => (some (t108 == 2005))) else (some false)))))) = some r := H
  have A2 := Aside0.mk A20
  clear A20
  by_cases c3 : t103 < 30
  · rw [if_pos c3] at H
    have c3b0 : decide (t103 < 30) = true := decide_eq_true c3
    clear c3
    replace H := Option.bind_eq_some_iff.mp H
    obtain ⟨t104, A40, H⟩ := H
    replace H : (some (t104 == (wrap64 (2000 + t103)))) = some r := H
    have A4 := Aside0.mk A40
    clear A40
    obtain rfl := Option.some.inj H
    go_enter Try.func4, Try.ntmps4
    go_wp2_with (first | ((with_reducible refine gate_callee (f := 10) rfl ?_); refine goesL_ (some 4) rfl rfl Try.func10 (by kernel_rfl) rfl #[.int .i64 a0, .int .i64 9999] rfl (by (try simp only [List.map_toArray, List.map_cons, List.map_nil]); first | done | rfl | (simp only [List.length_drop, List.length_take]; rfl)) ?_; (with_reducible refine (laws_combSmall.calls a0 9999 t103 _ A2.out).mono ?_); rintro e w' ⟨rfl, ⟨nd, rfl⟩⟩; refine ⟨_, rfl, ?_⟩) | ((with_reducible refine gate_callee (f := 11) rfl ?_); refine goesL_ (some 9) rfl rfl Try.func11 (by kernel_rfl) rfl #[.int .i64 t103] rfl (by (try simp only [List.map_toArray, List.map_cons, List.map_nil]); first | done | rfl | (simp only [List.length_drop, List.length_take]; rfl)) ?_; (with_reducible refine (impl_Year.calls t103 t104 _ A4.out).mono ?_); rintro e w' ⟨rfl, ⟨nd, rfl⟩⟩; refine ⟨_, rfl, ?_⟩))
    go_ret
    exact ⟨by first | rfl | (simp; done) | (simp [*]; done), by repeat (first | exact Drawn0.refl _ | apply Drawn0.step)⟩
  · rw [if_neg c3] at H
    have c3b0 : decide (t103 < 30) = false := decide_eq_false c3
    clear c3
    by_cases c5 : t103 < 100
    · rw [if_pos c5] at H
      have c5b0 : decide (t103 < 100) = true := decide_eq_true c5
      clear c5
      replace H := Option.bind_eq_some_iff.mp H
      obtain ⟨t105, A60, H⟩ := H
      replace H : (some (t105 == (wrap64 (1900 + t103)))) = some r := H
      have A6 := Aside0.mk A60
      clear A60
      obtain rfl := Option.some.inj H
      go_enter Try.func4, Try.ntmps4
      go_wp2_with (first | ((with_reducible refine gate_callee (f := 10) rfl ?_); refine goesL_ (some 4) rfl rfl Try.func10 (by kernel_rfl) rfl #[.int .i64 a0, .int .i64 9999] rfl (by (try simp only [List.map_toArray, List.map_cons, List.map_nil]); first | done | rfl | (simp only [List.length_drop, List.length_take]; rfl)) ?_; (with_reducible refine (laws_combSmall.calls a0 9999 t103 _ A2.out).mono ?_); rintro e w' ⟨rfl, ⟨nd, rfl⟩⟩; refine ⟨_, rfl, ?_⟩) | ((with_reducible refine gate_callee (f := 11) rfl ?_); refine goesL_ (some 17) rfl rfl Try.func11 (by kernel_rfl) rfl #[.int .i64 t103] rfl (by (try simp only [List.map_toArray, List.map_cons, List.map_nil]); first | done | rfl | (simp only [List.length_drop, List.length_take]; rfl)) ?_; (with_reducible refine (impl_Year.calls t103 t105 _ A6.out).mono ?_); rintro e w' ⟨rfl, ⟨nd, rfl⟩⟩; refine ⟨_, rfl, ?_⟩))
      go_ret
      exact ⟨by first | rfl | (simp; done) | (simp [*]; done), by repeat (first | exact Drawn0.refl _ | apply Drawn0.step)⟩
    · rw [if_neg c5] at H
      have c5b0 : decide (t103 < 100) = false := decide_eq_false c5
      clear c5
      by_cases c7 : t103 < 1900
      · rw [if_pos c7] at H
        have c7b0 : decide (t103 < 1900) = true := decide_eq_true c7
        clear c7
        replace H := Option.bind_eq_some_iff.mp H
        obtain ⟨t106, A80, H⟩ := H
        replace H : (some (t106 == 2005)) = some r := H
        have A8 := Aside0.mk A80
        clear A80
        obtain rfl := Option.some.inj H
        go_enter Try.func4, Try.ntmps4
        go_wp2_with (first | ((with_reducible refine gate_callee (f := 10) rfl ?_); refine goesL_ (some 4) rfl rfl Try.func10 (by kernel_rfl) rfl #[.int .i64 a0, .int .i64 9999] rfl (by (try simp only [List.map_toArray, List.map_cons, List.map_nil]); first | done | rfl | (simp only [List.length_drop, List.length_take]; rfl)) ?_; (with_reducible refine (laws_combSmall.calls a0 9999 t103 _ A2.out).mono ?_); rintro e w' ⟨rfl, ⟨nd, rfl⟩⟩; refine ⟨_, rfl, ?_⟩) | (go_at_call 11; (with_reducible refine (impl_Year.calls 5 t106 _ A8.out).mono ?_); rintro e w' ⟨rfl, ⟨nd, rfl⟩⟩))
        go_ret
        exact ⟨by first | rfl | (simp; done) | (simp [*]; done), by repeat (first | exact Drawn0.refl _ | apply Drawn0.step)⟩
      · rw [if_neg c7] at H
        have c7b0 : decide (t103 < 1900) = false := decide_eq_false c7
        clear c7
        replace H := Option.bind_eq_some_iff.mp H
        obtain ⟨t107, A90, H⟩ := H
        replace H : (if t107 = t103 then ((impl_Year.f 5).bind fun t108 => (some (t108 == 2005))) else (some false)) = some r := H
        have A9 := Aside0.mk A90
        clear A90
        by_cases c10 : t107 = t103
        · rw [if_pos c10] at H
          have c10b0 : (t107 == t103) = true := beq_iff_eq.mpr c10
          have c10b1 : (t107 != t103) = false := bne_eq_false_iff_eq.mpr c10
          clear c10
          replace H := Option.bind_eq_some_iff.mp H
          obtain ⟨t108, A110, H⟩ := H
          replace H : (some (t108 == 2005)) = some r := H
          have A11 := Aside0.mk A110
          clear A110
          obtain rfl := Option.some.inj H
          go_enter Try.func4, Try.ntmps4
          go_wp2_with (first | ((with_reducible refine gate_callee (f := 10) rfl ?_); refine goesL_ (some 4) rfl rfl Try.func10 (by kernel_rfl) rfl #[.int .i64 a0, .int .i64 9999] rfl (by (try simp only [List.map_toArray, List.map_cons, List.map_nil]); first | done | rfl | (simp only [List.length_drop, List.length_take]; rfl)) ?_; (with_reducible refine (laws_combSmall.calls a0 9999 t103 _ A2.out).mono ?_); rintro e w' ⟨rfl, ⟨nd, rfl⟩⟩; refine ⟨_, rfl, ?_⟩) | (go_at_call 11; (with_reducible refine (impl_Year.calls t103 t107 _ A9.out).mono ?_); rintro e w' ⟨rfl, ⟨nd, rfl⟩⟩) | (go_at_call 11; (with_reducible refine (impl_Year.calls 5 t108 _ A11.out).mono ?_); rintro e w' ⟨rfl, ⟨nd, rfl⟩⟩))
          go_ret
          exact ⟨by first | rfl | (simp; done) | (simp [*]; done), by repeat (first | exact Drawn0.refl _ | apply Drawn0.step)⟩
        · rw [if_neg c10] at H
          have c10b0 : (t107 == t103) = false := beq_eq_false_iff_ne.mpr c10
          have c10b1 : (t107 != t103) = true := bne_iff_ne.mpr c10
          obtain rfl := Option.some.inj H
          go_enter Try.func4, Try.ntmps4
          go_wp2_with (first | ((with_reducible refine gate_callee (f := 10) rfl ?_); refine goesL_ (some 4) rfl rfl Try.func10 (by kernel_rfl) rfl #[.int .i64 a0, .int .i64 9999] rfl (by (try simp only [List.map_toArray, List.map_cons, List.map_nil]); first | done | rfl | (simp only [List.length_drop, List.length_take]; rfl)) ?_; (with_reducible refine (laws_combSmall.calls a0 9999 t103 _ A2.out).mono ?_); rintro e w' ⟨rfl, ⟨nd, rfl⟩⟩; refine ⟨_, rfl, ?_⟩) | (go_at_call 11; (with_reducible refine (impl_Year.calls t103 t107 _ A9.out).mono ?_); rintro e w' ⟨rfl, ⟨nd, rfl⟩⟩))
          go_ret
          exact ⟨by first | rfl | (simp; done) | (simp [*]; done), by repeat (first | exact Drawn0.refl _ | apply Drawn0.step)⟩

/-- THE ONE PURE STATEMENT of laws_FnYear: yours. -/
def laws_FnYear.Pure : Prop := ∀ (a0 : Int), (Lit.int .i64 a0).wf = true → laws_FnYear.f a0 = some true
theorem laws_FnYear.walk (P : laws_FnYear.Pure) (a0 : Int) (w : World) (w0 : (Lit.int .i64 a0).wf = true) :
    Calls Try.prog 4 #[.int .i64 a0] w fun e w' => e = .returned (.bool true) ∧ Below w.heap.size w w' := by
  have h := P a0 w0
  refine (laws_FnYear.calls a0 true w h).mono ?_
  rintro e w' ⟨rfl, hd⟩
  exact ⟨rfl, hd.below⟩

end Go.Proofs.Ytdobgmeibccjnaa.PFnYear
