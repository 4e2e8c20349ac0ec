-- PRINTED BY print.sh 35421559b90ae4d0a3588c463048766b98c2df88dd9212a6774a882060cdf62d: not written by this session
import Derived.Test.YtmkpaoakobabnaaPScalarNoncharsx0
namespace Go.Proofs.Ytmkpaoakobabnaa.PScalarNonchars
open Go.RowKit Go.Proofs.YtmkpaoakobabnaaW.PrintWords Go.Proofs.YtmkpaoakobabnaaW.PrintLast Go.Proofs.YtmkpaoakobabnaaW.PrintMore
attribute [local go_sem] max2_int min2_int max_two min_two max_three min_three max_four min_four   -- for this text's walks alone
set_option linter.unusedVariables false
set_option linter.unusedSimpArgs false

/-! ### scalar_Is: function 11 -/
def scalar_Is.f (a0 : Int) : Option (Bool) := if a0 ≥ 0 then (if a0 ≤ 1114111 then (if a0 < 55296 then (some true) else (some (decide (a0 > 57343)))) else (some false)) else (some false)
set_option maxHeartbeats 8000000 in
set_option maxRecDepth 100000 in
theorem scalar_Is.calls (a0 : Int) (r : Bool) (w : World) (h : scalar_Is.f a0 = some r) :
    Calls Try.prog 11 #[.int .i32 a0] w fun e w' => e = .returned (.bool r) ∧ Drawn0 w w' := by
  have H : (if a0 ≥ 0 then (if a0 ≤ 1114111 then (if a0 < 55296 then (some true) else (some (decide (a0 > 57343)))) else (some false)) else (some false)) = some r := h
  clear h
  by_cases c2 : a0 ≥ 0
  · rw [if_pos c2] at H
    have c2b0 : decide (0 ≤ a0) = true := decide_eq_true c2
    clear c2
    by_cases c3 : a0 ≤ 1114111
    · rw [if_pos c3] at H
      have c3b0 : decide (a0 ≤ 1114111) = true := decide_eq_true c3
      clear c3
      by_cases c4 : a0 < 55296
      · rw [if_pos c4] at H
        have c4b0 : decide (a0 < 55296) = true := decide_eq_true c4
        clear c4
        obtain rfl := Option.some.inj H
        go_enter Try.func11, Try.ntmps11
        go_wp2
        go_ret
        exact ⟨by first | rfl | (simp; done) | (simp [*]; done), by repeat (first | exact Drawn0.refl _ | apply Drawn0.step)⟩
      · rw [if_neg c4] at H
        have c4b0 : decide (a0 < 55296) = false := decide_eq_false c4
        clear c4
        obtain rfl := Option.some.inj H
        go_enter Try.func11, Try.ntmps11
        go_wp2
        go_ret
        exact ⟨by first | rfl | (simp; done) | (simp [*]; done), by repeat (first | exact Drawn0.refl _ | apply Drawn0.step)⟩
    · rw [if_neg c3] at H
      have c3b0 : decide (a0 ≤ 1114111) = false := decide_eq_false c3
      clear c3
      obtain rfl := Option.some.inj H
      go_enter Try.func11, Try.ntmps11
      go_wp2
      go_ret
      exact ⟨by first | rfl | (simp; done) | (simp [*]; done), by repeat (first | exact Drawn0.refl _ | apply Drawn0.step)⟩
  · rw [if_neg c2] at H
    have c2b0 : decide (0 ≤ a0) = false := decide_eq_false c2
    clear c2
    obtain rfl := Option.some.inj H
    go_enter Try.func11, Try.ntmps11
    go_wp2
    go_ret
    exact ⟨by first | rfl | (simp; done) | (simp [*]; done), by repeat (first | exact Drawn0.refl _ | apply Drawn0.step)⟩

/-! ### scalar_Nonchar: function 13 -/
def scalar_Nonchar.f (a0 : Int) : Option (Bool) := if a0 ≥ 64976 then (if a0 ≤ 65007 then (some true) else ((scalar_Is.f a0).bind fun t101 => (if t101 = true then (some ((Go.bits .and .i32 a0 65534) == 65534)) else (some false)))) else ((scalar_Is.f a0).bind fun t102 => (if t102 = true then (some ((Go.bits .and .i32 a0 65534) == 65534)) else (some false)))
set_option maxHeartbeats 8000000 in
set_option maxRecDepth 100000 in
theorem scalar_Nonchar.calls (a0 : Int) (r : Bool) (w : World) (h : scalar_Nonchar.f a0 = some r) :
    Calls Try.prog 13 #[.int .i32 a0] w fun e w' => e = .returned (.bool r) ∧ Drawn0 w w' := by
  have H : (if a0 ≥ 64976 then (if a0 ≤ 65007 then (some true) else ((scalar_Is.f a0).bind fun t101 => (if t101 = true then (some ((Go.bits .and .i32 a0 65534) == 65534)) else (some false)))) else ((scalar_Is.f a0).bind fun t102 => (if t102 = true then (some ((Go.bits .and .i32 a0 65534) == 65534)) else (some false)))) = some r := h
  clear h
  by_cases c2 : a0 ≥ 64976
  · rw [if_pos c2] at H
    have c2b0 : decide (64976 ≤ a0) = true := decide_eq_true c2
    clear c2
    by_cases c3 : a0 ≤ 65007
    · rw [if_pos c3] at H
      have c3b0 : decide (a0 ≤ 65007) = true := decide_eq_true c3
      clear c3
      obtain rfl := Option.some.inj H
      go_enter Try.func13, Try.ntmps13
      go_wp2
      go_ret
      exact ⟨by first | rfl | (simp; done) | (simp [*]; done), by repeat (first | exact Drawn0.refl _ | apply Drawn0.step)⟩
    · rw [if_neg c3] at H
      have c3b0 : decide (a0 ≤ 65007) = false := decide_eq_false c3
      clear c3
      replace H := Option.bind_eq_some_iff.mp H
      obtain ⟨t101, A40, H⟩ := H
      replace H : (if t101 = true then (some ((Go.bits .and .i32 a0 65534) == 65534)) else (some false)) = some r := H
      have A4 := Aside0.mk A40
      clear A40
      by_cases c5 : t101 = true
      · subst c5
        have H1 : (some ((Go.bits .and .i32 a0 65534) == 65534)) = some r := by rw [if_pos rfl] at H; exact H
        clear H
        have H := H1
        clear H1
        obtain rfl := Option.some.inj H
        go_enter Try.func13, Try.ntmps13
        go_wp2_with (first | (go_at_call 11; (with_reducible refine (scalar_Is.calls a0 true _ A4.out).mono ?_); rintro e w' ⟨rfl, ⟨nd, rfl⟩⟩))
        go_ret
        exact ⟨by first | rfl | (simp; done) | (simp [*]; done), by repeat (first | exact Drawn0.refl _ | apply Drawn0.step)⟩
      · replace c5 := Bool.eq_false_iff.mpr c5
        subst c5
        have H1 : (some false) = some r := by rw [if_neg (show ¬ (false = true) by decide)] at H; exact H
        clear H
        have H := H1
        clear H1
        obtain rfl := Option.some.inj H
        go_enter Try.func13, Try.ntmps13
        go_wp2_with (first | (go_at_call 11; (with_reducible refine (scalar_Is.calls a0 false _ A4.out).mono ?_); rintro e w' ⟨rfl, ⟨nd, rfl⟩⟩))
        go_ret
        exact ⟨by first | rfl | (simp; done) | (simp [*]; done), by repeat (first | exact Drawn0.refl _ | apply Drawn0.step)⟩
  · rw [if_neg c2] at H
    have c2b0 : decide (64976 ≤ a0) = false := decide_eq_false c2
    clear c2
    replace H := Option.bind_eq_some_iff.mp H
    obtain ⟨t102, A60, H⟩ := H
    replace H : (if t102 = true then (some ((Go.bits .and .i32 a0 65534) == 65534)) else (some false)) = some r := H
    have A6 := Aside0.mk A60
    clear A60
    by_cases c7 : t102 = true
    · subst c7
      have H1 : (some ((Go.bits .and .i32 a0 65534) == 65534)) = some r := by rw [if_pos rfl] at H; exact H
      clear H
      have H := H1
      clear H1
      obtain rfl := Option.some.inj H
      go_enter Try.func13, Try.ntmps13
      go_wp2_with (first | (go_at_call 11; (with_reducible refine (scalar_Is.calls a0 true _ A6.out).mono ?_); rintro e w' ⟨rfl, ⟨nd, rfl⟩⟩))
      go_ret
      exact ⟨by first | rfl | (simp; done) | (simp [*]; done), by repeat (first | exact Drawn0.refl _ | apply Drawn0.step)⟩
    · replace c7 := Bool.eq_false_iff.mpr c7
      subst c7
      have H1 : (some false) = some r := by rw [if_neg (show ¬ (false = true) by decide)] at H; exact H
      clear H
      have H := H1
      clear H1
      obtain rfl := Option.some.inj H
      go_enter Try.func13, Try.ntmps13
      go_wp2_with (first | (go_at_call 11; (with_reducible refine (scalar_Is.calls a0 false _ A6.out).mono ?_); rintro e w' ⟨rfl, ⟨nd, rfl⟩⟩))
      go_ret
      exact ⟨by first | rfl | (simp; done) | (simp [*]; done), by repeat (first | exact Drawn0.refl _ | apply Drawn0.step)⟩

/-! ### scalar_Units: function 15 -/
def scalar_Units.f (a0 : Int) : Option (Int) := (scalar_Is.f a0).bind fun t103 => (if t103 = true then (if a0 ≥ 65536 then (some ((0 + 1) + 1)) else (some (0 + 1))) else (some 0))
set_option maxHeartbeats 8000000 in
set_option maxRecDepth 100000 in
theorem scalar_Units.calls (a0 : Int) (r : Int) (w : World) (h : scalar_Units.f a0 = some r) :
    Calls Try.prog 15 #[.int .i32 a0] w fun e w' => e = .returned (.int .i64 r) ∧ Drawn0 w w' := by
  have H : ((scalar_Is.f a0).bind fun t103 => (if t103 = true then (if a0 ≥ 65536 then (some ((0 + 1) + 1)) else (some (0 + 1))) else (some 0))) = some r := h
  clear h
  replace H := Option.bind_eq_some_iff.mp H
  obtain ⟨t103, A20, H⟩ := H
  replace H : (if t103 = true then (if a0 ≥ 65536 then (some ((0 + 1) + 1)) else (some (0 + 1))) else (some 0)) = some r := H
  have A2 := Aside0.mk A20
  clear A20
  by_cases c3 : t103 = true
  · subst c3
    have H1 : (if a0 ≥ 65536 then (some ((0 + 1) + 1)) else (some (0 + 1))) = some r := by rw [if_pos rfl] at H; exact H
    clear H
    have H := H1
    clear H1
    by_cases c4 : a0 ≥ 65536
    · rw [if_pos c4] at H
      have c4b0 : decide (65536 ≤ a0) = true := decide_eq_true c4
      clear c4
      obtain rfl := Option.some.inj H
      go_enter Try.func15, Try.ntmps15
      go_wp2_with (first | ((with_reducible refine gate_callee (f := 11) rfl ?_); refine goesL_ (some 6) rfl rfl Try.func11 (by kernel_rfl) rfl #[.int .i32 a0] rfl (by (try simp only [List.map_toArray, List.map_cons, List.map_nil]); first | done | rfl | (simp only [List.length_drop, List.length_take]; rfl)) ?_; (with_reducible refine (scalar_Is.calls a0 true _ A2.out).mono ?_); rintro e w' ⟨rfl, ⟨nd, rfl⟩⟩; refine ⟨_, rfl, ?_⟩))
      go_ret
      exact ⟨by first | rfl | (simp; done) | (simp [*]; done), by repeat (first | exact Drawn0.refl _ | apply Drawn0.step)⟩
    · rw [if_neg c4] at H
      have c4b0 : decide (65536 ≤ a0) = false := decide_eq_false c4
      clear c4
      obtain rfl := Option.some.inj H
      go_enter Try.func15, Try.ntmps15
      go_wp2_with (first | ((with_reducible refine gate_callee (f := 11) rfl ?_); refine goesL_ (some 6) rfl rfl Try.func11 (by kernel_rfl) rfl #[.int .i32 a0] rfl (by (try simp only [List.map_toArray, List.map_cons, List.map_nil]); first | done | rfl | (simp only [List.length_drop, List.length_take]; rfl)) ?_; (with_reducible refine (scalar_Is.calls a0 true _ A2.out).mono ?_); rintro e w' ⟨rfl, ⟨nd, rfl⟩⟩; refine ⟨_, rfl, ?_⟩))
      go_ret
      exact ⟨by first | rfl | (simp; done) | (simp [*]; done), by repeat (first | exact Drawn0.refl _ | apply Drawn0.step)⟩
  · replace c3 := Bool.eq_false_iff.mpr c3
    subst c3
    have H1 : (some 0) = some r := by rw [if_neg (show ¬ (false = true) by decide)] at H; exact H
    clear H
    have H := H1
    clear H1
    obtain rfl := Option.some.inj H
    go_enter Try.func15, Try.ntmps15
    go_wp2_with (first | ((with_reducible refine gate_callee (f := 11) rfl ?_); refine goesL_ (some 6) rfl rfl Try.func11 (by kernel_rfl) rfl #[.int .i32 a0] rfl (by (try simp only [List.map_toArray, List.map_cons, List.map_nil]); first | done | rfl | (simp only [List.length_drop, List.length_take]; rfl)) ?_; (with_reducible refine (scalar_Is.calls a0 false _ A2.out).mono ?_); rintro e w' ⟨rfl, ⟨nd, rfl⟩⟩; refine ⟨_, rfl, ?_⟩))
    go_ret
    exact ⟨by first | rfl | (simp; done) | (simp [*]; done), by repeat (first | exact Drawn0.refl _ | apply Drawn0.step)⟩

/-! ### scalar_Split: function 7 -/
def scalar_Split.f (a0 : Int) : Option (Int × Int × Bool) := (scalar_Units.f a0).bind fun t104 => (if t104 = 2 then (some (IntKind.u16.wrap (wrap32 (55296 + ((wrap32 (a0 - 65536)) / 1024))), IntKind.u16.wrap (wrap32 (56320 + (Go.bits .and .i32 (wrap32 (a0 - 65536)) 1023))), true)) else (some (0, 0, false)))
set_option maxHeartbeats 8000000 in
set_option maxRecDepth 100000 in
theorem scalar_Split.calls (a0 : Int) (r1 : Int) (r2 : Int) (r3 : Bool) (w : World) (h : scalar_Split.f a0 = some (r1, r2, r3)) :
    Calls Try.prog 7 #[.int .i32 a0] w fun e w' => e = .returned (.tuple #[.int .u16 r1, .int .u16 r2, .bool r3]) ∧ Drawn0 w w' := by
  have H : ((scalar_Units.f a0).bind fun t104 => (if t104 = 2 then (some (IntKind.u16.wrap (wrap32 (55296 + ((wrap32 (a0 - 65536)) / 1024))), IntKind.u16.wrap (wrap32 (56320 + (Go.bits .and .i32 (wrap32 (a0 - 65536)) 1023))), true)) else (some (0, 0, false)))) = some (r1, r2, r3) := h
  clear h
  replace H := Option.bind_eq_some_iff.mp H
  obtain ⟨t104, A20, H⟩ := H
  replace H : (if t104 = 2 then (some (IntKind.u16.wrap (wrap32 (55296 + ((wrap32 (a0 - 65536)) / 1024))), IntKind.u16.wrap (wrap32 (56320 + (Go.bits .and .i32 (wrap32 (a0 - 65536)) 1023))), true)) else (some (0, 0, false))) = some (r1, r2, r3) := H
  have A2 := Aside0.mk A20
  clear A20
  by_cases c3 : t104 = 2
  · rw [if_pos c3] at H
    have c3b0 : (t104 == 2) = true := beq_iff_eq.mpr c3
    have c3b1 : (t104 != 2) = false := bne_eq_false_iff_eq.mpr c3
    clear c3
    simp only [Option.some.injEq, Prod.mk.injEq] at H
    obtain ⟨rfl, rfl, rfl⟩ := H
    go_enter Try.func7, Try.ntmps7
    go_wp2_with (first | ((with_reducible refine gate_callee (f := 15) rfl ?_); refine goesL_ (some 6) rfl rfl Try.func15 (by kernel_rfl) rfl #[.int .i32 a0] rfl (by (try simp only [List.map_toArray, List.map_cons, List.map_nil]); first | done | rfl | (simp only [List.length_drop, List.length_take]; rfl)) ?_; (with_reducible refine (scalar_Units.calls a0 t104 _ A2.out).mono ?_); rintro e w' ⟨rfl, ⟨nd, rfl⟩⟩; refine ⟨_, rfl, ?_⟩))
    go_ret3
    exact ⟨by first | rfl | (simp; done) | (simp [*]; done), by repeat (first | exact Drawn0.refl _ | apply Drawn0.step)⟩
  · rw [if_neg c3] at H
    have c3b0 : (t104 == 2) = false := beq_eq_false_iff_ne.mpr c3
    have c3b1 : (t104 != 2) = true := bne_iff_ne.mpr c3
    simp only [Option.some.injEq, Prod.mk.injEq] at H
    obtain ⟨rfl, rfl, rfl⟩ := H
    go_enter Try.func7, Try.ntmps7
    go_wp2_with (first | ((with_reducible refine gate_callee (f := 15) rfl ?_); refine goesL_ (some 6) rfl rfl Try.func15 (by kernel_rfl) rfl #[.int .i32 a0] rfl (by (try simp only [List.map_toArray, List.map_cons, List.map_nil]); first | done | rfl | (simp only [List.length_drop, List.length_take]; rfl)) ?_; (with_reducible refine (scalar_Units.calls a0 t104 _ A2.out).mono ?_); rintro e w' ⟨rfl, ⟨nd, rfl⟩⟩; refine ⟨_, rfl, ?_⟩))
    go_ret3
    exact ⟨by first | rfl | (simp; done) | (simp [*]; done), by repeat (first | exact Drawn0.refl _ | apply Drawn0.step)⟩

/-! ### scalar_High: function 17 -/
def scalar_High.f (a0 : Int) : Option (Bool) := if a0 ≥ 55296 then (some (decide (a0 < 56320))) else (some false)
set_option maxHeartbeats 8000000 in
set_option maxRecDepth 100000 in
theorem scalar_High.calls (a0 : Int) (r : Bool) (w : World) (h : scalar_High.f a0 = some r) :
    Calls Try.prog 17 #[.int .u16 a0] w fun e w' => e = .returned (.bool r) ∧ Drawn0 w w' := by
  have H : (if a0 ≥ 55296 then (some (decide (a0 < 56320))) else (some false)) = some r := h
  clear h
  by_cases c2 : a0 ≥ 55296
  · rw [if_pos c2] at H
    have c2b0 : decide (55296 ≤ a0) = true := decide_eq_true c2
    clear c2
    obtain rfl := Option.some.inj H
    go_enter Try.func17, Try.ntmps17
    go_wp2
    go_ret
    exact ⟨by first | rfl | (simp; done) | (simp [*]; done), by repeat (first | exact Drawn0.refl _ | apply Drawn0.step)⟩
  · rw [if_neg c2] at H
    have c2b0 : decide (55296 ≤ a0) = false := decide_eq_false c2
    clear c2
    obtain rfl := Option.some.inj H
    go_enter Try.func17, Try.ntmps17
    go_wp2
    go_ret
    exact ⟨by first | rfl | (simp; done) | (simp [*]; done), by repeat (first | exact Drawn0.refl _ | apply Drawn0.step)⟩

/-! ### scalar_Low: function 19 -/
def scalar_Low.f (a0 : Int) : Option (Bool) := if a0 ≥ 56320 then (some (decide (a0 ≤ 57343))) else (some false)
set_option maxHeartbeats 8000000 in
set_option maxRecDepth 100000 in
theorem scalar_Low.calls (a0 : Int) (r : Bool) (w : World) (h : scalar_Low.f a0 = some r) :
    Calls Try.prog 19 #[.int .u16 a0] w fun e w' => e = .returned (.bool r) ∧ Drawn0 w w' := by
  have H : (if a0 ≥ 56320 then (some (decide (a0 ≤ 57343))) else (some false)) = some r := h
  clear h
  by_cases c2 : a0 ≥ 56320
  · rw [if_pos c2] at H
    have c2b0 : decide (56320 ≤ a0) = true := decide_eq_true c2
    clear c2
    obtain rfl := Option.some.inj H
    go_enter Try.func19, Try.ntmps19
    go_wp2
    go_ret
    exact ⟨by first | rfl | (simp; done) | (simp [*]; done), by repeat (first | exact Drawn0.refl _ | apply Drawn0.step)⟩
  · rw [if_neg c2] at H
    have c2b0 : decide (56320 ≤ a0) = false := decide_eq_false c2
    clear c2
    obtain rfl := Option.some.inj H
    go_enter Try.func19, Try.ntmps19
    go_wp2
    go_ret
    exact ⟨by first | rfl | (simp; done) | (simp [*]; done), by repeat (first | exact Drawn0.refl _ | apply Drawn0.step)⟩

/-! ### scalar_Join: function 9 -/
def scalar_Join.f (a0 : Int) (a1 : Int) : Option (Int × Bool) := (scalar_High.f a0).bind fun t105 => (if t105 = true then ((scalar_Low.f a1).bind fun t106 => (if t106 = true then (some (wrap32 ((wrap32 (65536 + (wrap32 ((wrap32 (IntKind.u16.wrap (a0 - 55296))) * 1024)))) + (wrap32 (IntKind.u16.wrap (a1 - 56320)))), true)) else (some (0, false)))) else (some (0, false)))
set_option maxHeartbeats 8000000 in
set_option maxRecDepth 100000 in
theorem scalar_Join.calls (a0 : Int) (a1 : Int) (r1 : Int) (r2 : Bool) (w : World) (h : scalar_Join.f a0 a1 = some (r1, r2)) :
    Calls Try.prog 9 #[.int .u16 a0, .int .u16 a1] w fun e w' => e = .returned (.tuple #[.int .i32 r1, .bool r2]) ∧ Drawn0 w w' := by
  have H : ((scalar_High.f a0).bind fun t105 => (if t105 = true then ((scalar_Low.f a1).bind fun t106 => (if t106 = true then (some (wrap32 ((wrap32 (65536 + (wrap32 ((wrap32 (IntKind.u16.wrap (a0 - 55296))) * 1024)))) + (wrap32 (IntKind.u16.wrap (a1 - 56320)))), true)) else (some (0, false)))) else (some (0, false)))) = some (r1, r2) := h
  clear h
  replace H := Option.bind_eq_some_iff.mp H
  obtain ⟨t105, A30, H⟩ := H
  replace H : (if t105 = true then ((scalar_Low.f a1).bind fun t106 => (if t106 = true then (some (wrap32 ((wrap32 (65536 + (wrap32 ((wrap32 (IntKind.u16.wrap (a0 - 55296))) * 1024)))) + (wrap32 (IntKind.u16.wrap (a1 - 56320)))), true)) else (some (0, false)))) else (some (0, false))) = some (r1, r2) := H
  have A3 := Aside0.mk A30
  clear A30
  by_cases c4 : t105 = true
  · subst c4
    have H1 : ((scalar_Low.f a1).bind fun t106 => (if t106 = true then (some (wrap32 ((wrap32 (65536 + (wrap32 ((wrap32 (IntKind.u16.wrap (a0 - 55296))) * 1024)))) + (wrap32 (IntKind.u16.wrap (a1 - 56320)))), true)) else (some (0, false)))) = some (r1, r2) := by rw [if_pos rfl] at H; exact H
    clear H
    have H := H1
    clear H1
    replace H := Option.bind_eq_some_iff.mp H
    obtain ⟨t106, A50, H⟩ := H
    replace H : (if t106 = true then (some (wrap32 ((wrap32 (65536 + (wrap32 ((wrap32 (IntKind.u16.wrap (a0 - 55296))) * 1024)))) + (wrap32 (IntKind.u16.wrap (a1 - 56320)))), true)) else (some (0, false))) = some (r1, r2) := H
    have A5 := Aside0.mk A50
    clear A50
    by_cases c6 : t106 = true
    · subst c6
      have H1 : (some (wrap32 ((wrap32 (65536 + (wrap32 ((wrap32 (IntKind.u16.wrap (a0 - 55296))) * 1024)))) + (wrap32 (IntKind.u16.wrap (a1 - 56320)))), true)) = some (r1, r2) := by rw [if_pos rfl] at H; exact H
      clear H
      have H := H1
      clear H1
      simp only [Option.some.injEq, Prod.mk.injEq] at H
      obtain ⟨rfl, rfl⟩ := H
      go_enter Try.func9, Try.ntmps9
      go_wp2_with (first | ((with_reducible refine gate_callee (f := 17) rfl ?_); refine goesL_ (some 7) rfl rfl Try.func17 (by kernel_rfl) rfl #[.int .u16 a0] rfl (by (try simp only [List.map_toArray, List.map_cons, List.map_nil]); first | done | rfl | (simp only [List.length_drop, List.length_take]; rfl)) ?_; (with_reducible refine (scalar_High.calls a0 true _ A3.out).mono ?_); rintro e w' ⟨rfl, ⟨nd, rfl⟩⟩; refine ⟨_, rfl, ?_⟩) | (go_at_call 19; (with_reducible refine (scalar_Low.calls a1 true _ A5.out).mono ?_); rintro e w' ⟨rfl, ⟨nd, rfl⟩⟩))
      go_ret2
      exact ⟨by first | rfl | (simp; done) | (simp [*]; done), by repeat (first | exact Drawn0.refl _ | apply Drawn0.step)⟩
    · replace c6 := Bool.eq_false_iff.mpr c6
      subst c6
      have H1 : (some (0, false)) = some (r1, r2) := by rw [if_neg (show ¬ (false = true) by decide)] at H; exact H
      clear H
      have H := H1
      clear H1
      simp only [Option.some.injEq, Prod.mk.injEq] at H
      obtain ⟨rfl, rfl⟩ := H
      go_enter Try.func9, Try.ntmps9
      go_wp2_with (first | ((with_reducible refine gate_callee (f := 17) rfl ?_); refine goesL_ (some 7) rfl rfl Try.func17 (by kernel_rfl) rfl #[.int .u16 a0] rfl (by (try simp only [List.map_toArray, List.map_cons, List.map_nil]); first | done | rfl | (simp only [List.length_drop, List.length_take]; rfl)) ?_; (with_reducible refine (scalar_High.calls a0 true _ A3.out).mono ?_); rintro e w' ⟨rfl, ⟨nd, rfl⟩⟩; refine ⟨_, rfl, ?_⟩) | (go_at_call 19; (with_reducible refine (scalar_Low.calls a1 false _ A5.out).mono ?_); rintro e w' ⟨rfl, ⟨nd, rfl⟩⟩))
      go_ret2
      exact ⟨by first | rfl | (simp; done) | (simp [*]; done), by repeat (first | exact Drawn0.refl _ | apply Drawn0.step)⟩
  · replace c4 := Bool.eq_false_iff.mpr c4
    subst c4
    have H1 : (some (0, false)) = some (r1, r2) := by rw [if_neg (show ¬ (false = true) by decide)] at H; exact H
    clear H
    have H := H1
    clear H1
    simp only [Option.some.injEq, Prod.mk.injEq] at H
    obtain ⟨rfl, rfl⟩ := H
    go_enter Try.func9, Try.ntmps9
    go_wp2_with (first | ((with_reducible refine gate_callee (f := 17) rfl ?_); refine goesL_ (some 7) rfl rfl Try.func17 (by kernel_rfl) rfl #[.int .u16 a0] rfl (by (try simp only [List.map_toArray, List.map_cons, List.map_nil]); first | done | rfl | (simp only [List.length_drop, List.length_take]; rfl)) ?_; (with_reducible refine (scalar_High.calls a0 false _ A3.out).mono ?_); rintro e w' ⟨rfl, ⟨nd, rfl⟩⟩; refine ⟨_, rfl, ?_⟩))
    go_ret2
    exact ⟨by first | rfl | (simp; done) | (simp [*]; done), by repeat (first | exact Drawn0.refl _ | apply Drawn0.step)⟩

/-! ### orthoepylaw01_awake: function 21 -/
def orthoepylaw01_awake.f  : Option (Bool) := (scalar_Split.f 128512).bind fun bt107 => ((scalar_Join.f 55357 56832).bind fun bt110 => (if bt107.2.2 = true then (if bt110.2 = true then (if bt107.1 = 55357 then (if bt107.2.1 = 56832 then (if bt110.1 = 128512 then ((scalar_Nonchar.f 65534).bind fun t112 => (if t112 = true then ((scalar_Nonchar.f 65533).bind fun t113 => (if t113 = true then (some false) else ((scalar_Is.f 0).bind fun t114 => (if t114 = true then ((scalar_Is.f 55996).bind fun t115 => (if t115 = true then (some false) else ((scalar_High.f 55296).bind fun t116 => (if t116 = true then ((scalar_Low.f 57343).bind fun t117 => (if t117 = true then ((scalar_Units.f 65536).bind fun t118 => (some (t118 == 2))) else (some false))) else (some false))))) else (some false))))) else (some false))) else (some false)) else (some false)) else (some false)) else (some false)) else (some false)))
set_option maxHeartbeats 8000000 in
set_option maxRecDepth 100000 in
theorem orthoepylaw01_awake.calls  (r : Bool) (w : World) (h : orthoepylaw01_awake.f  = some r) :
    Calls Try.prog 21 #[] w fun e w' => e = .returned (.bool r) ∧ Drawn0 w w' := by
  have H : ((scalar_Split.f 128512).bind fun bt107 => ((scalar_Join.f 55357 56832).bind fun bt110 => (if bt107.2.2 = true then (if bt110.2 = true then (if bt107.1 = 55357 then (if bt107.2.1 = 56832 then (if bt110.1 = 128512 then ((scalar_Nonchar.f 65534).bind fun t112 => (if t112 = true then ((scalar_Nonchar.f 65533).bind fun t113 => (if t113 = true then (some false) else ((scalar_Is.f 0).bind fun t114 => (if t114 = true then ((scalar_Is.f 55996).bind fun t115 => (if t115 = true then (some false) else ((scalar_High.f 55296).bind fun t116 => (if t116 = true then ((scalar_Low.f 57343).bind fun t117 => (if t117 = true then ((scalar_Units.f 65536).bind fun t118 => (some (t118 == 2))) else (some false))) else (some false))))) else (some false))))) else (some false))) else (some false)) else (some false)) else (some false)) else (some false)) else (some false)))) = some r := h
  clear h
  replace H := Option.bind_eq_some_iff.mp H
  obtain ⟨⟨t107, t108, t109⟩, A10, H⟩ := H
  replace H : ((scalar_Join.f 55357 56832).bind fun bt110 => (if t109 = true then (if bt110.2 = true then (if t107 = 55357 then (if t108 = 56832 then (if bt110.1 = 128512 then ((scalar_Nonchar.f 65534).bind fun t112 => (if t112 = true then ((scalar_Nonchar.f 65533).bind fun t113 => (if t113 = true then (some false) else ((scalar_Is.f 0).bind fun t114 => (if t114 = true then ((scalar_Is.f 55996).bind fun t115 => (if t115 = true then (some false) else ((scalar_High.f 55296).bind fun t116 => (if t116 = true then ((scalar_Low.f 57343).bind fun t117 => (if t117 = true then ((scalar_Units.f 65536).bind fun t118 => (some (t118 == 2))) else (some false))) else (some false))))) else (some false))))) else (some false))) else (some false)) else (some false)) else (some false)) else (some false)) else (some false))) = some r := H
  have A1 := Aside0.mk A10
  clear A10
  replace H := Option.bind_eq_some_iff.mp H
  obtain ⟨⟨t110, t111⟩, A20, H⟩ := H
  replace H : (if t109 = true then (if t111 = true then (if t107 = 55357 then (if t108 = 56832 then (if t110 = 128512 then ((scalar_Nonchar.f 65534).bind fun t112 => (if t112 = true then ((scalar_Nonchar.f 65533).bind fun t113 => (if t113 = true then (some false) else ((scalar_Is.f 0).bind fun t114 => (if t114 = true then ((scalar_Is.f 55996).bind fun t115 => (if t115 = true then (some false) else ((scalar_High.f 55296).bind fun t116 => (if t116 = true then ((scalar_Low.f 57343).bind fun t117 => (if t117 = true then ((scalar_Units.f 65536).bind fun t118 => (some (t118 == 2))) else (some false))) else (some false))))) else (some false))))) else (some false))) else (some false)) else (some false)) else (some false)) else (some false)) else (some false)) = some r := H
  have A2 := Aside0.mk A20
  clear A20
  by_cases c3 : t109 = true
  · subst c3
    have H1 : (if t111 = true then (if t107 = 55357 then (if t108 = 56832 then (if t110 = 128512 then ((scalar_Nonchar.f 65534).bind fun t112 => (if t112 = true then ((scalar_Nonchar.f 65533).bind fun t113 => (if t113 = true then (some false) else ((scalar_Is.f 0).bind fun t114 => (if t114 = true then ((scalar_Is.f 55996).bind fun t115 => (if t115 = true then (some false) else ((scalar_High.f 55296).bind fun t116 => (if t116 = true then ((scalar_Low.f 57343).bind fun t117 => (if t117 = true then ((scalar_Units.f 65536).bind fun t118 => (some (t118 == 2))) else (some false))) else (some false))))) else (some false))))) else (some false))) else (some false)) else (some false)) else (some false)) else (some false)) = some r := by rw [if_pos rfl] at H; exact H
    clear H
    have H := H1
    clear H1
    by_cases c4 : t111 = true
    · subst c4
      have H1 : (if t107 = 55357 then (if t108 = 56832 then (if t110 = 128512 then ((scalar_Nonchar.f 65534).bind fun t112 => (if t112 = true then ((scalar_Nonchar.f 65533).bind fun t113 => (if t113 = true then (some false) else ((scalar_Is.f 0).bind fun t114 => (if t114 = true then ((scalar_Is.f 55996).bind fun t115 => (if t115 = true then (some false) else ((scalar_High.f 55296).bind fun t116 => (if t116 = true then ((scalar_Low.f 57343).bind fun t117 => (if t117 = true then ((scalar_Units.f 65536).bind fun t118 => (some (t118 == 2))) else (some false))) else (some false))))) else (some false))))) else (some false))) else (some false)) else (some false)) else (some false)) = some r := by rw [if_pos rfl] at H; exact H
      clear H
      have H := H1
      clear H1
      by_cases c5 : t107 = 55357
      · rw [if_pos c5] at H
        have c5b0 : (t107 == 55357) = true := beq_iff_eq.mpr c5
        have c5b1 : (t107 != 55357) = false := bne_eq_false_iff_eq.mpr c5
        clear c5
        by_cases c6 : t108 = 56832
        · rw [if_pos c6] at H
          have c6b0 : (t108 == 56832) = true := beq_iff_eq.mpr c6
          have c6b1 : (t108 != 56832) = false := bne_eq_false_iff_eq.mpr c6
          clear c6
          by_cases c7 : t110 = 128512
          · rw [if_pos c7] at H
            have c7b0 : (t110 == 128512) = true := beq_iff_eq.mpr c7
            have c7b1 : (t110 != 128512) = false := bne_eq_false_iff_eq.mpr c7
            clear c7
            replace H := Option.bind_eq_some_iff.mp H
            obtain ⟨t112, A80, H⟩ := H
            replace H : (if t112 = true then ((scalar_Nonchar.f 65533).bind fun t113 => (if t113 = true then (some false) else ((scalar_Is.f 0).bind fun t114 => (if t114 = true then ((scalar_Is.f 55996).bind fun t115 => (if t115 = true then (some false) else ((scalar_High.f 55296).bind fun t116 => (if t116 = true then ((scalar_Low.f 57343).bind fun t117 => (if t117 = true then ((scalar_Units.f 65536).bind fun t118 => (some (t118 == 2))) else (some false))) else (some false))))) else (some false))))) else (some false)) = some r := H
            have A8 := Aside0.mk A80
            clear A80
            by_cases c9 : t112 = true
            · subst c9
              have H1 : ((scalar_Nonchar.f 65533).bind fun t113 => (if t113 = true then (some false) else ((scalar_Is.f 0).bind fun t114 => (if t114 = true then ((scalar_Is.f 55996).bind fun t115 => (if t115 = true then (some false) else ((scalar_High.f 55296).bind fun t116 => (if t116 = true then ((scalar_Low.f 57343).bind fun t117 => (if t117 = true then ((scalar_Units.f 65536).bind fun t118 => (some (t118 == 2))) else (some false))) else (some false))))) else (some false))))) = some r := by rw [if_pos rfl] at H; exact H
              clear H
              have H := H1
              clear H1
              replace H := Option.bind_eq_some_iff.mp H
              obtain ⟨t113, A100, H⟩ := H
              replace H : (if t113 = true then (some false) else ((scalar_Is.f 0).bind fun t114 => (if t114 = true then ((scalar_Is.f 55996).bind fun t115 => (if t115 = true then (some false) else ((scalar_High.f 55296).bind fun t116 => (if t116 = true then ((scalar_Low.f 57343).bind fun t117 => (if t117 = true then ((scalar_Units.f 65536).bind fun t118 => (some (t118 == 2))) else (some false))) else (some false))))) else (some false)))) = some r := H
              have A10 := Aside0.mk A100
              clear A100
              by_cases c11 : t113 = true
              · subst c11
                have H1 : (some false) = some r := by rw [if_pos rfl] at H; exact H
                clear H
                have H := H1
                clear H1
                obtain rfl := Option.some.inj H
                go_enter Try.func21, Try.ntmps21
                go_wp2_with (first | ((with_reducible refine gate_callee (f := 7) rfl ?_); refine goesL_ (some 7) rfl rfl Try.func7 (by kernel_rfl) rfl #[.int .i32 128512] rfl (by (try simp only [List.map_toArray, List.map_cons, List.map_nil]); first | done | rfl | (simp only [List.length_drop, List.length_take]; rfl)) ?_; (with_reducible refine (scalar_Split.calls 128512 t107 t108 true _ A1.out).mono ?_); rintro e w' ⟨rfl, ⟨nd, rfl⟩⟩; refine ⟨_, rfl, ?_⟩) | ((with_reducible refine gate_callee (f := 9) rfl ?_); refine goesL_ (some 12) rfl rfl Try.func9 (by kernel_rfl) rfl #[.int .u16 55357, .int .u16 56832] rfl (by (try simp only [List.map_toArray, List.map_cons, List.map_nil]); first | done | rfl | (simp only [List.length_drop, List.length_take]; rfl)) ?_; (with_reducible refine (scalar_Join.calls 55357 56832 t110 true _ A2.out).mono ?_); rintro e w' ⟨rfl, ⟨nd, rfl⟩⟩; refine ⟨_, rfl, ?_⟩) | (go_at_call 13; (with_reducible refine (scalar_Nonchar.calls 65534 true _ A8.out).mono ?_); rintro e w' ⟨rfl, ⟨nd, rfl⟩⟩) | (go_at_call 13; (with_reducible refine (scalar_Nonchar.calls 65533 true _ A10.out).mono ?_); rintro e w' ⟨rfl, ⟨nd, rfl⟩⟩))
                go_ret
                exact ⟨by first | rfl | (simp; done) | (simp [*]; done), by repeat (first | exact Drawn0.refl _ | apply Drawn0.step)⟩
              · replace c11 := Bool.eq_false_iff.mpr c11
                subst c11
                have H1 : ((scalar_Is.f 0).bind fun t114 => (if t114 = true then ((scalar_Is.f 55996).bind fun t115 => (if t115 = true then (some false) else ((scalar_High.f 55296).bind fun t116 => (if t116 = true then ((scalar_Low.f 57343).bind fun t117 => (if t117 = true then ((scalar_Units.f 65536).bind fun t118 => (some (t118 == 2))) else (some false))) else (some false))))) else (some false))) = some r := by rw [if_neg (show ¬ (false = true) by decide)] at H; exact H
                clear H
                have H := H1
                clear H1
                replace H := Option.bind_eq_some_iff.mp H
                obtain ⟨t114, A120, H⟩ := H
                replace H : (if t114 = true then ((scalar_Is.f 55996).bind fun t115 => (if t115 = true then (some false) else ((scalar_High.f 55296).bind fun t116 => (if t116 = true then ((scalar_Low.f 57343).bind fun t117 => (if t117 = true then ((scalar_Units.f 65536).bind fun t118 => (some (t118 == 2))) else (some false))) else (some false))))) else (some false)) = some r := H
                have A12 := Aside0.mk A120
                clear A120
                by_cases c13 : t114 = true
                · subst c13
                  have H1 : ((scalar_Is.f 55996).bind fun t115 => (if t115 = true then (some false) else ((scalar_High.f 55296).bind fun t116 => (if t116 = true then ((scalar_Low.f 57343).bind fun t117 => (if t117 = true then ((scalar_Units.f 65536).bind fun t118 => (some (t118 == 2))) else (some false))) else (some false))))) = some r := by rw [if_pos rfl] at H; exact H
                  clear H
                  have H := H1
                  clear H1
                  replace H := Option.bind_eq_some_iff.mp H
                  obtain ⟨t115, A140, H⟩ := H
                  replace H : (if t115 = true then (some false) else ((scalar_High.f 55296).bind fun t116 => (if t116 = true then ((scalar_Low.f 57343).bind fun t117 => (if t117 = true then ((scalar_Units.f 65536).bind fun t118 => (some (t118 == 2))) else (some false))) else (some false)))) = some r := H
                  have A14 := Aside0.mk A140
                  clear A140
                  by_cases c15 : t115 = true
                  · subst c15
                    have H1 : (some false) = some r := by rw [if_pos rfl] at H; exact H
                    clear H
                    have H := H1
                    clear H1
                    obtain rfl := Option.some.inj H
                    go_enter Try.func21, Try.ntmps21
                    go_wp2_with (first | ((with_reducible refine gate_callee (f := 7) rfl ?_); refine goesL_ (some 7) rfl rfl Try.func7 (by kernel_rfl) rfl #[.int .i32 128512] rfl (by (try simp only [List.map_toArray, List.map_cons, List.map_nil]); first | done | rfl | (simp only [List.length_drop, List.length_take]; rfl)) ?_; (with_reducible refine (scalar_Split.calls 128512 t107 t108 true _ A1.out).mono ?_); rintro e w' ⟨rfl, ⟨nd, rfl⟩⟩; refine ⟨_, rfl, ?_⟩) | ((with_reducible refine gate_callee (f := 9) rfl ?_); refine goesL_ (some 12) rfl rfl Try.func9 (by kernel_rfl) rfl #[.int .u16 55357, .int .u16 56832] rfl (by (try simp only [List.map_toArray, List.map_cons, List.map_nil]); first | done | rfl | (simp only [List.length_drop, List.length_take]; rfl)) ?_; (with_reducible refine (scalar_Join.calls 55357 56832 t110 true _ A2.out).mono ?_); rintro e w' ⟨rfl, ⟨nd, rfl⟩⟩; refine ⟨_, rfl, ?_⟩) | (go_at_call 13; (with_reducible refine (scalar_Nonchar.calls 65534 true _ A8.out).mono ?_); rintro e w' ⟨rfl, ⟨nd, rfl⟩⟩) | (go_at_call 13; (with_reducible refine (scalar_Nonchar.calls 65533 false _ A10.out).mono ?_); rintro e w' ⟨rfl, ⟨nd, rfl⟩⟩) | (go_at_call 11; (with_reducible refine (scalar_Is.calls 0 true _ A12.out).mono ?_); rintro e w' ⟨rfl, ⟨nd, rfl⟩⟩) | (go_at_call 11; (with_reducible refine (scalar_Is.calls 55996 true _ A14.out).mono ?_); rintro e w' ⟨rfl, ⟨nd, rfl⟩⟩))
                    go_ret
                    exact ⟨by first | rfl | (simp; done) | (simp [*]; done), by repeat (first | exact Drawn0.refl _ | apply Drawn0.step)⟩
                  · replace c15 := Bool.eq_false_iff.mpr c15
                    subst c15
                    have H1 : ((scalar_High.f 55296).bind fun t116 => (if t116 = true then ((scalar_Low.f 57343).bind fun t117 => (if t117 = true then ((scalar_Units.f 65536).bind fun t118 => (some (t118 == 2))) else (some false))) else (some false))) = some r := by rw [if_neg (show ¬ (false = true) by decide)] at H; exact H
                    clear H
                    have H := H1
                    clear H1
                    replace H := Option.bind_eq_some_iff.mp H
                    obtain ⟨t116, A160, H⟩ := H
                    replace H : (if t116 = true then ((scalar_Low.f 57343).bind fun t117 => (if t117 = true then ((scalar_Units.f 65536).bind fun t118 => (some (t118 == 2))) else (some false))) else (some false)) = some r := H
                    have A16 := Aside0.mk A160
                    clear A160
                    by_cases c17 : t116 = true
                    · subst c17
                      have H1 : ((scalar_Low.f 57343).bind fun t117 => (if t117 = true then ((scalar_Units.f 65536).bind fun t118 => (some (t118 == 2))) else (some false))) = some r := by rw [if_pos rfl] at H; exact H
                      clear H
                      have H := H1
                      clear H1
                      replace H := Option.bind_eq_some_iff.mp H
                      obtain ⟨t117, A180, H⟩ := H
                      replace H : (if t117 = true then ((scalar_Units.f 65536).bind fun t118 => (some (t118 == 2))) else (some false)) = some r := H
                      have A18 := Aside0.mk A180
                      clear A180
                      by_cases c19 : t117 = true
                      · subst c19
                        have H1 : ((scalar_Units.f 65536).bind fun t118 => (some (t118 == 2))) = some r := by rw [if_pos rfl] at H; exact H
                        clear H
                        have H := H1
                        clear H1
                        replace H := Option.bind_eq_some_iff.mp H
                        obtain ⟨t118, A200, H⟩ := H
                        replace H : (some (t118 == 2)) = some r := H
                        have A20 := Aside0.mk A200
                        clear A200
                        obtain rfl := Option.some.inj H
                        go_enter Try.func21, Try.ntmps21
                        go_wp2_with (first | ((with_reducible refine gate_callee (f := 7) rfl ?_); refine goesL_ (some 7) rfl rfl Try.func7 (by kernel_rfl) rfl #[.int .i32 128512] rfl (by (try simp only [List.map_toArray, List.map_cons, List.map_nil]); first | done | rfl | (simp only [List.length_drop, List.length_take]; rfl)) ?_; (with_reducible refine (scalar_Split.calls 128512 t107 t108 true _ A1.out).mono ?_); rintro e w' ⟨rfl, ⟨nd, rfl⟩⟩; refine ⟨_, rfl, ?_⟩) | ((with_reducible refine gate_callee (f := 9) rfl ?_); refine goesL_ (some 12) rfl rfl Try.func9 (by kernel_rfl) rfl #[.int .u16 55357, .int .u16 56832] rfl (by (try simp only [List.map_toArray, List.map_cons, List.map_nil]); first | done | rfl | (simp only [List.length_drop, List.length_take]; rfl)) ?_; (with_reducible refine (scalar_Join.calls 55357 56832 t110 true _ A2.out).mono ?_); rintro e w' ⟨rfl, ⟨nd, rfl⟩⟩; refine ⟨_, rfl, ?_⟩) | (go_at_call 13; (with_reducible refine (scalar_Nonchar.calls 65534 true _ A8.out).mono ?_); rintro e w' ⟨rfl, ⟨nd, rfl⟩⟩) | (go_at_call 13; (with_reducible refine (scalar_Nonchar.calls 65533 false _ A10.out).mono ?_); rintro e w' ⟨rfl, ⟨nd, rfl⟩⟩) | (go_at_call 11; (with_reducible refine (scalar_Is.calls 0 true _ A12.out).mono ?_); rintro e w' ⟨rfl, ⟨nd, rfl⟩⟩) | (go_at_call 11; (with_reducible refine (scalar_Is.calls 55996 false _ A14.out).mono ?_); rintro e w' ⟨rfl, ⟨nd, rfl⟩⟩) | (go_at_call 17; (with_reducible refine (scalar_High.calls 55296 true _ A16.out).mono ?_); rintro e w' ⟨rfl, ⟨nd, rfl⟩⟩) | (go_at_call 19; (with_reducible refine (scalar_Low.calls 57343 true _ A18.out).mono ?_); rintro e w' ⟨rfl, ⟨nd, rfl⟩⟩) | (go_at_call 15; (with_reducible refine (scalar_Units.calls 65536 t118 _ A20.out).mono ?_); rintro e w' ⟨rfl, ⟨nd, rfl⟩⟩))
                        go_ret
                        exact ⟨by first | rfl | (simp; done) | (simp [*]; done), by repeat (first | exact Drawn0.refl _ | apply Drawn0.step)⟩
                      · replace c19 := Bool.eq_false_iff.mpr c19
                        subst c19
                        have H1 : (some false) = some r := by rw [if_neg (show ¬ (false = true) by decide)] at H; exact H
                        clear H
                        have H := H1
                        clear H1
                        obtain rfl := Option.some.inj H
                        go_enter Try.func21, Try.ntmps21
                        go_wp2_with (first | ((with_reducible refine gate_callee (f := 7) rfl ?_); refine goesL_ (some 7) rfl rfl Try.func7 (by kernel_rfl) rfl #[.int .i32 128512] rfl (by (try simp only [List.map_toArray, List.map_cons, List.map_nil]); first | done | rfl | (simp only [List.length_drop, List.length_take]; rfl)) ?_; (with_reducible refine (scalar_Split.calls 128512 t107 t108 true _ A1.out).mono ?_); rintro e w' ⟨rfl, ⟨nd, rfl⟩⟩; refine ⟨_, rfl, ?_⟩) | ((with_reducible refine gate_callee (f := 9) rfl ?_); refine goesL_ (some 12) rfl rfl Try.func9 (by kernel_rfl) rfl #[.int .u16 55357, .int .u16 56832] rfl (by (try simp only [List.map_toArray, List.map_cons, List.map_nil]); first | done | rfl | (simp only [List.length_drop, List.length_take]; rfl)) ?_; (with_reducible refine (scalar_Join.calls 55357 56832 t110 true _ A2.out).mono ?_); rintro e w' ⟨rfl, ⟨nd, rfl⟩⟩; refine ⟨_, rfl, ?_⟩) | (go_at_call 13; (with_reducible refine (scalar_Nonchar.calls 65534 true _ A8.out).mono ?_); rintro e w' ⟨rfl, ⟨nd, rfl⟩⟩) | (go_at_call 13; (with_reducible refine (scalar_Nonchar.calls 65533 false _ A10.out).mono ?_); rintro e w' ⟨rfl, ⟨nd, rfl⟩⟩) | (go_at_call 11; (with_reducible refine (scalar_Is.calls 0 true _ A12.out).mono ?_); rintro e w' ⟨rfl, ⟨nd, rfl⟩⟩) | (go_at_call 11; (with_reducible refine (scalar_Is.calls 55996 false _ A14.out).mono ?_); rintro e w' ⟨rfl, ⟨nd, rfl⟩⟩) | (go_at_call 17; (with_reducible refine (scalar_High.calls 55296 true _ A16.out).mono ?_); rintro e w' ⟨rfl, ⟨nd, rfl⟩⟩) | (go_at_call 19; (with_reducible refine (scalar_Low.calls 57343 false _ A18.out).mono ?_); rintro e w' ⟨rfl, ⟨nd, rfl⟩⟩))
                        go_ret
                        exact ⟨by first | rfl | (simp; done) | (simp [*]; done), by repeat (first | exact Drawn0.refl _ | apply Drawn0.step)⟩
                    · replace c17 := Bool.eq_false_iff.mpr c17
                      subst c17
                      have H1 : (some false) = some r := by rw [if_neg (show ¬ (false = true) by decide)] at H; exact H
                      clear H
                      have H := H1
                      clear H1
                      obtain rfl := Option.some.inj H
                      go_enter Try.func21, Try.ntmps21
                      go_wp2_with (first | ((with_reducible refine gate_callee (f := 7) rfl ?_); refine goesL_ (some 7) rfl rfl Try.func7 (by kernel_rfl) rfl #[.int .i32 128512] rfl (by (try simp only [List.map_toArray, List.map_cons, List.map_nil]); first | done | rfl | (simp only [List.length_drop, List.length_take]; rfl)) ?_; (with_reducible refine (scalar_Split.calls 128512 t107 t108 true _ A1.out).mono ?_); rintro e w' ⟨rfl, ⟨nd, rfl⟩⟩; refine ⟨_, rfl, ?_⟩) | ((with_reducible refine gate_callee (f := 9) rfl ?_); refine goesL_ (some 12) rfl rfl Try.func9 (by kernel_rfl) rfl #[.int .u16 55357, .int .u16 56832] rfl (by (try simp only [List.map_toArray, List.map_cons, List.map_nil]); first | done | rfl | (simp only [List.length_drop, List.length_take]; rfl)) ?_; (with_reducible refine (scalar_Join.calls 55357 56832 t110 true _ A2.out).mono ?_); rintro e w' ⟨rfl, ⟨nd, rfl⟩⟩; refine ⟨_, rfl, ?_⟩) | (go_at_call 13; (with_reducible refine (scalar_Nonchar.calls 65534 true _ A8.out).mono ?_); rintro e w' ⟨rfl, ⟨nd, rfl⟩⟩) | (go_at_call 13; (with_reducible refine (scalar_Nonchar.calls 65533 false _ A10.out).mono ?_); rintro e w' ⟨rfl, ⟨nd, rfl⟩⟩) | (go_at_call 11; (with_reducible refine (scalar_Is.calls 0 true _ A12.out).mono ?_); rintro e w' ⟨rfl, ⟨nd, rfl⟩⟩) | (go_at_call 11; (with_reducible refine (scalar_Is.calls 55996 false _ A14.out).mono ?_); rintro e w' ⟨rfl, ⟨nd, rfl⟩⟩) | (go_at_call 17; (with_reducible refine (scalar_High.calls 55296 false _ A16.out).mono ?_); rintro e w' ⟨rfl, ⟨nd, rfl⟩⟩))
                      go_ret
                      exact ⟨by first | rfl | (simp; done) | (simp [*]; done), by repeat (first | exact Drawn0.refl _ | apply Drawn0.step)⟩
                · replace c13 := Bool.eq_false_iff.mpr c13
                  subst c13
                  have H1 : (some false) = some r := by rw [if_neg (show ¬ (false = true) by decide)] at H; exact H
                  clear H
                  have H := H1
                  clear H1
                  obtain rfl := Option.some.inj H
                  go_enter Try.func21, Try.ntmps21
                  go_wp2_with (first | ((with_reducible refine gate_callee (f := 7) rfl ?_); refine goesL_ (some 7) rfl rfl Try.func7 (by kernel_rfl) rfl #[.int .i32 128512] rfl (by (try simp only [List.map_toArray, List.map_cons, List.map_nil]); first | done | rfl | (simp only [List.length_drop, List.length_take]; rfl)) ?_; (with_reducible refine (scalar_Split.calls 128512 t107 t108 true _ A1.out).mono ?_); rintro e w' ⟨rfl, ⟨nd, rfl⟩⟩; refine ⟨_, rfl, ?_⟩) | ((with_reducible refine gate_callee (f := 9) rfl ?_); refine goesL_ (some 12) rfl rfl Try.func9 (by kernel_rfl) rfl #[.int .u16 55357, .int .u16 56832] rfl (by (try simp only [List.map_toArray, List.map_cons, List.map_nil]); first | done | rfl | (simp only [List.length_drop, List.length_take]; rfl)) ?_; (with_reducible refine (scalar_Join.calls 55357 56832 t110 true _ A2.out).mono ?_); rintro e w' ⟨rfl, ⟨nd, rfl⟩⟩; refine ⟨_, rfl, ?_⟩) | (go_at_call 13; (with_reducible refine (scalar_Nonchar.calls 65534 true _ A8.out).mono ?_); rintro e w' ⟨rfl, ⟨nd, rfl⟩⟩) | (go_at_call 13; (with_reducible refine (scalar_Nonchar.calls 65533 false _ A10.out).mono ?_); rintro e w' ⟨rfl, ⟨nd, rfl⟩⟩) | (go_at_call 11; (with_reducible refine (scalar_Is.calls 0 false _ A12.out).mono ?_); rintro e w' ⟨rfl, ⟨nd, rfl⟩⟩))
                  go_ret
                  exact ⟨by first | rfl | (simp; done) | (simp [*]; done), by repeat (first | exact Drawn0.refl _ | apply Drawn0.step)⟩
            · replace c9 := Bool.eq_false_iff.mpr c9
              subst c9
              have H1 : (some false) = some r := by rw [if_neg (show ¬ (false = true) by decide)] at H; exact H
              clear H
              have H := H1
              clear H1
              obtain rfl := Option.some.inj H
              go_enter Try.func21, Try.ntmps21
              go_wp2_with (first | ((with_reducible refine gate_callee (f := 7) rfl ?_); refine goesL_ (some 7) rfl rfl Try.func7 (by kernel_rfl) rfl #[.int .i32 128512] rfl (by (try simp only [List.map_toArray, List.map_cons, List.map_nil]); first | done | rfl | (simp only [List.length_drop, List.length_take]; rfl)) ?_; (with_reducible refine (scalar_Split.calls 128512 t107 t108 true _ A1.out).mono ?_); rintro e w' ⟨rfl, ⟨nd, rfl⟩⟩; refine ⟨_, rfl, ?_⟩) | ((with_reducible refine gate_callee (f := 9) rfl ?_); refine goesL_ (some 12) rfl rfl Try.func9 (by kernel_rfl) rfl #[.int .u16 55357, .int .u16 56832] rfl (by (try simp only [List.map_toArray, List.map_cons, List.map_nil]); first | done | rfl | (simp only [List.length_drop, List.length_take]; rfl)) ?_; (with_reducible refine (scalar_Join.calls 55357 56832 t110 true _ A2.out).mono ?_); rintro e w' ⟨rfl, ⟨nd, rfl⟩⟩; refine ⟨_, rfl, ?_⟩) | (go_at_call 13; (with_reducible refine (scalar_Nonchar.calls 65534 false _ A8.out).mono ?_); rintro e w' ⟨rfl, ⟨nd, rfl⟩⟩))
              go_ret
              exact ⟨by first | rfl | (simp; done) | (simp [*]; done), by repeat (first | exact Drawn0.refl _ | apply Drawn0.step)⟩
          · rw [if_neg c7] at H
            have c7b0 : (t110 == 128512) = false := beq_eq_false_iff_ne.mpr c7
            have c7b1 : (t110 != 128512) = true := bne_iff_ne.mpr c7
            obtain rfl := Option.some.inj H
            go_enter Try.func21, Try.ntmps21
            go_wp2_with (first | ((with_reducible refine gate_callee (f := 7) rfl ?_); refine goesL_ (some 7) rfl rfl Try.func7 (by kernel_rfl) rfl #[.int .i32 128512] rfl (by (try simp only [List.map_toArray, List.map_cons, List.map_nil]); first | done | rfl | (simp only [List.length_drop, List.length_take]; rfl)) ?_; (with_reducible refine (scalar_Split.calls 128512 t107 t108 true _ A1.out).mono ?_); rintro e w' ⟨rfl, ⟨nd, rfl⟩⟩; refine ⟨_, rfl, ?_⟩) | ((with_reducible refine gate_callee (f := 9) rfl ?_); refine goesL_ (some 12) rfl rfl Try.func9 (by kernel_rfl) rfl #[.int .u16 55357, .int .u16 56832] rfl (by (try simp only [List.map_toArray, List.map_cons, List.map_nil]); first | done | rfl | (simp only [List.length_drop, List.length_take]; rfl)) ?_; (with_reducible refine (scalar_Join.calls 55357 56832 t110 true _ A2.out).mono ?_); rintro e w' ⟨rfl, ⟨nd, rfl⟩⟩; refine ⟨_, rfl, ?_⟩))
            go_ret
            exact ⟨by first | rfl | (simp; done) | (simp [*]; done), by repeat (first | exact Drawn0.refl _ | apply Drawn0.step)⟩
        · rw [if_neg c6] at H
          have c6b0 : (t108 == 56832) = false := beq_eq_false_iff_ne.mpr c6
          have c6b1 : (t108 != 56832) = true := bne_iff_ne.mpr c6
          obtain rfl := Option.some.inj H
          go_enter Try.func21, Try.ntmps21
          go_wp2_with (first | ((with_reducible refine gate_callee (f := 7) rfl ?_); refine goesL_ (some 7) rfl rfl Try.func7 (by kernel_rfl) rfl #[.int .i32 128512] rfl (by (try simp only [List.map_toArray, List.map_cons, List.map_nil]); first | done | rfl | (simp only [List.length_drop, List.length_take]; rfl)) ?_; (with_reducible refine (scalar_Split.calls 128512 t107 t108 true _ A1.out).mono ?_); rintro e w' ⟨rfl, ⟨nd, rfl⟩⟩; refine ⟨_, rfl, ?_⟩) | ((with_reducible refine gate_callee (f := 9) rfl ?_); refine goesL_ (some 12) rfl rfl Try.func9 (by kernel_rfl) rfl #[.int .u16 55357, .int .u16 56832] rfl (by (try simp only [List.map_toArray, List.map_cons, List.map_nil]); first | done | rfl | (simp only [List.length_drop, List.length_take]; rfl)) ?_; (with_reducible refine (scalar_Join.calls 55357 56832 t110 true _ A2.out).mono ?_); rintro e w' ⟨rfl, ⟨nd, rfl⟩⟩; refine ⟨_, rfl, ?_⟩))
          go_ret
          exact ⟨by first | rfl | (simp; done) | (simp [*]; done), by repeat (first | exact Drawn0.refl _ | apply Drawn0.step)⟩
      · rw [if_neg c5] at H
        have c5b0 : (t107 == 55357) = false := beq_eq_false_iff_ne.mpr c5
        have c5b1 : (t107 != 55357) = true := bne_iff_ne.mpr c5
        obtain rfl := Option.some.inj H
        go_enter Try.func21, Try.ntmps21
        go_wp2_with (first | ((with_reducible refine gate_callee (f := 7) rfl ?_); refine goesL_ (some 7) rfl rfl Try.func7 (by kernel_rfl) rfl #[.int .i32 128512] rfl (by (try simp only [List.map_toArray, List.map_cons, List.map_nil]); first | done | rfl | (simp only [List.length_drop, List.length_take]; rfl)) ?_; (with_reducible refine (scalar_Split.calls 128512 t107 t108 true _ A1.out).mono ?_); rintro e w' ⟨rfl, ⟨nd, rfl⟩⟩; refine ⟨_, rfl, ?_⟩) | ((with_reducible refine gate_callee (f := 9) rfl ?_); refine goesL_ (some 12) rfl rfl Try.func9 (by kernel_rfl) rfl #[.int .u16 55357, .int .u16 56832] rfl (by (try simp only [List.map_toArray, List.map_cons, List.map_nil]); first | done | rfl | (simp only [List.length_drop, List.length_take]; rfl)) ?_; (with_reducible refine (scalar_Join.calls 55357 56832 t110 true _ A2.out).mono ?_); rintro e w' ⟨rfl, ⟨nd, rfl⟩⟩; refine ⟨_, rfl, ?_⟩))
        go_ret
        exact ⟨by first | rfl | (simp; done) | (simp [*]; done), by repeat (first | exact Drawn0.refl _ | apply Drawn0.step)⟩
    · replace c4 := Bool.eq_false_iff.mpr c4
      subst c4
      have H1 : (some false) = some r := by rw [if_neg (show ¬ (false = true) by decide)] at H; exact H
      clear H
      have H := H1
      clear H1
      obtain rfl := Option.some.inj H
      go_enter Try.func21, Try.ntmps21
      go_wp2_with (first | ((with_reducible refine gate_callee (f := 7) rfl ?_); refine goesL_ (some 7) rfl rfl Try.func7 (by kernel_rfl) rfl #[.int .i32 128512] rfl (by (try simp only [List.map_toArray, List.map_cons, List.map_nil]); first | done | rfl | (simp only [List.length_drop, List.length_take]; rfl)) ?_; (with_reducible refine (scalar_Split.calls 128512 t107 t108 true _ A1.out).mono ?_); rintro e w' ⟨rfl, ⟨nd, rfl⟩⟩; refine ⟨_, rfl, ?_⟩) | ((with_reducible refine gate_callee (f := 9) rfl ?_); refine goesL_ (some 12) rfl rfl Try.func9 (by kernel_rfl) rfl #[.int .u16 55357, .int .u16 56832] rfl (by (try simp only [List.map_toArray, List.map_cons, List.map_nil]); first | done | rfl | (simp only [List.length_drop, List.length_take]; rfl)) ?_; (with_reducible refine (scalar_Join.calls 55357 56832 t110 false _ A2.out).mono ?_); rintro e w' ⟨rfl, ⟨nd, rfl⟩⟩; refine ⟨_, rfl, ?_⟩))
      go_ret
      exact ⟨by first | rfl | (simp; done) | (simp [*]; done), by repeat (first | exact Drawn0.refl _ | apply Drawn0.step)⟩
  · replace c3 := Bool.eq_false_iff.mpr c3
    subst c3
    have H1 : (some false) = some r := by rw [if_neg (show ¬ (false = true) by decide)] at H; exact H
    clear H
    have H := H1
    clear H1
    obtain rfl := Option.some.inj H
    go_enter Try.func21, Try.ntmps21
    go_wp2_with (first | ((with_reducible refine gate_callee (f := 7) rfl ?_); refine goesL_ (some 7) rfl rfl Try.func7 (by kernel_rfl) rfl #[.int .i32 128512] rfl (by (try simp only [List.map_toArray, List.map_cons, List.map_nil]); first | done | rfl | (simp only [List.length_drop, List.length_take]; rfl)) ?_; (with_reducible refine (scalar_Split.calls 128512 t107 t108 false _ A1.out).mono ?_); rintro e w' ⟨rfl, ⟨nd, rfl⟩⟩; refine ⟨_, rfl, ?_⟩) | ((with_reducible refine gate_callee (f := 9) rfl ?_); refine goesL_ (some 12) rfl rfl Try.func9 (by kernel_rfl) rfl #[.int .u16 55357, .int .u16 56832] rfl (by (try simp only [List.map_toArray, List.map_cons, List.map_nil]); first | done | rfl | (simp only [List.length_drop, List.length_take]; rfl)) ?_; (with_reducible refine (scalar_Join.calls 55357 56832 t110 t111 _ A2.out).mono ?_); rintro e w' ⟨rfl, ⟨nd, rfl⟩⟩; refine ⟨_, rfl, ?_⟩))
    go_ret
    exact ⟨by first | rfl | (simp; done) | (simp [*]; done), by repeat (first | exact Drawn0.refl _ | apply Drawn0.step)⟩

end Go.Proofs.Ytmkpaoakobabnaa.PScalarNonchars
