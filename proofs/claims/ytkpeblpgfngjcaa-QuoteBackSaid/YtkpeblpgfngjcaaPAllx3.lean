-- The machine's side of laws, written by a program of this session (wip/gen/pp.sh). Lean checks it.
import Derived.Test.YtkpeblpgfngjcaaPAllx0
import Derived.Test.YtkpeblpgfngjcaaPAllx2
namespace Go.Proofs.Ytkpeblpgfngjcaa.PAll
open Go.RowKit Go.Proofs.YtkpeblpgfngjcaaW.PrintWords Go.Proofs.YtkpeblpgfngjcaaW.PrintLast
set_option linter.unusedVariables false
set_option linter.unusedSimpArgs false

/-! ### orthoepyref01_Nonchar: function 19 -/
def orthoepyref01_Nonchar.f (a0 : Int) : Option (Bool) := if a0 ≥ 64976 then (if a0 ≤ 65007 then (some true) else ((orthoepyref01_Is.f a0).bind fun t123 => (if t123 = true then (some (decide ((Int.tmod a0 65536) ≥ 65534))) else (some false)))) else ((orthoepyref01_Is.f a0).bind fun t124 => (if t124 = true then (some (decide ((Int.tmod a0 65536) ≥ 65534))) else (some false)))
set_option maxHeartbeats 8000000 in
set_option maxRecDepth 100000 in
theorem orthoepyref01_Nonchar.calls (a0 : Int) (r : Bool) (w : World) (h : orthoepyref01_Nonchar.f a0 = some r) :
    Calls Try.prog 19 #[.int .i32 a0] w fun e w' => e = .returned (.bool r) ∧ Drawn0 w w' := by
  have H : (if a0 ≥ 64976 then (if a0 ≤ 65007 then (some true) else ((orthoepyref01_Is.f a0).bind fun t123 => (if t123 = true then (some (decide ((Int.tmod a0 65536) ≥ 65534))) else (some false)))) else ((orthoepyref01_Is.f a0).bind fun t124 => (if t124 = true then (some (decide ((Int.tmod a0 65536) ≥ 65534))) else (some false)))) = some r := h
  clear h
  by_cases c2 : a0 ≥ 64976
  · rw [if_pos c2] at H
    have c2b0 : decide (64976 ≤ a0) = true := decide_eq_true c2
    clear c2
    by_cases c3 : a0 ≤ 65007
    · rw [if_pos c3] at H
      have c3b0 : decide (a0 ≤ 65007) = true := decide_eq_true c3
      clear c3
      obtain rfl := Option.some.inj H
      go_enter Try.func19, Try.ntmps19
      go_wp2
      go_ret
      exact ⟨by first | rfl | (simp; done) | (simp [*]; done), by repeat (first | exact Drawn0.refl _ | apply Drawn0.step)⟩
    · rw [if_neg c3] at H
      have c3b0 : decide (a0 ≤ 65007) = false := decide_eq_false c3
      clear c3
      replace H := Option.bind_eq_some_iff.mp H
      obtain ⟨t123, A40, H⟩ := H
      replace H : (if t123 = true then (some (decide ((Int.tmod a0 65536) ≥ 65534))) else (some false)) = some r := H
      have A4 := Aside0.mk A40
      clear A40
      by_cases c5 : t123 = true
      · subst c5
        have H1 : (some (decide ((Int.tmod a0 65536) ≥ 65534))) = some r := by rw [if_pos rfl] at H; exact H
        clear H
        have H := H1
        clear H1
        obtain rfl := Option.some.inj H
        go_enter Try.func19, Try.ntmps19
        go_wp2_with (first | (go_at_call 23; (with_reducible refine (orthoepyref01_Is.calls a0 true _ A4.out).mono ?_); rintro e w' ⟨rfl, ⟨nd, rfl⟩⟩))
        go_ret
        exact ⟨by first | rfl | (simp; done) | (simp [*]; done), by repeat (first | exact Drawn0.refl _ | apply Drawn0.step)⟩
      · replace c5 := Bool.eq_false_iff.mpr c5
        subst c5
        have H1 : (some false) = some r := by rw [if_neg (show ¬ (false = true) by decide)] at H; exact H
        clear H
        have H := H1
        clear H1
        obtain rfl := Option.some.inj H
        go_enter Try.func19, Try.ntmps19
        go_wp2_with (first | (go_at_call 23; (with_reducible refine (orthoepyref01_Is.calls a0 false _ A4.out).mono ?_); rintro e w' ⟨rfl, ⟨nd, rfl⟩⟩))
        go_ret
        exact ⟨by first | rfl | (simp; done) | (simp [*]; done), by repeat (first | exact Drawn0.refl _ | apply Drawn0.step)⟩
  · rw [if_neg c2] at H
    have c2b0 : decide (64976 ≤ a0) = false := decide_eq_false c2
    clear c2
    replace H := Option.bind_eq_some_iff.mp H
    obtain ⟨t124, A60, H⟩ := H
    replace H : (if t124 = true then (some (decide ((Int.tmod a0 65536) ≥ 65534))) else (some false)) = some r := H
    have A6 := Aside0.mk A60
    clear A60
    by_cases c7 : t124 = true
    · subst c7
      have H1 : (some (decide ((Int.tmod a0 65536) ≥ 65534))) = some r := by rw [if_pos rfl] at H; exact H
      clear H
      have H := H1
      clear H1
      obtain rfl := Option.some.inj H
      go_enter Try.func19, Try.ntmps19
      go_wp2_with (first | (go_at_call 23; (with_reducible refine (orthoepyref01_Is.calls a0 true _ A6.out).mono ?_); rintro e w' ⟨rfl, ⟨nd, rfl⟩⟩))
      go_ret
      exact ⟨by first | rfl | (simp; done) | (simp [*]; done), by repeat (first | exact Drawn0.refl _ | apply Drawn0.step)⟩
    · replace c7 := Bool.eq_false_iff.mpr c7
      subst c7
      have H1 : (some false) = some r := by rw [if_neg (show ¬ (false = true) by decide)] at H; exact H
      clear H
      have H := H1
      clear H1
      obtain rfl := Option.some.inj H
      go_enter Try.func19, Try.ntmps19
      go_wp2_with (first | (go_at_call 23; (with_reducible refine (orthoepyref01_Is.calls a0 false _ A6.out).mono ?_); rintro e w' ⟨rfl, ⟨nd, rfl⟩⟩))
      go_ret
      exact ⟨by first | rfl | (simp; done) | (simp [*]; done), by repeat (first | exact Drawn0.refl _ | apply Drawn0.step)⟩

/-! ### orthoepyref12_hex: function 61 -/
mutual
def orthoepyref12_hex.j0 : Nat → Int → Bool → Option (Int)
  | 0, _, _ => none
  | k + 1, x0, x3 => if x3 = true then (some ((x0 - 48) % 256)) else (if x0 ≥ 97 then (orthoepyref12_hex.j1 k x0 (decide (x0 ≤ 102))) else (orthoepyref12_hex.j1 k x0 false))
def orthoepyref12_hex.j1 : Nat → Int → Bool → Option (Int)
  | 0, _, _ => none
  | k + 1, x0, x13 => if x13 = true then (some (((x0 - 97) % 256) + 10)) else (if x0 ≥ 65 then (if x0 ≤ 70 then (some (((x0 - 65) % 256) + 10)) else (some (-1))) else (some (-1)))
end
def orthoepyref12_hex.f (k : Nat) (a0 : Int) : Option (Int) := if a0 ≥ 48 then (orthoepyref12_hex.j0 k a0 (decide (a0 ≤ 57))) else (orthoepyref12_hex.j0 k a0 false)
theorem orthoepyref12_hex.mono_l : ∀ k, (∀ y0 y1, LeO (orthoepyref12_hex.j0 k y0 y1) (orthoepyref12_hex.j0 (k + 1) y0 y1)) ∧ (∀ y0 y1, LeO (orthoepyref12_hex.j1 k y0 y1) (orthoepyref12_hex.j1 (k + 1) y0 y1))
  | 0 => ⟨fun _ _ r h => by simp [orthoepyref12_hex.j0] at h, fun _ _ r h => by simp [orthoepyref12_hex.j1] at h⟩
  | k + 1 => by
    obtain ⟨ih0, ih1⟩ := orthoepyref12_hex.mono_l k
    refine ⟨?_, ?_⟩
    · intro y0 y1
      unfold orthoepyref12_hex.j0
      repeat' first
      | (with_reducible exact ih0 _ _)
      | (with_reducible exact ih1 _ _)
      | (with_reducible exact LeO.refl _)
      | (with_reducible exact LeO.none _)
      | (with_reducible refine LeO.ite ?_ ?_)
      | (with_reducible refine LeO.bind ?_ (fun _ => ?_))
      | exact ih0 _ _
      | exact ih1 _ _
      | exact LeO.none _
      | refine LeO.ite ?_ ?_
      | refine LeO.bind ?_ (fun _ => ?_)
    · intro y0 y1
      unfold orthoepyref12_hex.j1
      repeat' first
      | (with_reducible exact ih0 _ _)
      | (with_reducible exact ih1 _ _)
      | (with_reducible exact LeO.refl _)
      | (with_reducible exact LeO.none _)
      | (with_reducible refine LeO.ite ?_ ?_)
      | (with_reducible refine LeO.bind ?_ (fun _ => ?_))
      | exact ih0 _ _
      | exact ih1 _ _
      | exact LeO.none _
      | refine LeO.ite ?_ ?_
      | refine LeO.bind ?_ (fun _ => ?_)
theorem orthoepyref12_hex.mono : ∀ a0 k, LeO (orthoepyref12_hex.f k a0) (orthoepyref12_hex.f (k + 1) a0) := by
  intro a0 k
  obtain ⟨ih0, ih1⟩ := orthoepyref12_hex.mono_l k
  unfold orthoepyref12_hex.f
  repeat' first
      | (with_reducible exact ih0 _ _)
      | (with_reducible exact ih1 _ _)
      | (with_reducible exact LeO.refl _)
      | (with_reducible exact LeO.none _)
      | (with_reducible refine LeO.ite ?_ ?_)
      | (with_reducible refine LeO.bind ?_ (fun _ => ?_))
      | exact ih0 _ _
      | exact ih1 _ _
      | exact LeO.none _
      | refine LeO.ite ?_ ?_
      | refine LeO.bind ?_ (fun _ => ?_)
set_option maxHeartbeats 8000000 in
set_option maxRecDepth 100000 in
theorem orthoepyref12_hex.calls (k : Nat) (a0 : Int) (r : Int) (w : World) (h : orthoepyref12_hex.f k a0 = some r) :
    Calls Try.prog 61 #[.int .u8 a0] w fun e w' => e = .returned (.int .i64 r) ∧ Drawn0 w w' := by
  have H : (if a0 ≥ 48 then (orthoepyref12_hex.j0 k a0 (decide (a0 ≤ 57))) else (orthoepyref12_hex.j0 k a0 false)) = some r := h
  clear h
  have HC2 := Aside0.mk H
  clear H
  go_enter Try.func61, Try.ntmps61
  go_upto_region 1 with (fail)
  go_cut [3] (fun v3 wc => ∃ (kq : Nat) (x3_1 : Bool), v3 = .bool x3_1 ∧ Aside0 (orthoepyref12_hex.j0 kq a0 x3_1 = some r) ∧ Aside0 (kq ≤ k) ∧ Drawn0 w wc)
  case first =>
    have H := HC2.out
    clear HC2
    by_cases c3 : a0 ≥ 48
    · rw [if_pos c3] at H
      have c3b0 : decide (48 ≤ a0) = true := decide_eq_true c3
      clear c3
      (first | rw [c3b0] | (simp only [i64_w, i32_w]; rw [c3b0]) | skip)
      have H' := Aside0.mk H
      clear H
      go_wp2
      go_meet
      case rel => exact ⟨_, (decide (a0 ≤ 57)), (by first | rfl | (simp; done) | (simp [*]; done)), H', ⟨by first | omega | exact Nat.le_refl _⟩, by repeat (first | exact Drawn0.refl _ | apply Drawn0.step)⟩
    · rw [if_neg c3] at H
      have c3b0 : decide (48 ≤ a0) = false := decide_eq_false c3
      clear c3
      (first | rw [c3b0] | (simp only [i64_w, i32_w]; rw [c3b0]) | skip)
      have H' := Aside0.mk H
      clear H
      go_wp2
      go_meet
      case rel => exact ⟨_, (false), (by first | rfl | (simp; done) | (simp [*]; done)), H', ⟨by first | omega | exact Nat.le_refl _⟩, by repeat (first | exact Drawn0.refl _ | apply Drawn0.step)⟩
  case rest =>
    clear HC2
    try clear p2
    try clear c3
    try clear c3b0
    obtain ⟨kq, x3_1, rfl, HA, HJ1, ⟨mc1, rfl⟩⟩ := hcut
    cases kq with
    | zero => exact absurd HA.out (by simp [orthoepyref12_hex.j0])
    | succ kj1 =>
      have H := HA.out
      clear HA
      simp only [orthoepyref12_hex.j0] at H
      by_cases c4 : x3_1 = true
      · subst c4
        have H1 : (some ((a0 - 48) % 256)) = some r := by rw [if_pos rfl] at H; exact H
        clear H
        have H := H1
        clear H1
        obtain rfl := Option.some.inj H
        go_wp2
        go_ret
        exact ⟨by first | rfl | (simp; done) | (simp [*]; done), by repeat (first | exact Drawn0.refl _ | apply Drawn0.step)⟩
      · replace c4 := Bool.eq_false_iff.mpr c4
        subst c4
        have H1 : (if a0 ≥ 97 then (orthoepyref12_hex.j1 kj1 a0 (decide (a0 ≤ 102))) else (orthoepyref12_hex.j1 kj1 a0 false)) = some r := by rw [if_neg (show ¬ (false = true) by decide)] at H; exact H
        clear H
        have H := H1
        clear H1
        have HC5 := Aside0.mk H
        clear H
        go_upto_region 3 with (fail)
        go_cut [13] (fun v13 wc => ∃ (kq : Nat) (x13_4 : Bool), v13 = .bool x13_4 ∧ Aside0 (orthoepyref12_hex.j1 kq a0 x13_4 = some r) ∧ Aside0 (kq ≤ kj1) ∧ Drawn0 w wc)
        case first =>
          have H := HC5.out
          clear HC5
          by_cases c6 : a0 ≥ 97
          · rw [if_pos c6] at H
            have c6b0 : decide (97 ≤ a0) = true := decide_eq_true c6
            clear c6
            (first | rw [c6b0] | (simp only [i64_w, i32_w]; rw [c6b0]) | skip)
            have H' := Aside0.mk H
            clear H
            go_wp2
            go_meet
            case rel => exact ⟨_, (decide (a0 ≤ 102)), (by first | rfl | (simp; done) | (simp [*]; done)), H', ⟨by have := HJ1.out; first | omega | exact Nat.le_refl _⟩, by repeat (first | exact Drawn0.refl _ | apply Drawn0.step)⟩
          · rw [if_neg c6] at H
            have c6b0 : decide (97 ≤ a0) = false := decide_eq_false c6
            clear c6
            (first | rw [c6b0] | (simp only [i64_w, i32_w]; rw [c6b0]) | skip)
            have H' := Aside0.mk H
            clear H
            go_wp2
            go_meet
            case rel => exact ⟨_, (false), (by first | rfl | (simp; done) | (simp [*]; done)), H', ⟨by have := HJ1.out; first | omega | exact Nat.le_refl _⟩, by repeat (first | exact Drawn0.refl _ | apply Drawn0.step)⟩
        case rest =>
          clear HC5
          try clear c1
          try clear p2
          try clear c3
          try clear c3b0
          try clear c4
          try clear c6
          try clear c6b0
          try clear p2
          obtain ⟨kq, x13_4, rfl, HA, HJ4, ⟨mc4, rfl⟩⟩ := hcut
          cases kq with
          | zero => exact absurd HA.out (by simp [orthoepyref12_hex.j1])
          | succ kj4 =>
            have H := HA.out
            clear HA
            simp only [orthoepyref12_hex.j1] at H
            by_cases c7 : x13_4 = true
            · subst c7
              have H1 : (some (((a0 - 97) % 256) + 10)) = some r := by rw [if_pos rfl] at H; exact H
              clear H
              have H := H1
              clear H1
              obtain rfl := Option.some.inj H
              go_wp2
              go_ret
              exact ⟨by first | rfl | (simp; done) | (simp [*]; done), by repeat (first | exact Drawn0.refl _ | apply Drawn0.step)⟩
            · replace c7 := Bool.eq_false_iff.mpr c7
              subst c7
              have H1 : (if a0 ≥ 65 then (if a0 ≤ 70 then (some (((a0 - 65) % 256) + 10)) else (some (-1))) else (some (-1))) = some r := by rw [if_neg (show ¬ (false = true) by decide)] at H; exact H
              clear H
              have H := H1
              clear H1
              by_cases c8 : a0 ≥ 65
              · rw [if_pos c8] at H
                have c8b0 : decide (65 ≤ a0) = true := decide_eq_true c8
                clear c8
                by_cases c9 : a0 ≤ 70
                · rw [if_pos c9] at H
                  have c9b0 : decide (a0 ≤ 70) = true := decide_eq_true c9
                  clear c9
                  obtain rfl := Option.some.inj H
                  go_wp2
                  go_ret
                  exact ⟨by first | rfl | (simp; done) | (simp [*]; done), by repeat (first | exact Drawn0.refl _ | apply Drawn0.step)⟩
                · rw [if_neg c9] at H
                  have c9b0 : decide (a0 ≤ 70) = false := decide_eq_false c9
                  clear c9
                  obtain rfl := Option.some.inj H
                  go_wp2
                  go_ret
                  exact ⟨by first | rfl | (simp; done) | (simp [*]; done), by repeat (first | exact Drawn0.refl _ | apply Drawn0.step)⟩
              · rw [if_neg c8] at H
                have c8b0 : decide (65 ≤ a0) = false := decide_eq_false c8
                clear c8
                obtain rfl := Option.some.inj H
                go_wp2
                go_ret
                exact ⟨by first | rfl | (simp; done) | (simp [*]; done), by repeat (first | exact Drawn0.refl _ | apply Drawn0.step)⟩

/-! ### orthoepyref01_High: function 62 -/
def orthoepyref01_High.f (a0 : Int) : Option (Bool) := if a0 ≥ 55296 then (some (decide (a0 ≤ 56319))) else (some false)
set_option maxHeartbeats 8000000 in
set_option maxRecDepth 100000 in
theorem orthoepyref01_High.calls (a0 : Int) (r : Bool) (w : World) (h : orthoepyref01_High.f a0 = some r) :
    Calls Try.prog 62 #[.int .u16 a0] w fun e w' => e = .returned (.bool r) ∧ Drawn0 w w' := by
  have H : (if a0 ≥ 55296 then (some (decide (a0 ≤ 56319))) else (some false)) = some r := h
  clear h
  by_cases c2 : a0 ≥ 55296
  · rw [if_pos c2] at H
    have c2b0 : decide (55296 ≤ a0) = true := decide_eq_true c2
    clear c2
    obtain rfl := Option.some.inj H
    go_enter Try.func62, Try.ntmps62
    go_wp2
    go_ret
    exact ⟨by first | rfl | (simp; done) | (simp [*]; done), by repeat (first | exact Drawn0.refl _ | apply Drawn0.step)⟩
  · rw [if_neg c2] at H
    have c2b0 : decide (55296 ≤ a0) = false := decide_eq_false c2
    clear c2
    obtain rfl := Option.some.inj H
    go_enter Try.func62, Try.ntmps62
    go_wp2
    go_ret
    exact ⟨by first | rfl | (simp; done) | (simp [*]; done), by repeat (first | exact Drawn0.refl _ | apply Drawn0.step)⟩

/-! ### orthoepyref01_Low: function 80 -/
def orthoepyref01_Low.f (a0 : Int) : Option (Bool) := if a0 ≥ 56320 then (some (decide (a0 ≤ 57343))) else (some false)
set_option maxHeartbeats 8000000 in
set_option maxRecDepth 100000 in
theorem orthoepyref01_Low.calls (a0 : Int) (r : Bool) (w : World) (h : orthoepyref01_Low.f a0 = some r) :
    Calls Try.prog 80 #[.int .u16 a0] w fun e w' => e = .returned (.bool r) ∧ Drawn0 w w' := by
  have H : (if a0 ≥ 56320 then (some (decide (a0 ≤ 57343))) else (some false)) = some r := h
  clear h
  by_cases c2 : a0 ≥ 56320
  · rw [if_pos c2] at H
    have c2b0 : decide (56320 ≤ a0) = true := decide_eq_true c2
    clear c2
    obtain rfl := Option.some.inj H
    go_enter Try.func80, Try.ntmps80
    go_wp2
    go_ret
    exact ⟨by first | rfl | (simp; done) | (simp [*]; done), by repeat (first | exact Drawn0.refl _ | apply Drawn0.step)⟩
  · rw [if_neg c2] at H
    have c2b0 : decide (56320 ≤ a0) = false := decide_eq_false c2
    clear c2
    obtain rfl := Option.some.inj H
    go_enter Try.func80, Try.ntmps80
    go_wp2
    go_ret
    exact ⟨by first | rfl | (simp; done) | (simp [*]; done), by repeat (first | exact Drawn0.refl _ | apply Drawn0.step)⟩

/-! ### orthoepyref01_Join: function 63 -/
def orthoepyref01_Join.f (a0 : Int) (a1 : Int) : Option (Int × Bool) := (orthoepyref01_High.f a0).bind fun t125 => (if t125 = true then ((orthoepyref01_Low.f a1).bind fun t126 => (if t126 = true then (some (wrap32 ((wrap32 ((wrap32 (65536 + (wrap32 ((wrap32 ((wrap32 (a0)) - 55296)) * 1024)))) + (wrap32 (a1)))) - 56320), true)) else (some (0, false)))) else (some (0, false)))
set_option maxHeartbeats 8000000 in
set_option maxRecDepth 100000 in
theorem orthoepyref01_Join.calls (a0 : Int) (a1 : Int) (r1 : Int) (r2 : Bool) (w : World) (h : orthoepyref01_Join.f a0 a1 = some (r1, r2)) :
    Calls Try.prog 63 #[.int .u16 a0, .int .u16 a1] w fun e w' => e = .returned (.tuple #[.int .i32 r1, .bool r2]) ∧ Drawn0 w w' := by
  have H : ((orthoepyref01_High.f a0).bind fun t125 => (if t125 = true then ((orthoepyref01_Low.f a1).bind fun t126 => (if t126 = true then (some (wrap32 ((wrap32 ((wrap32 (65536 + (wrap32 ((wrap32 ((wrap32 (a0)) - 55296)) * 1024)))) + (wrap32 (a1)))) - 56320), true)) else (some (0, false)))) else (some (0, false)))) = some (r1, r2) := h
  clear h
  replace H := Option.bind_eq_some_iff.mp H
  obtain ⟨t125, A30, H⟩ := H
  replace H : (if t125 = true then ((orthoepyref01_Low.f a1).bind fun t126 => (if t126 = true then (some (wrap32 ((wrap32 ((wrap32 (65536 + (wrap32 ((wrap32 ((wrap32 (a0)) - 55296)) * 1024)))) + (wrap32 (a1)))) - 56320), true)) else (some (0, false)))) else (some (0, false))) = some (r1, r2) := H
  have A3 := Aside0.mk A30
  clear A30
  by_cases c4 : t125 = true
  · subst c4
    have H1 : ((orthoepyref01_Low.f a1).bind fun t126 => (if t126 = true then (some (wrap32 ((wrap32 ((wrap32 (65536 + (wrap32 ((wrap32 ((wrap32 (a0)) - 55296)) * 1024)))) + (wrap32 (a1)))) - 56320), true)) else (some (0, false)))) = some (r1, r2) := by rw [if_pos rfl] at H; exact H
    clear H
    have H := H1
    clear H1
    replace H := Option.bind_eq_some_iff.mp H
    obtain ⟨t126, A50, H⟩ := H
    replace H : (if t126 = true then (some (wrap32 ((wrap32 ((wrap32 (65536 + (wrap32 ((wrap32 ((wrap32 (a0)) - 55296)) * 1024)))) + (wrap32 (a1)))) - 56320), true)) else (some (0, false))) = some (r1, r2) := H
    have A5 := Aside0.mk A50
    clear A50
    by_cases c6 : t126 = true
    · subst c6
      have H1 : (some (wrap32 ((wrap32 ((wrap32 (65536 + (wrap32 ((wrap32 ((wrap32 (a0)) - 55296)) * 1024)))) + (wrap32 (a1)))) - 56320), true)) = some (r1, r2) := by rw [if_pos rfl] at H; exact H
      clear H
      have H := H1
      clear H1
      simp only [Option.some.injEq, Prod.mk.injEq] at H
      obtain ⟨rfl, rfl⟩ := H
      go_enter Try.func63, Try.ntmps63
      go_wp2_with (first | ((with_reducible refine gate_callee (f := 62) rfl ?_); refine goesL_ (some 7) rfl rfl Try.func62 (by kernel_rfl) rfl #[.int .u16 a0] rfl (by (try simp only [List.map_toArray, List.map_cons, List.map_nil]); first | done | rfl | (simp only [List.length_drop, List.length_take]; rfl)) ?_; (with_reducible refine (orthoepyref01_High.calls a0 true _ A3.out).mono ?_); rintro e w' ⟨rfl, ⟨nd, rfl⟩⟩; refine ⟨_, rfl, ?_⟩) | (go_at_call 80; (with_reducible refine (orthoepyref01_Low.calls a1 true _ A5.out).mono ?_); rintro e w' ⟨rfl, ⟨nd, rfl⟩⟩))
      go_ret2
      exact ⟨by first | rfl | (simp; done) | (simp [*]; done), by repeat (first | exact Drawn0.refl _ | apply Drawn0.step)⟩
    · replace c6 := Bool.eq_false_iff.mpr c6
      subst c6
      have H1 : (some (0, false)) = some (r1, r2) := by rw [if_neg (show ¬ (false = true) by decide)] at H; exact H
      clear H
      have H := H1
      clear H1
      simp only [Option.some.injEq, Prod.mk.injEq] at H
      obtain ⟨rfl, rfl⟩ := H
      go_enter Try.func63, Try.ntmps63
      go_wp2_with (first | ((with_reducible refine gate_callee (f := 62) rfl ?_); refine goesL_ (some 7) rfl rfl Try.func62 (by kernel_rfl) rfl #[.int .u16 a0] rfl (by (try simp only [List.map_toArray, List.map_cons, List.map_nil]); first | done | rfl | (simp only [List.length_drop, List.length_take]; rfl)) ?_; (with_reducible refine (orthoepyref01_High.calls a0 true _ A3.out).mono ?_); rintro e w' ⟨rfl, ⟨nd, rfl⟩⟩; refine ⟨_, rfl, ?_⟩) | (go_at_call 80; (with_reducible refine (orthoepyref01_Low.calls a1 false _ A5.out).mono ?_); rintro e w' ⟨rfl, ⟨nd, rfl⟩⟩))
      go_ret2
      exact ⟨by first | rfl | (simp; done) | (simp [*]; done), by repeat (first | exact Drawn0.refl _ | apply Drawn0.step)⟩
  · replace c4 := Bool.eq_false_iff.mpr c4
    subst c4
    have H1 : (some (0, false)) = some (r1, r2) := by rw [if_neg (show ¬ (false = true) by decide)] at H; exact H
    clear H
    have H := H1
    clear H1
    simp only [Option.some.injEq, Prod.mk.injEq] at H
    obtain ⟨rfl, rfl⟩ := H
    go_enter Try.func63, Try.ntmps63
    go_wp2_with (first | ((with_reducible refine gate_callee (f := 62) rfl ?_); refine goesL_ (some 7) rfl rfl Try.func62 (by kernel_rfl) rfl #[.int .u16 a0] rfl (by (try simp only [List.map_toArray, List.map_cons, List.map_nil]); first | done | rfl | (simp only [List.length_drop, List.length_take]; rfl)) ?_; (with_reducible refine (orthoepyref01_High.calls a0 false _ A3.out).mono ?_); rintro e w' ⟨rfl, ⟨nd, rfl⟩⟩; refine ⟨_, rfl, ?_⟩))
    go_ret2
    exact ⟨by first | rfl | (simp; done) | (simp [*]; done), by repeat (first | exact Drawn0.refl _ | apply Drawn0.step)⟩

-- NOT PRINTED: function 46 (orthoepyref12_Str_digits)

/-! ### orthoepyref12_simple: function 64 -/
def orthoepyref12_simple.l0 : Nat → Int → Int → Option (Int)
  | 0, _, _ => none
  | k + 1, x0, x3 => if x3 < 8 then (if 0 ≤ x3 then (if (bt (⟨#[34, 92, 47, 98, 102, 110, 114, 116]⟩ : ByteArray) x3) = x0 then (some (wrap32 (bt (⟨#[34, 92, 47, 8, 12, 10, 13, 9]⟩ : ByteArray) x3))) else (orthoepyref12_simple.l0 k x0 (wrap64 (x3 + 1)))) else (none)) else (some (-1))
def orthoepyref12_simple.f (k : Nat) (a0 : Int) : Option (Int) := orthoepyref12_simple.l0 k a0 0
theorem orthoepyref12_simple.mono_l : ∀ k, (∀ y0 y1, LeO (orthoepyref12_simple.l0 k y0 y1) (orthoepyref12_simple.l0 (k + 1) y0 y1))
  | 0 => fun _ _ r h => by simp [orthoepyref12_simple.l0] at h
  | k + 1 => by
    have ih0 := orthoepyref12_simple.mono_l k
    · intro y0 y1
      unfold orthoepyref12_simple.l0
      repeat' first
      | (with_reducible exact ih0 _ _)
      | (with_reducible exact LeO.refl _)
      | (with_reducible exact LeO.none _)
      | (with_reducible refine LeO.ite ?_ ?_)
      | (with_reducible refine LeO.bind ?_ (fun _ => ?_))
      | exact ih0 _ _
      | exact LeO.none _
      | refine LeO.ite ?_ ?_
      | refine LeO.bind ?_ (fun _ => ?_)
theorem orthoepyref12_simple.mono : ∀ a0 k, LeO (orthoepyref12_simple.f k a0) (orthoepyref12_simple.f (k + 1) a0) := by
  intro a0 k
  have ih0 := orthoepyref12_simple.mono_l k
  unfold orthoepyref12_simple.f
  repeat' first
      | (with_reducible exact ih0 _ _)
      | (with_reducible exact LeO.refl _)
      | (with_reducible exact LeO.none _)
      | (with_reducible refine LeO.ite ?_ ?_)
      | (with_reducible refine LeO.bind ?_ (fun _ => ?_))
      | exact ih0 _ _
      | exact LeO.none _
      | refine LeO.ite ?_ ?_
      | refine LeO.bind ?_ (fun _ => ?_)
set_option maxHeartbeats 8000000 in
set_option maxRecDepth 100000 in
theorem orthoepyref12_simple.calls (k : Nat) (a0 : Int) (r : Int) (w : World) (h : orthoepyref12_simple.f k a0 = some r) :
    Calls Try.prog 64 #[.int .u8 a0] w fun e w' => e = .returned (.int .i32 r) ∧ Drawn0 w w' := by
  have H : (orthoepyref12_simple.l0 k a0 0) = some r := h
  clear h
  have H' := Aside0.mk H
  clear H
  go_enter Try.func64, Try.ntmps64
  go_wp2
  go_loopg [3] k (fun kq v3 w' => ∃ (x3_1 : Int), v3 = .int .i64 x3_1 ∧ Aside0 (orthoepyref12_simple.l0 kq a0 x3_1 = some r) ∧ Aside0 (kq ≤ k) ∧ Drawn0 w w')
  case atStart => exact ⟨(0), (by first | rfl | (simp; done) | (simp [*]; done)), H', ⟨Nat.le_refl _⟩, by repeat (first | exact Drawn0.refl _ | apply Drawn0.step)⟩
  case round =>
    clear H'
    obtain ⟨x3_1, rfl, HA, HK1, ⟨m1, rfl⟩⟩ := hrel
    cases gk with
    | zero => exact absurd HA.out (by simp [orthoepyref12_simple.l0])
    | succ k1 =>
      have H := HA.out
      clear HA
      simp only [orthoepyref12_simple.l0] at H
      by_cases c2 : x3_1 < 8
      · rw [if_pos c2] at H
        have c2b0 : decide (x3_1 < 8) = true := decide_eq_true c2
        clear c2
        by_cases c3 : 0 ≤ x3_1
        · rw [if_pos c3] at H
          have c3b0 : decide (0 ≤ x3_1) = true := decide_eq_true c3
          clear c3
          by_cases c5 : (bt (⟨#[34, 92, 47, 98, 102, 110, 114, 116]⟩ : ByteArray) x3_1) = a0
          · rw [if_pos c5] at H
            have c5b0 : ((bt (⟨#[34, 92, 47, 98, 102, 110, 114, 116]⟩ : ByteArray) x3_1) == a0) = true := beq_iff_eq.mpr c5
            have c5b1 : ((bt (⟨#[34, 92, 47, 98, 102, 110, 114, 116]⟩ : ByteArray) x3_1) != a0) = false := bne_eq_false_iff_eq.mpr c5
            clear c5
            obtain rfl := Option.some.inj H
            have p4 : 0 ≤ (x3_1 : Int) := of_decide_eq_true (by first | (with_reducible assumption) | assumption)
            have q4 : x3_1 < (8 : Int) := of_decide_eq_true (by first | (with_reducible assumption) | assumption)
            have hx4 := bt_at (⟨#[34, 92, 47, 98, 102, 110, 114, 116]⟩ : ByteArray) x3_1
            replace p4 := eq_true p4
            replace q4 := eq_true q4
            have p6 : 0 ≤ (x3_1 : Int) := of_decide_eq_true (by first | (with_reducible assumption) | assumption)
            have q6 : x3_1 < (8 : Int) := of_decide_eq_true (by first | (with_reducible assumption) | assumption)
            have hx6 := bt_at (⟨#[34, 92, 47, 8, 12, 10, 13, 9]⟩ : ByteArray) x3_1
            replace p6 := eq_true p6
            replace q6 := eq_true q6
            go_wp2
            go_ret
            exact ⟨by first | rfl | (simp; done) | (simp [*]; done), by repeat (first | exact Drawn0.refl _ | apply Drawn0.step)⟩
          · rw [if_neg c5] at H
            have c5b0 : ((bt (⟨#[34, 92, 47, 98, 102, 110, 114, 116]⟩ : ByteArray) x3_1) == a0) = false := beq_eq_false_iff_ne.mpr c5
            have c5b1 : ((bt (⟨#[34, 92, 47, 98, 102, 110, 114, 116]⟩ : ByteArray) x3_1) != a0) = true := bne_iff_ne.mpr c5
            have H' := Aside0.mk H
            clear H
            have p4 : 0 ≤ (x3_1 : Int) := of_decide_eq_true (by first | (with_reducible assumption) | assumption)
            have q4 : x3_1 < (8 : Int) := of_decide_eq_true (by first | (with_reducible assumption) | assumption)
            have hx4 := bt_at (⟨#[34, 92, 47, 98, 102, 110, 114, 116]⟩ : ByteArray) x3_1
            replace p4 := eq_true p4
            replace q4 := eq_true q4
            go_wp2
            go_roundg k1
            case measure => have := HK1.out; omega
            case rel => exact ⟨(wrap64 (x3_1 + 1)), (by first | rfl | (simp; done) | (simp [*]; done)), H', ⟨by have := HK1.out; omega⟩, by repeat (first | exact Drawn0.refl _ | apply Drawn0.step)⟩
        · rw [if_neg c3] at H
          exact absurd H (by simp)
      · rw [if_neg c2] at H
        have c2b0 : decide (x3_1 < 8) = false := decide_eq_false c2
        clear c2
        obtain rfl := Option.some.inj H
        go_wp2
        go_ret
        exact ⟨by first | rfl | (simp; done) | (simp [*]; done), by repeat (first | exact Drawn0.refl _ | apply Drawn0.step)⟩

-- NOT PRINTED: function 47 (orthoepyref12_Str_escape)

/-! ### orthoepyref02_long: function 81 -/
mutual
def orthoepyref02_long.j0 : Nat → Int → Bool → Option (Int)
  | 0, _, _ => none
  | k + 1, x0, x6 => if x6 = true then (some 2) else (if x0 ≥ 224 then (orthoepyref02_long.j1 k x0 (decide (x0 ≤ 239))) else (orthoepyref02_long.j1 k x0 false))
def orthoepyref02_long.j1 : Nat → Int → Bool → Option (Int)
  | 0, _, _ => none
  | k + 1, x0, x13 => if x13 = true then (some 3) else (if x0 ≥ 240 then (if x0 ≤ 244 then (some 4) else (some 0)) else (some 0))
end
def orthoepyref02_long.f (k : Nat) (a0 : Int) : Option (Int) := if a0 < 128 then (some 1) else (if a0 ≥ 194 then (orthoepyref02_long.j0 k a0 (decide (a0 ≤ 223))) else (orthoepyref02_long.j0 k a0 false))
theorem orthoepyref02_long.mono_l : ∀ k, (∀ y0 y1, LeO (orthoepyref02_long.j0 k y0 y1) (orthoepyref02_long.j0 (k + 1) y0 y1)) ∧ (∀ y0 y1, LeO (orthoepyref02_long.j1 k y0 y1) (orthoepyref02_long.j1 (k + 1) y0 y1))
  | 0 => ⟨fun _ _ r h => by simp [orthoepyref02_long.j0] at h, fun _ _ r h => by simp [orthoepyref02_long.j1] at h⟩
  | k + 1 => by
    obtain ⟨ih0, ih1⟩ := orthoepyref02_long.mono_l k
    refine ⟨?_, ?_⟩
    · intro y0 y1
      unfold orthoepyref02_long.j0
      repeat' first
      | (with_reducible exact ih0 _ _)
      | (with_reducible exact ih1 _ _)
      | (with_reducible exact LeO.refl _)
      | (with_reducible exact LeO.none _)
      | (with_reducible refine LeO.ite ?_ ?_)
      | (with_reducible refine LeO.bind ?_ (fun _ => ?_))
      | exact ih0 _ _
      | exact ih1 _ _
      | exact LeO.none _
      | refine LeO.ite ?_ ?_
      | refine LeO.bind ?_ (fun _ => ?_)
    · intro y0 y1
      unfold orthoepyref02_long.j1
      repeat' first
      | (with_reducible exact ih0 _ _)
      | (with_reducible exact ih1 _ _)
      | (with_reducible exact LeO.refl _)
      | (with_reducible exact LeO.none _)
      | (with_reducible refine LeO.ite ?_ ?_)
      | (with_reducible refine LeO.bind ?_ (fun _ => ?_))
      | exact ih0 _ _
      | exact ih1 _ _
      | exact LeO.none _
      | refine LeO.ite ?_ ?_
      | refine LeO.bind ?_ (fun _ => ?_)
theorem orthoepyref02_long.mono : ∀ a0 k, LeO (orthoepyref02_long.f k a0) (orthoepyref02_long.f (k + 1) a0) := by
  intro a0 k
  obtain ⟨ih0, ih1⟩ := orthoepyref02_long.mono_l k
  unfold orthoepyref02_long.f
  repeat' first
      | (with_reducible exact ih0 _ _)
      | (with_reducible exact ih1 _ _)
      | (with_reducible exact LeO.refl _)
      | (with_reducible exact LeO.none _)
      | (with_reducible refine LeO.ite ?_ ?_)
      | (with_reducible refine LeO.bind ?_ (fun _ => ?_))
      | exact ih0 _ _
      | exact ih1 _ _
      | exact LeO.none _
      | refine LeO.ite ?_ ?_
      | refine LeO.bind ?_ (fun _ => ?_)
set_option maxHeartbeats 8000000 in
set_option maxRecDepth 100000 in
theorem orthoepyref02_long.calls (k : Nat) (a0 : Int) (r : Int) (w : World) (h : orthoepyref02_long.f k a0 = some r) :
    Calls Try.prog 81 #[.int .u8 a0] w fun e w' => e = .returned (.int .i64 r) ∧ Drawn0 w w' := by
  have H : (if a0 < 128 then (some 1) else (if a0 ≥ 194 then (orthoepyref02_long.j0 k a0 (decide (a0 ≤ 223))) else (orthoepyref02_long.j0 k a0 false))) = some r := h
  clear h
  by_cases c2 : a0 < 128
  · rw [if_pos c2] at H
    have c2b0 : decide (a0 < 128) = true := decide_eq_true c2
    clear c2
    obtain rfl := Option.some.inj H
    go_enter Try.func81, Try.ntmps81
    go_wp2
    go_ret
    exact ⟨by first | rfl | (simp; done) | (simp [*]; done), by repeat (first | exact Drawn0.refl _ | apply Drawn0.step)⟩
  · rw [if_neg c2] at H
    have c2b0 : decide (a0 < 128) = false := decide_eq_false c2
    clear c2
    have HC3 := Aside0.mk H
    clear H
    go_enter Try.func81, Try.ntmps81
    go_upto_region 3 with (fail)
    go_cut [6] (fun v6 wc => ∃ (kq : Nat) (x6_2 : Bool), v6 = .bool x6_2 ∧ Aside0 (orthoepyref02_long.j0 kq a0 x6_2 = some r) ∧ Aside0 (kq ≤ k) ∧ Drawn0 w wc)
    case first =>
      have H := HC3.out
      clear HC3
      by_cases c4 : a0 ≥ 194
      · rw [if_pos c4] at H
        have c4b0 : decide (194 ≤ a0) = true := decide_eq_true c4
        clear c4
        (first | rw [c4b0] | (simp only [i64_w, i32_w]; rw [c4b0]) | skip)
        have H' := Aside0.mk H
        clear H
        go_wp2
        go_meet
        case rel => exact ⟨_, (decide (a0 ≤ 223)), (by first | rfl | (simp; done) | (simp [*]; done)), H', ⟨by first | omega | exact Nat.le_refl _⟩, by repeat (first | exact Drawn0.refl _ | apply Drawn0.step)⟩
      · rw [if_neg c4] at H
        have c4b0 : decide (194 ≤ a0) = false := decide_eq_false c4
        clear c4
        (first | rw [c4b0] | (simp only [i64_w, i32_w]; rw [c4b0]) | skip)
        have H' := Aside0.mk H
        clear H
        go_wp2
        go_meet
        case rel => exact ⟨_, (false), (by first | rfl | (simp; done) | (simp [*]; done)), H', ⟨by first | omega | exact Nat.le_refl _⟩, by repeat (first | exact Drawn0.refl _ | apply Drawn0.step)⟩
    case rest =>
      clear HC3
      try clear c2
      try clear c2b0
      try clear p2
      try clear c4
      try clear c4b0
      obtain ⟨kq, x6_2, rfl, HA, HJ2, ⟨mc2, rfl⟩⟩ := hcut
      cases kq with
      | zero => exact absurd HA.out (by simp [orthoepyref02_long.j0])
      | succ kj2 =>
        have H := HA.out
        clear HA
        simp only [orthoepyref02_long.j0] at H
        by_cases c5 : x6_2 = true
        · subst c5
          have H1 : (some 2) = some r := by rw [if_pos rfl] at H; exact H
          clear H
          have H := H1
          clear H1
          obtain rfl := Option.some.inj H
          go_wp2
          go_ret
          exact ⟨by first | rfl | (simp; done) | (simp [*]; done), by repeat (first | exact Drawn0.refl _ | apply Drawn0.step)⟩
        · replace c5 := Bool.eq_false_iff.mpr c5
          subst c5
          have H1 : (if a0 ≥ 224 then (orthoepyref02_long.j1 kj2 a0 (decide (a0 ≤ 239))) else (orthoepyref02_long.j1 kj2 a0 false)) = some r := by rw [if_neg (show ¬ (false = true) by decide)] at H; exact H
          clear H
          have H := H1
          clear H1
          have HC6 := Aside0.mk H
          clear H
          go_upto_region 5 with (fail)
          go_cut [13] (fun v13 wc => ∃ (kq : Nat) (x13_5 : Bool), v13 = .bool x13_5 ∧ Aside0 (orthoepyref02_long.j1 kq a0 x13_5 = some r) ∧ Aside0 (kq ≤ kj2) ∧ Drawn0 w wc)
          case first =>
            have H := HC6.out
            clear HC6
            by_cases c7 : a0 ≥ 224
            · rw [if_pos c7] at H
              have c7b0 : decide (224 ≤ a0) = true := decide_eq_true c7
              clear c7
              (first | rw [c7b0] | (simp only [i64_w, i32_w]; rw [c7b0]) | skip)
              have H' := Aside0.mk H
              clear H
              go_wp2
              go_meet
              case rel => exact ⟨_, (decide (a0 ≤ 239)), (by first | rfl | (simp; done) | (simp [*]; done)), H', ⟨by have := HJ2.out; first | omega | exact Nat.le_refl _⟩, by repeat (first | exact Drawn0.refl _ | apply Drawn0.step)⟩
            · rw [if_neg c7] at H
              have c7b0 : decide (224 ≤ a0) = false := decide_eq_false c7
              clear c7
              (first | rw [c7b0] | (simp only [i64_w, i32_w]; rw [c7b0]) | skip)
              have H' := Aside0.mk H
              clear H
              go_wp2
              go_meet
              case rel => exact ⟨_, (false), (by first | rfl | (simp; done) | (simp [*]; done)), H', ⟨by have := HJ2.out; first | omega | exact Nat.le_refl _⟩, by repeat (first | exact Drawn0.refl _ | apply Drawn0.step)⟩
          case rest =>
            clear HC6
            try clear c2
            try clear c2b0
            try clear p2
            try clear c4
            try clear c4b0
            try clear c5
            try clear c7
            try clear c7b0
            try clear p2
            obtain ⟨kq, x13_5, rfl, HA, HJ5, ⟨mc5, rfl⟩⟩ := hcut
            cases kq with
            | zero => exact absurd HA.out (by simp [orthoepyref02_long.j1])
            | succ kj5 =>
              have H := HA.out
              clear HA
              simp only [orthoepyref02_long.j1] at H
              by_cases c8 : x13_5 = true
              · subst c8
                have H1 : (some 3) = some r := by rw [if_pos rfl] at H; exact H
                clear H
                have H := H1
                clear H1
                obtain rfl := Option.some.inj H
                go_wp2
                go_ret
                exact ⟨by first | rfl | (simp; done) | (simp [*]; done), by repeat (first | exact Drawn0.refl _ | apply Drawn0.step)⟩
              · replace c8 := Bool.eq_false_iff.mpr c8
                subst c8
                have H1 : (if a0 ≥ 240 then (if a0 ≤ 244 then (some 4) else (some 0)) else (some 0)) = some r := by rw [if_neg (show ¬ (false = true) by decide)] at H; exact H
                clear H
                have H := H1
                clear H1
                by_cases c9 : a0 ≥ 240
                · rw [if_pos c9] at H
                  have c9b0 : decide (240 ≤ a0) = true := decide_eq_true c9
                  clear c9
                  by_cases c10 : a0 ≤ 244
                  · rw [if_pos c10] at H
                    have c10b0 : decide (a0 ≤ 244) = true := decide_eq_true c10
                    clear c10
                    obtain rfl := Option.some.inj H
                    go_wp2
                    go_ret
                    exact ⟨by first | rfl | (simp; done) | (simp [*]; done), by repeat (first | exact Drawn0.refl _ | apply Drawn0.step)⟩
                  · rw [if_neg c10] at H
                    have c10b0 : decide (a0 ≤ 244) = false := decide_eq_false c10
                    clear c10
                    obtain rfl := Option.some.inj H
                    go_wp2
                    go_ret
                    exact ⟨by first | rfl | (simp; done) | (simp [*]; done), by repeat (first | exact Drawn0.refl _ | apply Drawn0.step)⟩
                · rw [if_neg c9] at H
                  have c9b0 : decide (240 ≤ a0) = false := decide_eq_false c9
                  clear c9
                  obtain rfl := Option.some.inj H
                  go_wp2
                  go_ret
                  exact ⟨by first | rfl | (simp; done) | (simp [*]; done), by repeat (first | exact Drawn0.refl _ | apply Drawn0.step)⟩

/-! ### orthoepyref02_second: function 82 -/
def orthoepyref02_second.f (a0 : Int) (a1 : Int) : Option (Bool) := if a0 = 224 then (if a1 ≥ 160 then (some (decide (a1 ≤ 191))) else (some false)) else (if a0 = 237 then (if a1 ≥ 128 then (some (decide (a1 ≤ 159))) else (some false)) else (if a0 = 240 then (if a1 ≥ 144 then (some (decide (a1 ≤ 191))) else (some false)) else (if a0 = 244 then (if a1 ≥ 128 then (some (decide (a1 ≤ 143))) else (some false)) else (if a1 ≥ 128 then (some (decide (a1 ≤ 191))) else (some false)))))
set_option maxHeartbeats 8000000 in
set_option maxRecDepth 100000 in
theorem orthoepyref02_second.calls (a0 : Int) (a1 : Int) (r : Bool) (w : World) (h : orthoepyref02_second.f a0 a1 = some r) :
    Calls Try.prog 82 #[.int .u8 a0, .int .u8 a1] w fun e w' => e = .returned (.bool r) ∧ Drawn0 w w' := by
  have H : (if a0 = 224 then (if a1 ≥ 160 then (some (decide (a1 ≤ 191))) else (some false)) else (if a0 = 237 then (if a1 ≥ 128 then (some (decide (a1 ≤ 159))) else (some false)) else (if a0 = 240 then (if a1 ≥ 144 then (some (decide (a1 ≤ 191))) else (some false)) else (if a0 = 244 then (if a1 ≥ 128 then (some (decide (a1 ≤ 143))) else (some false)) else (if a1 ≥ 128 then (some (decide (a1 ≤ 191))) else (some false)))))) = some r := h
  clear h
  by_cases c3 : a0 = 224
  · rw [if_pos c3] at H
    have c3b0 : (a0 == 224) = true := beq_iff_eq.mpr c3
    have c3b1 : (a0 != 224) = false := bne_eq_false_iff_eq.mpr c3
    clear c3
    by_cases c4 : a1 ≥ 160
    · rw [if_pos c4] at H
      have c4b0 : decide (160 ≤ a1) = true := decide_eq_true c4
      clear c4
      obtain rfl := Option.some.inj H
      go_enter Try.func82, Try.ntmps82
      go_wp2
      go_ret
      exact ⟨by first | rfl | (simp; done) | (simp [*]; done), by repeat (first | exact Drawn0.refl _ | apply Drawn0.step)⟩
    · rw [if_neg c4] at H
      have c4b0 : decide (160 ≤ a1) = false := decide_eq_false c4
      clear c4
      obtain rfl := Option.some.inj H
      go_enter Try.func82, Try.ntmps82
      go_wp2
      go_ret
      exact ⟨by first | rfl | (simp; done) | (simp [*]; done), by repeat (first | exact Drawn0.refl _ | apply Drawn0.step)⟩
  · rw [if_neg c3] at H
    have c3b0 : (a0 == 224) = false := beq_eq_false_iff_ne.mpr c3
    have c3b1 : (a0 != 224) = true := bne_iff_ne.mpr c3
    by_cases c5 : a0 = 237
    · rw [if_pos c5] at H
      have c5b0 : (a0 == 237) = true := beq_iff_eq.mpr c5
      have c5b1 : (a0 != 237) = false := bne_eq_false_iff_eq.mpr c5
      clear c5
      by_cases c6 : a1 ≥ 128
      · rw [if_pos c6] at H
        have c6b0 : decide (128 ≤ a1) = true := decide_eq_true c6
        clear c6
        obtain rfl := Option.some.inj H
        go_enter Try.func82, Try.ntmps82
        go_wp2
        go_ret
        exact ⟨by first | rfl | (simp; done) | (simp [*]; done), by repeat (first | exact Drawn0.refl _ | apply Drawn0.step)⟩
      · rw [if_neg c6] at H
        have c6b0 : decide (128 ≤ a1) = false := decide_eq_false c6
        clear c6
        obtain rfl := Option.some.inj H
        go_enter Try.func82, Try.ntmps82
        go_wp2
        go_ret
        exact ⟨by first | rfl | (simp; done) | (simp [*]; done), by repeat (first | exact Drawn0.refl _ | apply Drawn0.step)⟩
    · rw [if_neg c5] at H
      have c5b0 : (a0 == 237) = false := beq_eq_false_iff_ne.mpr c5
      have c5b1 : (a0 != 237) = true := bne_iff_ne.mpr c5
      by_cases c7 : a0 = 240
      · rw [if_pos c7] at H
        have c7b0 : (a0 == 240) = true := beq_iff_eq.mpr c7
        have c7b1 : (a0 != 240) = false := bne_eq_false_iff_eq.mpr c7
        clear c7
        by_cases c8 : a1 ≥ 144
        · rw [if_pos c8] at H
          have c8b0 : decide (144 ≤ a1) = true := decide_eq_true c8
          clear c8
          obtain rfl := Option.some.inj H
          go_enter Try.func82, Try.ntmps82
          go_wp2
          go_ret
          exact ⟨by first | rfl | (simp; done) | (simp [*]; done), by repeat (first | exact Drawn0.refl _ | apply Drawn0.step)⟩
        · rw [if_neg c8] at H
          have c8b0 : decide (144 ≤ a1) = false := decide_eq_false c8
          clear c8
          obtain rfl := Option.some.inj H
          go_enter Try.func82, Try.ntmps82
          go_wp2
          go_ret
          exact ⟨by first | rfl | (simp; done) | (simp [*]; done), by repeat (first | exact Drawn0.refl _ | apply Drawn0.step)⟩
      · rw [if_neg c7] at H
        have c7b0 : (a0 == 240) = false := beq_eq_false_iff_ne.mpr c7
        have c7b1 : (a0 != 240) = true := bne_iff_ne.mpr c7
        by_cases c9 : a0 = 244
        · rw [if_pos c9] at H
          have c9b0 : (a0 == 244) = true := beq_iff_eq.mpr c9
          have c9b1 : (a0 != 244) = false := bne_eq_false_iff_eq.mpr c9
          clear c9
          by_cases c10 : a1 ≥ 128
          · rw [if_pos c10] at H
            have c10b0 : decide (128 ≤ a1) = true := decide_eq_true c10
            clear c10
            obtain rfl := Option.some.inj H
            go_enter Try.func82, Try.ntmps82
            go_wp2
            go_ret
            exact ⟨by first | rfl | (simp; done) | (simp [*]; done), by repeat (first | exact Drawn0.refl _ | apply Drawn0.step)⟩
          · rw [if_neg c10] at H
            have c10b0 : decide (128 ≤ a1) = false := decide_eq_false c10
            clear c10
            obtain rfl := Option.some.inj H
            go_enter Try.func82, Try.ntmps82
            go_wp2
            go_ret
            exact ⟨by first | rfl | (simp; done) | (simp [*]; done), by repeat (first | exact Drawn0.refl _ | apply Drawn0.step)⟩
        · rw [if_neg c9] at H
          have c9b0 : (a0 == 244) = false := beq_eq_false_iff_ne.mpr c9
          have c9b1 : (a0 != 244) = true := bne_iff_ne.mpr c9
          by_cases c11 : a1 ≥ 128
          · rw [if_pos c11] at H
            have c11b0 : decide (128 ≤ a1) = true := decide_eq_true c11
            clear c11
            obtain rfl := Option.some.inj H
            go_enter Try.func82, Try.ntmps82
            go_wp2
            go_ret
            exact ⟨by first | rfl | (simp; done) | (simp [*]; done), by repeat (first | exact Drawn0.refl _ | apply Drawn0.step)⟩
          · rw [if_neg c11] at H
            have c11b0 : decide (128 ≤ a1) = false := decide_eq_false c11
            clear c11
            obtain rfl := Option.some.inj H
            go_enter Try.func82, Try.ntmps82
            go_wp2
            go_ret
            exact ⟨by first | rfl | (simp; done) | (simp [*]; done), by repeat (first | exact Drawn0.refl _ | apply Drawn0.step)⟩

end Go.Proofs.Ytkpeblpgfngjcaa.PAll
