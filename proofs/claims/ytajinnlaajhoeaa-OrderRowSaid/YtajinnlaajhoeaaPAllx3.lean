-- The machine's side of laws, written by a program of this session (wip/gen/pp.sh). Lean checks it.
import Derived.Test.YtajinnlaajhoeaaPAllx0
import Derived.Test.YtajinnlaajhoeaaPAllx2
namespace Go.Proofs.Ytajinnlaajhoeaa.PAll
open Go.RowKit Go.Proofs.YtajinnlaajhoeaaW.PrintWords Go.Proofs.YtajinnlaajhoeaaW.PrintLast
set_option linter.unusedVariables false
set_option linter.unusedSimpArgs false

/-! ### slices_Compare_uint16_uint16: function 41 -/
def slices_Compare_uint16_uint16.l0 : Nat → List Int → List Int → List Int → Int → Int → Option (Int)
  | 0, _, _, _, _, _ => none
  | k + 1, x0, x1, x9, x10, x11 => if x11 < x10 then (if 0 ≤ x11 then (if x11 < (x9.length : Int) then (if x11 ≥ (x1.length : Int) then (some 1) else (if x11 < (x1.length : Int) then ((cmp_Compare_uint16.f (rd x9 x11) (rd x1 x11)).bind fun t131 => (if t131 = 0 then (slices_Compare_uint16_uint16.l0 k x0 x1 x9 x10 (wrap64 (x11 + 1))) else (some t131))) else (none))) else (none)) else (none)) else (if (x0.length : Int) < (x1.length : Int) then (some (-1)) else (some 0))
def slices_Compare_uint16_uint16.f (k : Nat) (l0 : List Int) (l1 : List Int) : Option (Int) := slices_Compare_uint16_uint16.l0 k l0 l1 l0 (l0.length : Int) 0
theorem slices_Compare_uint16_uint16.mono_l : ∀ k, (∀ y0 y1 y2 y3 y4, LeO (slices_Compare_uint16_uint16.l0 k y0 y1 y2 y3 y4) (slices_Compare_uint16_uint16.l0 (k + 1) y0 y1 y2 y3 y4))
  | 0 => fun _ _ _ _ _ r h => by simp [slices_Compare_uint16_uint16.l0] at h
  | k + 1 => by
    have ih0 := slices_Compare_uint16_uint16.mono_l k
    · intro y0 y1 y2 y3 y4
      unfold slices_Compare_uint16_uint16.l0
      repeat' first
      | (with_reducible exact ih0 _ _ _ _ _)
      | (with_reducible exact LeO.refl _)
      | (with_reducible exact LeO.none _)
      | (with_reducible refine LeO.ite ?_ ?_)
      | (with_reducible refine LeO.bind ?_ (fun _ => ?_))
      | exact ih0 _ _ _ _ _
      | exact LeO.none _
      | refine LeO.ite ?_ ?_
      | refine LeO.bind ?_ (fun _ => ?_)
theorem slices_Compare_uint16_uint16.mono : ∀ a0 a1 k, LeO (slices_Compare_uint16_uint16.f k a0 a1) (slices_Compare_uint16_uint16.f (k + 1) a0 a1) := by
  intro a0 a1 k
  have ih0 := slices_Compare_uint16_uint16.mono_l k
  unfold slices_Compare_uint16_uint16.f
  repeat' first
      | (with_reducible exact ih0 _ _ _ _ _)
      | (with_reducible exact LeO.refl _)
      | (with_reducible exact LeO.none _)
      | (with_reducible refine LeO.ite ?_ ?_)
      | (with_reducible refine LeO.bind ?_ (fun _ => ?_))
      | exact ih0 _ _ _ _ _
      | exact LeO.none _
      | refine LeO.ite ?_ ?_
      | refine LeO.bind ?_ (fun _ => ?_)
set_option maxHeartbeats 8000000 in
set_option maxRecDepth 100000 in
theorem slices_Compare_uint16_uint16.calls (k : Nat) (A0 : Option Addr) (c0 : Nat) (l0 : List Int) (A1 : Option Addr) (c1 : Nat) (l1 : List Int) (r : Int) (w : World) (hr0 : Kd.C (Kd.int .u16) w A0 l0.length l0) (hc0 : l0.length ≤ c0) (hr1 : Kd.C (Kd.int .u16) w A1 l1.length l1) (hc1 : l1.length ≤ c1) (h : slices_Compare_uint16_uint16.f k l0 l1 = some r) :
    Calls Try.prog 41 #[.slice A0 l0.length c0, .slice A1 l1.length c1] w fun e w' => e = .returned (.int .i64 r) ∧ Drawn0 w w' := by
  have HR0 := Aside0.mk hr0
  have HC0 := Aside0.mk hc0
  clear hr0 hc0
  have HR1 := Aside0.mk hr1
  have HC1 := Aside0.mk hc1
  clear hr1 hc1
  have H : (slices_Compare_uint16_uint16.l0 k l0 l1 l0 (l0.length : Int) 0) = some r := h
  clear h
  have H' := Aside0.mk H
  clear H
  go_enter Try.func41, Try.ntmps41
  go_wp2
  go_loopg [11] k (fun kq v11 w' => ∃ (x11_1 : Int), v11 = .int .i64 x11_1 ∧ Aside0 (slices_Compare_uint16_uint16.l0 kq l0 l1 l0 (l0.length : Int) x11_1 = some r) ∧ Aside0 (kq ≤ k) ∧ Drawn0 w w')
  case atStart => exact ⟨(0), (by first | rfl | (simp; done) | (simp [*]; done)), H', ⟨Nat.le_refl _⟩, by repeat (first | exact Drawn0.refl _ | apply Drawn0.step)⟩
  case round =>
    clear H'
    try clear c1
    try clear p2
    obtain ⟨x11_1, rfl, HA, HK1, ⟨m1, rfl⟩⟩ := hrel
    cases gk with
    | zero => exact absurd HA.out (by simp [slices_Compare_uint16_uint16.l0])
    | succ k1 =>
      have H := HA.out
      clear HA
      simp only [slices_Compare_uint16_uint16.l0] at H
      by_cases c3 : x11_1 < (l0.length : Int)
      · rw [if_pos c3] at H
        have c3b0 : decide (x11_1 < (l0.length : Int)) = true := decide_eq_true c3
        clear c3
        by_cases c4 : 0 ≤ x11_1
        · rw [if_pos c4] at H
          have c4b0 : decide (0 ≤ x11_1) = true := decide_eq_true c4
          clear c4
          by_cases c5 : x11_1 < (l0.length : Int)
          · rw [if_pos c5] at H
            have c5b0 : decide (x11_1 < (l0.length : Int)) = true := decide_eq_true c5
            clear c5
            by_cases c6 : x11_1 ≥ (l1.length : Int)
            · rw [if_pos c6] at H
              have c6b0 : decide ((l1.length : Int) ≤ x11_1) = true := decide_eq_true c6
              clear c6
              obtain rfl := Option.some.inj H
              have p129 : 0 ≤ (x11_1 : Int) := of_decide_eq_true (by first | (with_reducible assumption) | assumption)
              have q129 : x11_1 < (l0.length : Int) := of_decide_eq_true (by first | (with_reducible assumption) | assumption)
              obtain ⟨ad129, e129, hx129_0⟩ := Kd.at_int HR0.out x11_1 p129 q129
              cases e129
              replace p129 := eq_true p129
              replace q129 := eq_true q129
              go_wp2
              go_ret
              exact ⟨by first | rfl | (simp; done) | (simp [*]; done), by repeat (first | exact Drawn0.refl _ | apply Drawn0.step)⟩
            · rw [if_neg c6] at H
              have c6b0 : decide ((l1.length : Int) ≤ x11_1) = false := decide_eq_false c6
              clear c6
              by_cases c7 : x11_1 < (l1.length : Int)
              · rw [if_pos c7] at H
                have c7b0 : decide (x11_1 < (l1.length : Int)) = true := decide_eq_true c7
                clear c7
                replace H := Option.bind_eq_some_iff.mp H
                obtain ⟨t131, A80, H⟩ := H
                replace H : (if t131 = 0 then (slices_Compare_uint16_uint16.l0 k1 l0 l1 l0 (l0.length : Int) (wrap64 (x11_1 + 1))) else (some t131)) = some r := H
                have A8 := Aside0.mk A80
                clear A80
                by_cases c9 : t131 = 0
                · rw [if_pos c9] at H
                  have c9b0 : (t131 == 0) = true := beq_iff_eq.mpr c9
                  have c9b1 : (t131 != 0) = false := bne_eq_false_iff_eq.mpr c9
                  clear c9
                  have H' := Aside0.mk H
                  clear H
                  have p129 : 0 ≤ (x11_1 : Int) := of_decide_eq_true (by first | (with_reducible assumption) | assumption)
                  have q129 : x11_1 < (l0.length : Int) := of_decide_eq_true (by first | (with_reducible assumption) | assumption)
                  obtain ⟨ad129, e129, hx129_0⟩ := Kd.at_int HR0.out x11_1 p129 q129
                  cases e129
                  replace p129 := eq_true p129
                  replace q129 := eq_true q129
                  have p130 : 0 ≤ (x11_1 : Int) := of_decide_eq_true (by first | (with_reducible assumption) | assumption)
                  have q130 : x11_1 < (l1.length : Int) := of_decide_eq_true (by first | (with_reducible assumption) | assumption)
                  obtain ⟨ad130, e130, hx130_0⟩ := Kd.at_int HR1.out x11_1 p130 q130
                  cases e130
                  replace p130 := eq_true p130
                  replace q130 := eq_true q130
                  go_wp2_with (first | ((with_reducible refine gate_callee (f := 50) rfl ?_); refine goesL_ (some 26) rfl rfl Try.func50 (by kernel_rfl) rfl #[.int .u16 (rd l0 x11_1), .int .u16 (rd l1 x11_1)] rfl (by (try simp only [List.map_toArray, List.map_cons, List.map_nil]); first | done | rfl | (simp only [List.length_drop, List.length_take]; rfl)) ?_; (with_reducible refine (cmp_Compare_uint16.calls (rd l0 x11_1) (rd l1 x11_1) t131 _ A8.out).mono ?_); rintro e w' ⟨rfl, ⟨nd, rfl⟩⟩; refine ⟨_, rfl, ?_⟩))
                  go_roundg k1
                  case measure => have := HK1.out; omega
                  case rel => exact ⟨(wrap64 (x11_1 + 1)), (by first | rfl | (simp; done) | (simp [*]; done)), H', ⟨by have := HK1.out; omega⟩, by repeat (first | exact Drawn0.refl _ | apply Drawn0.step)⟩
                · rw [if_neg c9] at H
                  have c9b0 : (t131 == 0) = false := beq_eq_false_iff_ne.mpr c9
                  have c9b1 : (t131 != 0) = true := bne_iff_ne.mpr c9
                  obtain rfl := Option.some.inj H
                  have p129 : 0 ≤ (x11_1 : Int) := of_decide_eq_true (by first | (with_reducible assumption) | assumption)
                  have q129 : x11_1 < (l0.length : Int) := of_decide_eq_true (by first | (with_reducible assumption) | assumption)
                  obtain ⟨ad129, e129, hx129_0⟩ := Kd.at_int HR0.out x11_1 p129 q129
                  cases e129
                  replace p129 := eq_true p129
                  replace q129 := eq_true q129
                  have p130 : 0 ≤ (x11_1 : Int) := of_decide_eq_true (by first | (with_reducible assumption) | assumption)
                  have q130 : x11_1 < (l1.length : Int) := of_decide_eq_true (by first | (with_reducible assumption) | assumption)
                  obtain ⟨ad130, e130, hx130_0⟩ := Kd.at_int HR1.out x11_1 p130 q130
                  cases e130
                  replace p130 := eq_true p130
                  replace q130 := eq_true q130
                  go_wp2_with (first | ((with_reducible refine gate_callee (f := 50) rfl ?_); refine goesL_ (some 26) rfl rfl Try.func50 (by kernel_rfl) rfl #[.int .u16 (rd l0 x11_1), .int .u16 (rd l1 x11_1)] rfl (by (try simp only [List.map_toArray, List.map_cons, List.map_nil]); first | done | rfl | (simp only [List.length_drop, List.length_take]; rfl)) ?_; (with_reducible refine (cmp_Compare_uint16.calls (rd l0 x11_1) (rd l1 x11_1) t131 _ A8.out).mono ?_); rintro e w' ⟨rfl, ⟨nd, rfl⟩⟩; refine ⟨_, rfl, ?_⟩))
                  go_ret
                  exact ⟨by first | rfl | (simp; done) | (simp [*]; done), by repeat (first | exact Drawn0.refl _ | apply Drawn0.step)⟩
              · rw [if_neg c7] at H
                exact absurd H (by simp)
          · rw [if_neg c5] at H
            exact absurd H (by simp)
        · rw [if_neg c4] at H
          exact absurd H (by simp)
      · rw [if_neg c3] at H
        have c3b0 : decide (x11_1 < (l0.length : Int)) = false := decide_eq_false c3
        clear c3
        by_cases c10 : (l0.length : Int) < (l1.length : Int)
        · rw [if_pos c10] at H
          have c10b0 : decide ((l0.length : Int) < (l1.length : Int)) = true := decide_eq_true c10
          have c10b1 : decide (l0.length < l1.length) = true := decide_eq_true (Int.ofNat_lt.mp c10)
          clear c10
          obtain rfl := Option.some.inj H
          go_wp2
          go_ret
          exact ⟨by first | rfl | (simp; done) | (simp [*]; done), by repeat (first | exact Drawn0.refl _ | apply Drawn0.step)⟩
        · rw [if_neg c10] at H
          have c10b0 : decide ((l0.length : Int) < (l1.length : Int)) = false := decide_eq_false c10
          have c10b1 : decide (l0.length < l1.length) = false := decide_eq_false (fun h => c10 (Int.ofNat_lt.mpr h))
          clear c10
          obtain rfl := Option.some.inj H
          go_wp2
          go_ret
          exact ⟨by first | rfl | (simp; done) | (simp [*]; done), by repeat (first | exact Drawn0.refl _ | apply Drawn0.step)⟩

-- NOT PRINTED: function 51 (utf16_units)

/-! ### scalar_Is: function 59 -/
def scalar_Is.f (a0 : Int) : Option (Bool) := if a0 ≥ 0 then (if a0 ≤ 1114111 then (if a0 < 55296 then (some true) else (some (decide (a0 > 57343)))) else (some false)) else (some false)
set_option maxHeartbeats 8000000 in
set_option maxRecDepth 100000 in
theorem scalar_Is.calls (a0 : Int) (r : Bool) (w : World) (h : scalar_Is.f a0 = some r) :
    Calls Try.prog 59 #[.int .i32 a0] w fun e w' => e = .returned (.bool r) ∧ Drawn0 w w' := by
  have H : (if a0 ≥ 0 then (if a0 ≤ 1114111 then (if a0 < 55296 then (some true) else (some (decide (a0 > 57343)))) else (some false)) else (some false)) = some r := h
  clear h
  by_cases c2 : a0 ≥ 0
  · rw [if_pos c2] at H
    have c2b0 : decide (0 ≤ a0) = true := decide_eq_true c2
    clear c2
    by_cases c3 : a0 ≤ 1114111
    · rw [if_pos c3] at H
      have c3b0 : decide (a0 ≤ 1114111) = true := decide_eq_true c3
      clear c3
      by_cases c4 : a0 < 55296
      · rw [if_pos c4] at H
        have c4b0 : decide (a0 < 55296) = true := decide_eq_true c4
        clear c4
        obtain rfl := Option.some.inj H
        go_enter Try.func59, Try.ntmps59
        go_wp2
        go_ret
        exact ⟨by first | rfl | (simp; done) | (simp [*]; done), by repeat (first | exact Drawn0.refl _ | apply Drawn0.step)⟩
      · rw [if_neg c4] at H
        have c4b0 : decide (a0 < 55296) = false := decide_eq_false c4
        clear c4
        obtain rfl := Option.some.inj H
        go_enter Try.func59, Try.ntmps59
        go_wp2
        go_ret
        exact ⟨by first | rfl | (simp; done) | (simp [*]; done), by repeat (first | exact Drawn0.refl _ | apply Drawn0.step)⟩
    · rw [if_neg c3] at H
      have c3b0 : decide (a0 ≤ 1114111) = false := decide_eq_false c3
      clear c3
      obtain rfl := Option.some.inj H
      go_enter Try.func59, Try.ntmps59
      go_wp2
      go_ret
      exact ⟨by first | rfl | (simp; done) | (simp [*]; done), by repeat (first | exact Drawn0.refl _ | apply Drawn0.step)⟩
  · rw [if_neg c2] at H
    have c2b0 : decide (0 ≤ a0) = false := decide_eq_false c2
    clear c2
    obtain rfl := Option.some.inj H
    go_enter Try.func59, Try.ntmps59
    go_wp2
    go_ret
    exact ⟨by first | rfl | (simp; done) | (simp [*]; done), by repeat (first | exact Drawn0.refl _ | apply Drawn0.step)⟩

/-! ### scalar_Units: function 60 -/
def scalar_Units.f (a0 : Int) : Option (Int) := (scalar_Is.f a0).bind fun t132 => (if t132 = true then (if a0 ≥ 65536 then (some ((0 + 1) + 1)) else (some (0 + 1))) else (some 0))
set_option maxHeartbeats 8000000 in
set_option maxRecDepth 100000 in
theorem scalar_Units.calls (a0 : Int) (r : Int) (w : World) (h : scalar_Units.f a0 = some r) :
    Calls Try.prog 60 #[.int .i32 a0] w fun e w' => e = .returned (.int .i64 r) ∧ Drawn0 w w' := by
  have H : ((scalar_Is.f a0).bind fun t132 => (if t132 = true then (if a0 ≥ 65536 then (some ((0 + 1) + 1)) else (some (0 + 1))) else (some 0))) = some r := h
  clear h
  replace H := Option.bind_eq_some_iff.mp H
  obtain ⟨t132, A20, H⟩ := H
  replace H : (if t132 = true then (if a0 ≥ 65536 then (some ((0 + 1) + 1)) else (some (0 + 1))) else (some 0)) = some r := H
  have A2 := Aside0.mk A20
  clear A20
  by_cases c3 : t132 = true
  · subst c3
    have H1 : (if a0 ≥ 65536 then (some ((0 + 1) + 1)) else (some (0 + 1))) = some r := by rw [if_pos rfl] at H; exact H
    clear H
    have H := H1
    clear H1
    by_cases c4 : a0 ≥ 65536
    · rw [if_pos c4] at H
      have c4b0 : decide (65536 ≤ a0) = true := decide_eq_true c4
      clear c4
      obtain rfl := Option.some.inj H
      go_enter Try.func60, Try.ntmps60
      go_wp2_with (first | ((with_reducible refine gate_callee (f := 59) rfl ?_); refine goesL_ (some 6) rfl rfl Try.func59 (by kernel_rfl) rfl #[.int .i32 a0] rfl (by (try simp only [List.map_toArray, List.map_cons, List.map_nil]); first | done | rfl | (simp only [List.length_drop, List.length_take]; rfl)) ?_; (with_reducible refine (scalar_Is.calls a0 true _ A2.out).mono ?_); rintro e w' ⟨rfl, ⟨nd, rfl⟩⟩; refine ⟨_, rfl, ?_⟩))
      go_ret
      exact ⟨by first | rfl | (simp; done) | (simp [*]; done), by repeat (first | exact Drawn0.refl _ | apply Drawn0.step)⟩
    · rw [if_neg c4] at H
      have c4b0 : decide (65536 ≤ a0) = false := decide_eq_false c4
      clear c4
      obtain rfl := Option.some.inj H
      go_enter Try.func60, Try.ntmps60
      go_wp2_with (first | ((with_reducible refine gate_callee (f := 59) rfl ?_); refine goesL_ (some 6) rfl rfl Try.func59 (by kernel_rfl) rfl #[.int .i32 a0] rfl (by (try simp only [List.map_toArray, List.map_cons, List.map_nil]); first | done | rfl | (simp only [List.length_drop, List.length_take]; rfl)) ?_; (with_reducible refine (scalar_Is.calls a0 true _ A2.out).mono ?_); rintro e w' ⟨rfl, ⟨nd, rfl⟩⟩; refine ⟨_, rfl, ?_⟩))
      go_ret
      exact ⟨by first | rfl | (simp; done) | (simp [*]; done), by repeat (first | exact Drawn0.refl _ | apply Drawn0.step)⟩
  · replace c3 := Bool.eq_false_iff.mpr c3
    subst c3
    have H1 : (some 0) = some r := by rw [if_neg (show ¬ (false = true) by decide)] at H; exact H
    clear H
    have H := H1
    clear H1
    obtain rfl := Option.some.inj H
    go_enter Try.func60, Try.ntmps60
    go_wp2_with (first | ((with_reducible refine gate_callee (f := 59) rfl ?_); refine goesL_ (some 6) rfl rfl Try.func59 (by kernel_rfl) rfl #[.int .i32 a0] rfl (by (try simp only [List.map_toArray, List.map_cons, List.map_nil]); first | done | rfl | (simp only [List.length_drop, List.length_take]; rfl)) ?_; (with_reducible refine (scalar_Is.calls a0 false _ A2.out).mono ?_); rintro e w' ⟨rfl, ⟨nd, rfl⟩⟩; refine ⟨_, rfl, ?_⟩))
    go_ret
    exact ⟨by first | rfl | (simp; done) | (simp [*]; done), by repeat (first | exact Drawn0.refl _ | apply Drawn0.step)⟩

/-! ### scalar_Split: function 58 -/
def scalar_Split.f (a0 : Int) : Option (Int × Int × Bool) := (scalar_Units.f a0).bind fun t133 => (if t133 = 2 then (some (IntKind.u16.wrap (wrap32 (55296 + ((wrap32 (a0 - 65536)) / 1024))), IntKind.u16.wrap (wrap32 (56320 + (Go.bits .and .i32 (wrap32 (a0 - 65536)) 1023))), true)) else (some (0, 0, false)))
set_option maxHeartbeats 8000000 in
set_option maxRecDepth 100000 in
theorem scalar_Split.calls (a0 : Int) (r1 : Int) (r2 : Int) (r3 : Bool) (w : World) (h : scalar_Split.f a0 = some (r1, r2, r3)) :
    Calls Try.prog 58 #[.int .i32 a0] w fun e w' => e = .returned (.tuple #[.int .u16 r1, .int .u16 r2, .bool r3]) ∧ Drawn0 w w' := by
  have H : ((scalar_Units.f a0).bind fun t133 => (if t133 = 2 then (some (IntKind.u16.wrap (wrap32 (55296 + ((wrap32 (a0 - 65536)) / 1024))), IntKind.u16.wrap (wrap32 (56320 + (Go.bits .and .i32 (wrap32 (a0 - 65536)) 1023))), true)) else (some (0, 0, false)))) = some (r1, r2, r3) := h
  clear h
  replace H := Option.bind_eq_some_iff.mp H
  obtain ⟨t133, A20, H⟩ := H
  replace H : (if t133 = 2 then (some (IntKind.u16.wrap (wrap32 (55296 + ((wrap32 (a0 - 65536)) / 1024))), IntKind.u16.wrap (wrap32 (56320 + (Go.bits .and .i32 (wrap32 (a0 - 65536)) 1023))), true)) else (some (0, 0, false))) = some (r1, r2, r3) := H
  have A2 := Aside0.mk A20
  clear A20
  by_cases c3 : t133 = 2
  · rw [if_pos c3] at H
    have c3b0 : (t133 == 2) = true := beq_iff_eq.mpr c3
    have c3b1 : (t133 != 2) = false := bne_eq_false_iff_eq.mpr c3
    clear c3
    simp only [Option.some.injEq, Prod.mk.injEq] at H
    obtain ⟨rfl, rfl, rfl⟩ := H
    go_enter Try.func58, Try.ntmps58
    go_wp2_with (first | ((with_reducible refine gate_callee (f := 60) rfl ?_); refine goesL_ (some 6) rfl rfl Try.func60 (by kernel_rfl) rfl #[.int .i32 a0] rfl (by (try simp only [List.map_toArray, List.map_cons, List.map_nil]); first | done | rfl | (simp only [List.length_drop, List.length_take]; rfl)) ?_; (with_reducible refine (scalar_Units.calls a0 t133 _ A2.out).mono ?_); rintro e w' ⟨rfl, ⟨nd, rfl⟩⟩; refine ⟨_, rfl, ?_⟩))
    go_ret3
    exact ⟨by first | rfl | (simp; done) | (simp [*]; done), by repeat (first | exact Drawn0.refl _ | apply Drawn0.step)⟩
  · rw [if_neg c3] at H
    have c3b0 : (t133 == 2) = false := beq_eq_false_iff_ne.mpr c3
    have c3b1 : (t133 != 2) = true := bne_iff_ne.mpr c3
    simp only [Option.some.injEq, Prod.mk.injEq] at H
    obtain ⟨rfl, rfl, rfl⟩ := H
    go_enter Try.func58, Try.ntmps58
    go_wp2_with (first | ((with_reducible refine gate_callee (f := 60) rfl ?_); refine goesL_ (some 6) rfl rfl Try.func60 (by kernel_rfl) rfl #[.int .i32 a0] rfl (by (try simp only [List.map_toArray, List.map_cons, List.map_nil]); first | done | rfl | (simp only [List.length_drop, List.length_take]; rfl)) ?_; (with_reducible refine (scalar_Units.calls a0 t133 _ A2.out).mono ?_); rintro e w' ⟨rfl, ⟨nd, rfl⟩⟩; refine ⟨_, rfl, ?_⟩))
    go_ret3
    exact ⟨by first | rfl | (simp; done) | (simp [*]; done), by repeat (first | exact Drawn0.refl _ | apply Drawn0.step)⟩

/-! ### utf16_Units: function 42 -/
/-- A scalar's units. -/
def utf16_Units.of (c : Int) : List Int :=
  match scalar_Split.f c, scalar_Is.f c with
  | some (h, l, two), some true => if two = true then [h, l] else [IntKind.u16.wrap c]
  | _, _ => []
def utf16_Units.f (l0 : List Int) : Option (List Int) := if (∀ c ∈ l0, (scalar_Split.f c).isSome = true ∧ (scalar_Is.f c).isSome = true) ∧ l0.length < 1000000000000 then some (l0.flatMap utf16_Units.of) else none
section
open Go.Shelf
attribute [local go_sem] Oper.semAt_some
theorem utf16_Units.h_grownBy_drawn {w w' : World} (h : Drawn0 w w') : w.grownBy w' none := by
  obtain ⟨n, rfl⟩ := h.out
  exact ⟨rfl, rfl, rfl, Nat.le_refl _, fun _ _ _ => rfl⟩
theorem utf16_Units.h_units_in (n : Nat) (w : World) (A : Option Addr) (len cap : Nat) :
    CallsIn Fence.wide n Try.prog 51 #[.slice A len cap] w fun e w' => e = .returned (.func (.func 57) #[] #[.pointer (some ⟨w.heap.size, 0, none⟩)]) ∧ w' = w.alloc (.cells #[.slice A len cap] 39) := by
  refine callsIn_of_wp Try.func51 rfl trivial ?_ rfl
  simp only [Try.ntmps51, List.size_toArray, List.length_cons, List.length_nil, Nat.reduceAdd, Nat.reduceSub, Array.replicate_succ, Array.replicate_zero, List.push_toArray, List.append_toArray, List.nil_append, List.cons_append]
  gi_wp2
  go_ret
  exact ⟨rfl, rfl⟩
def utf16_Units.h_upU (zs : List Int) (k : Nat) : List Int := (zs.take k).flatMap utf16_Units.of
theorem utf16_Units.h_of_len (c : Int) : (utf16_Units.of c).length ≤ 2 := by
  unfold utf16_Units.of
  split
  · split <;> simp
  · simp
theorem utf16_Units.h_flat_len (xs : List Int) : (xs.flatMap utf16_Units.of).length ≤ 2 * xs.length := by
  induction xs with
  | nil => simp
  | cons x r ih =>
    have := utf16_Units.h_of_len x
    simp only [List.flatMap_cons, List.length_append, List.length_cons]
    omega
theorem utf16_Units.h_upU_len (zs : List Int) (k : Nat) : (utf16_Units.h_upU zs k).length ≤ 2 * k := by
  have := utf16_Units.h_flat_len (zs.take k)
  rw [List.length_take] at this
  unfold utf16_Units.h_upU
  omega
set_option maxRecDepth 100000 in
set_option maxHeartbeats 2000000 in
theorem utf16_Units.h_units1_in (n : Nat) (hn : 1 ≤ n) (l Bs n₀ cap : Nat) (ad : Addr) (zs : List Int) (hb : ad.block < n₀)  (hreach : zs.length < 1000000000000) (J Jx : List Int → World → Prop)
    (hok : ∀ c ∈ zs, (scalar_Split.f c).isSome = true ∧ (scalar_Is.f c).isSome = true)
    (W : World) (hn₀ : n₀ ≤ W.heap.size) (hJ : AbidesFrom W.heap.size J)
    (hY : ∀ pre x W, J pre W → pre.length < 2 * zs.length → YieldAt Fence.wide (n - 1) Try.prog l #[.int .u16 x] W fun e W' =>
      (e = .returned (.bool true) ∧ J (pre ++ [x]) W' ∧ Below n₀ W W') ∨ (e = .returned (.bool false) ∧ Jx (pre ++ [x]) W'))
    (hBs : W.cell? ⟨Bs, 0, none⟩ = some (.slice (some ad) zs.length cap)) (hc : ∀ j, j < zs.length → W.cell? (ad.add j) = some (.int .i32 (zs[j]?.getD 0))) (h0 : J [] W) :
    CallsIn Fence.wide n Try.prog 57 #[.func (.yield l) #[] #[], .pointer (some ⟨Bs, 0, none⟩)] W fun e W' => (∃ v, e = .returned v) ∧
      ((∃ ys, ys = utf16_Units.h_upU zs zs.length ∧ J ys W') ∨ (∃ pre, True ∧ Jx pre W')) := by
  refine callsIn_of_wp Try.func57 rfl trivial ?_ rfl
  simp only [Try.ntmps57, List.size_toArray, List.length_cons, List.length_nil, Nat.reduceAdd, Nat.reduceSub, Array.replicate_succ, Array.replicate_zero, List.push_toArray, List.append_toArray, List.nil_append, List.cons_append]
  gi_wp2
  gi_loopw [10] (fun i wr => ∃ k : Nat, k ≤ zs.length ∧ i = .int .i64 k ∧ J (utf16_Units.h_upU zs k) wr ∧ Below n₀ W wr)
    (fun i _ => zs.length - (intOf i).toNat)
  case atStart => exact ⟨0, Nat.zero_le _, rfl, h0, Below.refl _ _⟩
  case round =>
    obtain ⟨k, hk, rfl, hJs, hnx⟩ := hrel
    by_cases hlt : k < zs.length
    · obtain ⟨c, hc0⟩ : ∃ c, c = zs[k]?.getD 0 := ⟨_, rfl⟩
      have hmem : c ∈ zs := by rw [hc0, List.getElem?_eq_getElem hlt]; exact List.getElem_mem hlt
      obtain ⟨hs, hi⟩ := hok _ hmem
      obtain ⟨⟨h, lo, two⟩, hS⟩ := Option.isSome_iff_exists.mp hs
      obtain ⟨isb, hI⟩ := Option.isSome_iff_exists.mp hi
      have hcx : wr.cell? (ad.add k) = some (.int .i32 c) := by rw [hc0]; exact (hnx.cell (p := ad.add k) (by rw [add_block]; exact hb)).trans (hc k hlt)
      have hup : utf16_Units.h_upU zs (k + 1) = utf16_Units.h_upU zs k ++ utf16_Units.of c := by
        unfold utf16_Units.h_upU
        rw [List.take_add_one, List.getElem?_eq_getElem hlt, Option.toList_some, List.flatMap_append]
        rw [hc0, List.getElem?_eq_getElem hlt]
        simp
      have hul : (utf16_Units.h_upU zs k).length ≤ 2 * k := utf16_Units.h_upU_len zs k
      clear hc0 hs hi hmem
      cases isb with
      | false =>
        have hof : utf16_Units.of c = [] := by simp [utf16_Units.of, hS, hI]
        gi_wp2_with (first | (refine ⟨trivial, ?_⟩; gi_at_call 58; refine (callsIn_wide.2 (scalar_Split.calls _ _ _ _ _ hS)).mono ?_; rintro e w1 ⟨rfl, hd1⟩; have hJ1 := hJ _ _ _ none hJs (utf16_Units.h_grownBy_drawn hd1) (fun r e => by cases e); have hn1 := hd1.below) | (refine ⟨trivial, ?_⟩; gi_at_call 59; refine (callsIn_wide.2 (scalar_Is.calls _ _ _ hI)).mono ?_; rintro e w2 ⟨rfl, hd2⟩; have hJ2 := hJ _ _ _ none hJ1 (utf16_Units.h_grownBy_drawn hd2) (fun r e => by cases e); have hn2 := hd2.below))
        have hB2 : Below n₀ W w2 := (hnx.trans (hn1.mono (Nat.le_trans hn₀ hnx.size))).trans (hn2.mono (Nat.le_trans (Nat.le_trans hn₀ hnx.size) hn1.size))
        exact ⟨⟨k + 1, by omega, by simp, by rw [hup, hof, List.append_nil]; exact hJ2, hB2⟩, by simp [intOf]; omega⟩
      | true =>
        cases two with
        | false =>
          have hof : utf16_Units.of c = [IntKind.u16.wrap c] := by simp [utf16_Units.of, hS, hI]
          gi_wp2_with (first | (refine ⟨trivial, ?_⟩; gi_at_call 58; refine (callsIn_wide.2 (scalar_Split.calls _ _ _ _ _ hS)).mono ?_; rintro e w1 ⟨rfl, hd1⟩; have hJ1 := hJ _ _ _ none hJs (utf16_Units.h_grownBy_drawn hd1) (fun r e => by cases e); have hn1 := hd1.below) | (refine ⟨trivial, ?_⟩; gi_at_call 59; refine (callsIn_wide.2 (scalar_Is.calls _ _ _ hI)).mono ?_; rintro e w2 ⟨rfl, hd2⟩; have hJ2 := hJ _ _ _ none hJ1 (utf16_Units.h_grownBy_drawn hd2) (fun r e => by cases e); have hn2 := hd2.below; obtain ⟨fn, tmps, assign, body, hy, hR⟩ := hY _ (IntKind.u16.wrap c) w2 hJ2 (by omega)))
          have hB2 : Below n₀ W w2 := (hnx.trans (hn1.mono (Nat.le_trans hn₀ hnx.size))).trans (hn2.mono (Nat.le_trans (Nat.le_trans hn₀ hnx.size) hn1.size))
          refine hR.mono ?_
          rintro e W3 (⟨rfl, hJ3, hk3⟩ | ⟨rfl, hJx3⟩)
          · gi_wp2
            exact ⟨⟨k + 1, by omega, by simp, by rw [hup, hof]; exact hJ3, hB2.trans hk3⟩, by simp [intOf]; omega⟩
          · gi_wp2
            refine bodyPost_ret (results_none rfl _ _ _) rfl ?_
            exact ⟨⟨_, rfl⟩, .inr ⟨_, trivial, hJx3⟩⟩
        | true =>
          have hof : utf16_Units.of c = [h, lo] := by simp [utf16_Units.of, hS, hI]
          gi_wp2_with (first | (refine ⟨trivial, ?_⟩; gi_at_call 58; refine (callsIn_wide.2 (scalar_Split.calls _ _ _ _ _ hS)).mono ?_; rintro e w1 ⟨rfl, hd1⟩; have hJ1 := hJ _ _ _ none hJs (utf16_Units.h_grownBy_drawn hd1) (fun r e => by cases e); have hn1 := hd1.below) | (refine ⟨trivial, ?_⟩; gi_at_call 59; refine (callsIn_wide.2 (scalar_Is.calls _ _ _ hI)).mono ?_; rintro e w2 ⟨rfl, hd2⟩; have hJ2 := hJ _ _ _ none hJ1 (utf16_Units.h_grownBy_drawn hd2) (fun r e => by cases e); have hn2 := hd2.below; obtain ⟨fn, tmps, assign, body, hy, hR⟩ := hY _ h w2 hJ2 (by omega)))
          have hB2 : Below n₀ W w2 := (hnx.trans (hn1.mono (Nat.le_trans hn₀ hnx.size))).trans (hn2.mono (Nat.le_trans (Nat.le_trans hn₀ hnx.size) hn1.size))
          refine hR.mono ?_
          rintro e W3 (⟨rfl, hJ3, hk3⟩ | ⟨rfl, hJx3⟩)
          · obtain ⟨fn2, tmps2, assign2, body2, hy2, hR2⟩ := hY _ lo W3 hJ3 (by simp; omega)
            gi_wp2
            refine hR2.mono ?_
            rintro e W4 (⟨rfl, hJ4, hk4⟩ | ⟨rfl, hJx4⟩)
            · gi_wp2
              exact ⟨⟨k + 1, by omega, by simp, by rw [hup, hof]; simpa using hJ4, (hB2.trans hk3).trans hk4⟩, by simp [intOf]; omega⟩
            · gi_wp2
              refine bodyPost_ret (results_none rfl _ _ _) rfl ?_
              exact ⟨⟨_, rfl⟩, .inr ⟨_, trivial, hJx4⟩⟩
          · gi_wp2
            refine ⟨fun _ h => (by cases h), ?_⟩
            gi_wp2
            refine bodyPost_ret (results_none rfl _ _ _) rfl ?_
            exact ⟨⟨_, rfl⟩, .inr ⟨_, trivial, hJx3⟩⟩
    · obtain rfl : k = zs.length := by omega
      gi_wp2
      go_end0
      exact ⟨⟨_, rfl⟩, .inl ⟨_, rfl, hJs⟩⟩
set_option maxRecDepth 100000 in
set_option maxHeartbeats 1000000 in
theorem utf16_Units.h_units0_in (n : Nat) (l Bs cap : Nat) (A : Option Addr) (J : List Int → World → Prop) (W : World) (hBs : W.cell? ⟨Bs, 0, none⟩ = some (.slice A 0 cap)) (h0 : J [] W) :
    CallsIn Fence.wide n Try.prog 57 #[.func (.yield l) #[] #[], .pointer (some ⟨Bs, 0, none⟩)] W fun e W' => (∃ v, e = .returned v) ∧ J [] W' := by
  refine callsIn_of_wp Try.func57 rfl trivial ?_ rfl
  simp only [Try.ntmps57, List.size_toArray, List.length_cons, List.length_nil, Nat.reduceAdd, Nat.reduceSub, Array.replicate_succ, Array.replicate_zero, List.push_toArray, List.append_toArray, List.nil_append, List.cons_append]
  gi_wp2
  gi_loopw [10] (fun i wr => i = .int .i64 0 ∧ J [] wr) (fun _ _ => 0)
  case atStart => exact ⟨rfl, h0⟩
  case round =>
    obtain ⟨rfl, hJs⟩ := hrel
    gi_wp2
    go_end0
    exact ⟨⟨_, rfl⟩, hJs⟩
theorem utf16_Units.h_units_stops (n : Nat) (hn : 1 ≤ n) (Bs n₀ cap : Nat) (A : Option Addr) (zs : List Int) (hreach : zs.length < 1000000000000) (hok : ∀ c ∈ zs, (scalar_Split.f c).isSome = true ∧ (scalar_Is.f c).isSome = true)
    (w w0 : World) (hw0 : w0.heap.size = n₀) (hB : Below n₀ w0 w) (hBs : Bs < w.heap.size) (hcell : w.cell? ⟨Bs, 0, none⟩ = some (.slice A zs.length cap)) (hr : Kd.C (Kd.int .i32) w0 A zs.length zs) :
    SeqStopsK Fence.wide n Try.prog 57 #[.pointer (some ⟨Bs, 0, none⟩)] (fun x : Int => #[Value.int .u16 x]) (Below n₀) (fun ys => ys = zs.flatMap utf16_Units.of) (fun _ => True) (2 * zs.length) w := fun l J Jx W hW hJ _ hY h0 => by
  have hc' := (hW.cell (p := ⟨Bs, 0, none⟩) hBs).trans hcell
  have hn₀ : n₀ ≤ w.heap.size := by have := hB.size; omega
  obtain ⟨_, _, hrd⟩ := Kd.reads_of_C (enc := Value.int .i32) (d := (0 : Int)) (h1 := fun _ => rfl) hr
  by_cases hz : zs.length = 0
  · have hz' : zs = [] := List.length_eq_zero_iff.mp hz
    subst hz'
    exact (utf16_Units.h_units0_in n l Bs cap A J W hc' h0).mono fun e W' ⟨he, hj⟩ => ⟨he, .inl ⟨_, rfl, by simpa using hj⟩⟩
  · obtain ⟨ad, rfl, hcs⟩ := hrd (by omega)
    have h00 := hcs 0 (by omega)
    have hb : ad.block < n₀ := by
      have := World.block_lt_of_cell? _ _ h00
      rw [add_block] at this
      omega
    refine (utf16_Units.h_units1_in n hn l Bs n₀ cap ad zs hb hreach J Jx hok W (by have := hW.size; omega) hJ hY hc' (fun j hj => ?_) h0).mono ?_
    · have h1 := hcs j hj
      have h2 : w.cell? (ad.add j) = some (.int .i32 (zs.getD j 0)) := (hB.cell (p := ad.add j) (by rw [add_block]; exact hb)).trans h1
      have h3 := (hW.cell (p := ad.add j) (by rw [add_block]; omega)).trans h2
      simpa [List.getD_eq_getElem?_getD] using h3
    · rintro e W' ⟨he, ⟨ys, rfl, hj⟩ | ⟨pre, _, hj⟩⟩
      · exact ⟨he, .inl ⟨_, by simp [utf16_Units.h_upU], hj⟩⟩
      · exact ⟨he, .inr ⟨_, trivial, hj⟩⟩
theorem utf16_Units.h_info43u : (Try.prog.info? 59).map (fun i => (i.zero, i.size, i.bytes)) = some (some (.int .u16 0), 1, 2) := by kernel_rfl
set_option maxRecDepth 100000 in
set_option maxHeartbeats 2000000 in
theorem utf16_Units.h_Units_in (A : Option Addr) (c0 : Nat) (zs : List Int) (w : World) (hr0 : Kd.C (Kd.int .i32) w A zs.length zs) (hreach : zs.length < 1000000000000) (hok : ∀ c ∈ zs, (scalar_Split.f c).isSome = true ∧ (scalar_Is.f c).isSome = true) :
    CallsIn Fence.wide 3 Try.prog 42 #[.slice A zs.length c0] w fun e w' => ∃ v, e = .returned v ∧ w'.ownsRow w.heap.size 59 1 v (zs.flatMap utf16_Units.of).length ((zs.flatMap utf16_Units.of).map (Value.int .u16)) ∧ Below w.heap.size w w' := by
  obtain ⟨i0, hi, hz0, hz1, hz2⟩ := info_parts utf16_Units.h_info43u
  refine callsIn_of_wp_marks Try.func42 rfl trivial ?_ rfl
  simp only [Try.ntmps42, List.size_toArray, List.length_cons, List.length_nil, Nat.reduceAdd, Nat.reduceSub, Array.replicate_succ, Array.replicate_zero, List.push_toArray, List.append_toArray, List.nil_append, List.cons_append]
  have hr := run_make (P := Try.prog) w 57 59 i0 (.int .u16 0) Try.underlying57 hi hz0 .i64 .i64 0 (zs.length : Int) (by omega) (by omega) (by rw [hz2]; omega) (by omega)
  simp only [Int.toNat_natCast, Int.toNat_zero] at hr
  rw [hz1, Nat.mul_one] at hr
  obtain ⟨cells, hcells⟩ : ∃ cells, cells = madeCells (Value.int .u16 0).cells zs.length := ⟨_, rfl⟩
  rw [← hcells] at hr
  gi_wp2_with (refine ⟨trivial, ?_⟩; gi_at_call 51; refine (utf16_Units.h_units_in _ _ _ _ _).mono ?_; rintro e w' ⟨rfl, rfl⟩)
  have bO := Boxed.new (w.alloc (.cells (madeCells #[Value.int IntKind.u16 0] zs.length) 59)) 57 (.slice (some ⟨w.heap.size, 0, none⟩) 0 zs.length)
  have bN := Boxed.new ((w.alloc (.cells (madeCells #[Value.int IntKind.u16 0] zs.length) 59)).alloc (.cells #[.slice (some ⟨w.heap.size, 0, none⟩) 0 zs.length] 57)) 39 (.slice A zs.length c0)
  rw [World.size_alloc] at bO
  rw [World.size_alloc, World.size_alloc] at bN
  have hrow0 : (w.alloc (.cells (madeCells #[Value.int IntKind.u16 0] zs.length) 59)).ownsRow w.heap.size 59 1 (.slice (some ⟨w.heap.size, 0, none⟩) 0 zs.length) 0 [] :=
    World.ownsRow_made w (madeCells #[Value.int IntKind.u16 0] zs.length) zs.length (Nat.le_refl _) (by simp only [maxLen]; omega) (by simp [size_madeCells])
  have hB0 : Below w.heap.size w (((w.alloc (.cells (madeCells #[Value.int IntKind.u16 0] zs.length) 59)).alloc (.cells #[.slice (some ⟨w.heap.size, 0, none⟩) 0 zs.length] 57)).alloc (.cells #[.slice A zs.length c0] 39)) :=
    (((Below.refl _ w).alloc (Nat.le_refl _) _).alloc (by simp) _).alloc (by simp; omega) _
  clear hr
  refine wpIn_rangeFunc_ownG rfl (by omega) (gf := 57) (lb := #[.pointer (some ⟨w.heap.size + 1 + 1, 0, none⟩)]) rfl trivial (enters_of Try.func57 (by kernel_rfl) rfl)
    (utf16_Units.h_units_stops 2 (by omega) (w.heap.size + 1 + 1) w.heap.size c0 A zs hreach hok _ w rfl hB0 (by simp) bN.cell hr0) belowK_t (belowK_b (by simp; omega)) (Below.refl _ _) (fun _ => rfl)
    (fun (pre : List Int) W => (∃ v, Boxed W (w.heap.size + 1) 57 v ∧ W.ownsRow w.heap.size 59 1 v pre.length (pre.map (Value.int .u16)) ∧ True) ∧ Below w.heap.size w W)
    (fun _ _ _ => False)
    (OwnFrom.and (Own.from (holdsRow_own w.heap.size (w.heap.size + 1) 57 59 1 (fun pre : List Int => pre.length) (fun pre : List Int => pre.map (Value.int .u16)) (fun _ _ => True)) _) (ownFrom_below (Nat.le_refl _) (by simp; omega)))
    (fun _ _ _ _ _ hs _ _ => hs)
    ⟨⟨_, bO.alloc _, (hrow0.alloc _).alloc _, trivial⟩, hB0⟩
    (fun x => { tmps := #[.slice A zs.length c0, undef, .slice none 0 0, .pointer (some ⟨w.heap.size + 1, 0, none⟩), .int .u16 x, .slice A zs.length c0, .int .i64 zs.length, .slice (some ⟨w.heap.size, 0, none⟩) 0 zs.length, .slice A zs.length c0, .func (.func 57) #[] #[.pointer (some ⟨w.heap.size + 1 + 1, 0, none⟩)], .int .u16 x, undef, undef, undef, undef, undef], defers := [] }) ?assign ?body ?done ?stop
  case assign =>
    intro l x W K hK
    gi_wp2
    exact hK
  case body =>
    rintro l pre x W ⟨⟨v, hv, hrow, _⟩, hB⟩ hlt
    have hc := hv.cell
    gi_wp2_with (gi_at_builtin; refine wpListIn_append_own _ rfl _ _ 57 rfl w.heap.size 59 i0 (.int .u16 0) 1 2 Try.underlying57 hi hz0 hz1 hz2 rfl (by decide) _ _ _ rfl (hrow.alloc _) ⟨W.heap.size, 0, none⟩ 1 1 [.int .u16 x] rfl rfl (cell_one_new _ _ _) (by simp [Value.oneCell']) (by simp only [maxLen]; omega) (by omega) (by have := hB.size; simp; omega) ?_; intro v' w1 hown' hgrow _; obtain ⟨g', cap', rfl⟩ := ownsRow_succ hown'; obtain ⟨hv1, hv2, hr2, hk2, hb2⟩ := hv.appended (by decide) hrow hB.size (by omega) hown' hgrow; have hc1 := hv1.cell; have hf1 := hv1.frozen)
    exact ⟨hk2.from _, hb2, ⟨_, hv2, by simpa using hr2, trivial⟩, hB.trans hb2⟩
  case done =>
    rintro D ys W hD rfl ⟨⟨v, hv, hrow, _⟩, hB⟩ hK
    have hc := hv.cell
    gi_wp2
    refine ⟨by simp, .inl ⟨_, _, rfl, run_takeDeferred hK, ?_⟩⟩
    exact ⟨_, results_tmp rfl _ _ _, v, rfl, ownsRow_putObj hrow _ hK rfl, hB.trans (belowK_b (w := w) (Nat.le_refl _) W D _ _ (by simp at hD; omega) hK rfl rfl)⟩
  case stop =>
    rintro D c pre W _ _ h _
    exact h.elim
theorem utf16_Units.calls (A0 : Option Addr) (c0 : Nat) (l0 : List Int) (r : List Int) (w : World) (hr0 : Kd.C (Kd.int .i32) w A0 l0.length l0) (hc0 : l0.length ≤ c0) (h : utf16_Units.f l0 = some r) :
    Calls Try.prog 42 #[.slice A0 l0.length c0] w fun e w' => ∃ v0_ : Value, e = .returned (v0_) ∧ Kd.R (Kd.int .u16) 59 w' w.heap.size (fun _ => True) v0_ r ∧ Below w.heap.size w w' := by
  unfold utf16_Units.f at h
  split at h
  · rename_i hh
    injection h with h
    subst h
    refine ((callsIn_wide (n := 3)).1 (utf16_Units.h_Units_in A0 c0 l0 w hr0 hh.2 hh.1)).mono ?_
    rintro e w' ⟨v, rfl, ho, hb⟩
    exact ⟨v, rfl, Kd.R_of_own (h1 := fun _ => rfl) (ok := fun _ => True) ho (fun _ _ => trivial), hb⟩
  · cases h
end

/-! ### utf16_Compare: function 35 -/
def utf16_Compare.f (k : Nat) (l0 : List Int) (l1 : List Int) : Option (Int) := (utf16_Units.f l0).bind fun t134 => ((utf16_Units.f l1).bind fun t137 => ((slices_Compare_uint16_uint16.f k t134 t137).bind fun t140 => (some t140)))
theorem utf16_Compare.mono : ∀ a0 a1 k, LeO (utf16_Compare.f k a0 a1) (utf16_Compare.f (k + 1) a0 a1) := by
  intro a0 a1 k
  unfold utf16_Compare.f
  repeat' first
      | (with_reducible exact slices_Compare_uint16_uint16.mono _ _ _)
      | (with_reducible exact LeO.refl _)
      | (with_reducible exact LeO.none _)
      | (with_reducible refine LeO.ite ?_ ?_)
      | (with_reducible refine LeO.bind ?_ (fun _ => ?_))
      | exact slices_Compare_uint16_uint16.mono _ _ _
      | exact LeO.none _
      | refine LeO.ite ?_ ?_
      | refine LeO.bind ?_ (fun _ => ?_)
set_option maxHeartbeats 8000000 in
set_option maxRecDepth 100000 in
theorem utf16_Compare.calls (k : Nat) (A0 : Option Addr) (c0 : Nat) (l0 : List Int) (A1 : Option Addr) (c1 : Nat) (l1 : List Int) (r : Int) (w : World) (hr0 : Kd.C (Kd.int .i32) w A0 l0.length l0) (hc0 : l0.length ≤ c0) (hr1 : Kd.C (Kd.int .i32) w A1 l1.length l1) (hc1 : l1.length ≤ c1) (h : utf16_Compare.f k l0 l1 = some r) :
    Calls Try.prog 35 #[.slice A0 l0.length c0, .slice A1 l1.length c1] w fun e w' => e = .returned (.int .i64 r) ∧ Below w.heap.size w w' := by
  have HR0 := Aside0.mk hr0
  have HC0 := Aside0.mk hc0
  clear hr0 hc0
  have HR1 := Aside0.mk hr1
  have HC1 := Aside0.mk hc1
  clear hr1 hc1
  have HB := Aside0.mk (Below.refl w.heap.size w)
  have H : ((utf16_Units.f l0).bind fun t134 => ((utf16_Units.f l1).bind fun t137 => ((slices_Compare_uint16_uint16.f k t134 t137).bind fun t140 => (some t140)))) = some r := h
  clear h
  replace H := Option.bind_eq_some_iff.mp H
  obtain ⟨t134, A30, H⟩ := H
  replace H : ((utf16_Units.f l1).bind fun t137 => ((slices_Compare_uint16_uint16.f k t134 t137).bind fun t140 => (some t140))) = some r := H
  have A3 := Aside0.mk A30
  clear A30
  replace H := Option.bind_eq_some_iff.mp H
  obtain ⟨t137, A40, H⟩ := H
  replace H : ((slices_Compare_uint16_uint16.f k t134 t137).bind fun t140 => (some t140)) = some r := H
  have A4 := Aside0.mk A40
  clear A40
  replace H := Option.bind_eq_some_iff.mp H
  obtain ⟨t140, A50, H⟩ := H
  replace H : (some t140) = some r := H
  have A5 := Aside0.mk A50
  clear A50
  obtain rfl := Option.some.inj H
  go_enter Try.func35, Try.ntmps35
  go_wp2_with (first | ((with_reducible refine gate_callee (f := 42) rfl ?_); refine goesL_ (some 6) rfl rfl Try.func42 (by kernel_rfl) rfl #[.slice A0 l0.length c0] rfl (by (try simp only [List.map_toArray, List.map_cons, List.map_nil]); first | done | rfl | (simp only [List.length_drop, List.length_take]; rfl)) ?_; (with_reducible refine (utf16_Units.calls _ _ l0 t134 _ ?side1 ?side2 A3.out).mono ?_); (case side1 => repeat (first | exact HR0.out | (with_reducible refine Kd.C_alloc ?_ _) | (with_reducible refine Kd.C_drewN ?_ _) | (with_reducible refine Kd.C_drew ?_))); (case side2 => exact HC0.out); rintro e w6 ⟨v135, rfl, ho0, hb⟩; refine ⟨_, rfl, ?_⟩; have n0_ := Aside0.mk (Kd.R_lower ho0 (below_size (by repeat (first | (with_reducible first | exact HB.out | apply below_alloc | apply pw_below_drewN | apply below_drew1) | exact HB.out)))); have n1_ := Aside0.mk (below_step (by repeat (first | (with_reducible first | exact HB.out | apply below_alloc | apply pw_below_drewN | apply below_drew1) | exact HB.out)) hb); clear HB; have HO136 := n0_; have HB := n1_; clear n0_ n1_; (try clear hb); (try clear hb2); (try clear hk); (try clear hi); (try clear ho0)) | ((with_reducible refine gate_callee (f := 42) rfl ?_); refine goesL_ (some 8) rfl rfl Try.func42 (by kernel_rfl) rfl #[.slice A1 l1.length c1] rfl (by (try simp only [List.map_toArray, List.map_cons, List.map_nil]); first | done | rfl | (simp only [List.length_drop, List.length_take]; rfl)) ?_; (with_reducible refine (utf16_Units.calls _ _ l1 t137 _ ?side1 ?side2 A4.out).mono ?_); (case side1 => repeat (first | exact (Kd.C_below HR1.out HB.out) | (with_reducible refine Kd.C_alloc ?_ _) | (with_reducible refine Kd.C_drewN ?_ _) | (with_reducible refine Kd.C_drew ?_))); (case side2 => exact HC1.out); rintro e w7 ⟨v138, rfl, ho0, hb⟩; refine ⟨_, rfl, ?_⟩; have n0_ := Aside0.mk (Kd.R_elder' (by (with_reducible repeat (first | apply Kd.R_alloc | apply Kd.R_drewN | apply Kd.R_drew)); exact HO136.out) (Kd.R_base ho0) hb); have n1_ := Aside0.mk (Kd.R_lower (Kd.R_new' ho0 (Kd.R_lt (by (with_reducible repeat (first | apply Kd.R_alloc | apply Kd.R_drewN | apply Kd.R_drew)); exact HO136.out))) (below_size (by repeat (first | (with_reducible first | exact HB.out | apply below_alloc | apply pw_below_drewN | apply below_drew1) | exact HB.out)))); have n2_ := Aside0.mk (below_step (by repeat (first | (with_reducible first | exact HB.out | apply below_alloc | apply pw_below_drewN | apply below_drew1) | exact HB.out)) hb); clear HO136; clear HB; have HO136 := n0_; have HO139 := n1_; have HB := n2_; clear n0_ n1_ n2_; (try clear hb); (try clear hb2); (try clear hk); (try clear hi); (try clear ho0); obtain ⟨Ao8, co8, eo8⟩ := Kd.R_slice HO136.out; subst eo8; obtain ⟨Ao9, co9, eo9⟩ := Kd.R_slice HO139.out; subst eo9) | ((with_reducible refine gate_callee (f := 41) rfl ?_); refine goesL_ (some 9) rfl rfl Try.func41 (by kernel_rfl) rfl #[.slice Ao8 t134.length co8, .slice Ao9 t137.length co9] rfl (by (try simp only [List.map_toArray, List.map_cons, List.map_nil]); first | done | rfl | (simp only [List.length_drop, List.length_take]; rfl)) ?_; (with_reducible refine (slices_Compare_uint16_uint16.calls k _ _ t134 _ _ t137 t140 _ ?side1 ?side2 ?side3 ?side4 A5.out).mono ?_); (case side1 => repeat (first | exact (Kd.R_reads' HO136.out).2.2 | (with_reducible refine Kd.C_alloc ?_ _) | (with_reducible refine Kd.C_drewN ?_ _) | (with_reducible refine Kd.C_drew ?_))); (case side2 => exact (Kd.R_reads' HO136.out).2.1); (case side3 => repeat (first | exact (Kd.R_reads' HO139.out).2.2 | (with_reducible refine Kd.C_alloc ?_ _) | (with_reducible refine Kd.C_drewN ?_ _) | (with_reducible refine Kd.C_drew ?_))); (case side4 => exact (Kd.R_reads' HO139.out).2.1); rintro e w' ⟨rfl, ⟨nd, rfl⟩⟩; refine ⟨_, rfl, ?_⟩))
  go_ret
  exact ⟨by first | rfl | (simp [errW_none, errW_some] <;> rfl) | (simp [*, errW_none, errW_some] <;> rfl), by repeat (first | (with_reducible first | exact HB.out | apply below_alloc | apply pw_below_drewN | apply below_drew1) | exact HB.out)⟩

/-! ### order_less: function 24 -/
def order_less.f (k : Nat) (a0_0 : Int) (l0_1 : List Int) (a1_0 : Int) (l1_1 : List Int) : Option (Bool) := (utf16_Compare.f k l0_1 l1_1).bind fun t143 => (some (decide (t143 < 0)))
theorem order_less.mono : ∀ a0 a1 a2 a3 k, LeO (order_less.f k a0 a1 a2 a3) (order_less.f (k + 1) a0 a1 a2 a3) := by
  intro a0 a1 a2 a3 k
  unfold order_less.f
  repeat' first
      | (with_reducible exact utf16_Compare.mono _ _ _)
      | (with_reducible exact LeO.refl _)
      | (with_reducible exact LeO.none _)
      | (with_reducible refine LeO.ite ?_ ?_)
      | (with_reducible refine LeO.bind ?_ (fun _ => ?_))
      | exact utf16_Compare.mono _ _ _
      | exact LeO.none _
      | refine LeO.ite ?_ ?_
      | refine LeO.bind ?_ (fun _ => ?_)
set_option maxHeartbeats 8000000 in
set_option maxRecDepth 100000 in
theorem order_less.calls (k : Nat) (a0_0 : Int) (A0_1 : Option Addr) (c0_1 : Nat) (l0_1 : List Int) (a1_0 : Int) (A1_1 : Option Addr) (c1_1 : Nat) (l1_1 : List Int) (r : Bool) (w : World) (hr0_1 : Kd.C (Kd.int .i32) w A0_1 l0_1.length l0_1) (hc0_1 : l0_1.length ≤ c0_1) (hr1_1 : Kd.C (Kd.int .i32) w A1_1 l1_1.length l1_1) (hc1_1 : l1_1.length ≤ c1_1) (h : order_less.f k a0_0 l0_1 a1_0 l1_1 = some r) :
    Calls Try.prog 24 #[.agg #[.int .i64 a0_0, .slice A0_1 l0_1.length c0_1], .agg #[.int .i64 a1_0, .slice A1_1 l1_1.length c1_1]] w fun e w' => e = .returned (.bool r) ∧ Below w.heap.size w w' := by
  have hu45 := Try.underlying45
  have HR0_1 := Aside0.mk hr0_1
  have HC0_1 := Aside0.mk hc0_1
  clear hr0_1 hc0_1
  have HR1_1 := Aside0.mk hr1_1
  have HC1_1 := Aside0.mk hc1_1
  clear hr1_1 hc1_1
  have HB := Aside0.mk (Below.refl w.heap.size w)
  have H : ((utf16_Compare.f k l0_1 l1_1).bind fun t143 => (some (decide (t143 < 0)))) = some r := h
  clear h
  replace H := Option.bind_eq_some_iff.mp H
  obtain ⟨t143, A30, H⟩ := H
  replace H : (some (decide (t143 < 0))) = some r := H
  have A3 := Aside0.mk A30
  clear A30
  obtain rfl := Option.some.inj H
  go_enter Try.func24, Try.ntmps24
  go_wp2_with (first | ((with_reducible refine gate_dst (N := 2) rfl ?_); refine box_event ?hg (N := 2) ?hd (cs := #[.int .i64 a0_0, .slice A0_1 l0_1.length c0_1]) (t := 45) ?hr ?_; (case hd => rfl); (case hg => rfl); (case hr => first | (go_simp; done) | (go_simp; rfl)); intro gb141 hg w4 hbox hb; have n0_ := Aside0.mk (below_step (by repeat (first | (with_reducible first | exact HB.out | apply below_alloc | apply pw_below_drewN | apply below_drew1) | exact HB.out)) hb); have n1_ := Aside0.mk (hbox); have n2_ := Aside0.mk ((by rw [hg]; exact (below_size (by repeat (first | (with_reducible first | exact HB.out | apply below_alloc | apply pw_below_drewN | apply below_drew1) | exact HB.out))) : w.heap.size ≤ gb141)); have n3_ := Aside0.mk ((by rw [hg]; exact (below_size (by repeat (first | (with_reducible first | exact HB.out | apply below_alloc | apply pw_below_drewN | apply below_drew1) | exact HB.out))) : w.heap.size ≤ gb141)); clear HB; have HB := n0_; have BK141 := n1_; have GW141 := n2_; have GE141 := n3_; clear n0_ n1_ n2_ n3_; clear hb hbox hg) | ((with_reducible refine gate_dst (N := 3) rfl ?_); refine box_event ?hg (N := 3) ?hd (cs := #[.int .i64 a1_0, .slice A1_1 l1_1.length c1_1]) (t := 45) ?hr ?_; (case hd => rfl); (case hg => rfl); (case hr => first | (go_simp; done) | (go_simp; rfl)); intro gb142 hg w5 hbox hb; have n0_ := Aside0.mk (blk_below (g := gb141) (o := .cells #[.int .i64 a0_0, .slice A0_1 l0_1.length c0_1] 45 (0, 0)) (by (with_reducible repeat (first | refine blk_drewN ?_ _ | refine blk_drew ?_ | refine blk_alloc ?_ _)); exact BK141.out) hb); have n1_ := Aside0.mk (below_step (by repeat (first | (with_reducible first | exact HB.out | apply below_alloc | apply pw_below_drewN | apply below_drew1 | refine below_set ?_ GE141.out) | exact HB.out)) hb); have n2_ := Aside0.mk (hbox); have n3_ := Aside0.mk ((by rw [hg]; exact (below_size (by repeat (first | (with_reducible first | exact HB.out | apply below_alloc | apply pw_below_drewN | apply below_drew1 | refine below_set ?_ GE141.out) | exact HB.out))) : w.heap.size ≤ gb142)); have n4_ := Aside0.mk ((by rw [hg]; exact (below_size (by repeat (first | (with_reducible first | exact HB.out | apply below_alloc | apply pw_below_drewN | apply below_drew1 | refine below_set ?_ GE141.out) | exact HB.out))) : w.heap.size ≤ gb142)); have n5_ := Aside0.mk ((by rw [hg]; exact Nat.ne_of_lt (blk_lt (g := gb141) (o := .cells #[.int .i64 a0_0, .slice A0_1 l0_1.length c0_1] 45 (0, 0)) (by (with_reducible repeat (first | refine blk_drewN ?_ _ | refine blk_drew ?_ | refine blk_alloc ?_ _)); exact BK141.out)) : gb141 ≠ gb142)); have n6_ := Aside0.mk ((by rw [hg]; exact Nat.ne_of_gt (blk_lt (g := gb141) (o := .cells #[.int .i64 a0_0, .slice A0_1 l0_1.length c0_1] 45 (0, 0)) (by (with_reducible repeat (first | refine blk_drewN ?_ _ | refine blk_drew ?_ | refine blk_alloc ?_ _)); exact BK141.out)) : gb142 ≠ gb141)); clear BK141; clear HB; have BK141 := n0_; have HB := n1_; have BK142 := n2_; have GW142 := n3_; have GE142 := n4_; have NB141_142 := n5_; have NB142_141 := n6_; clear n0_ n1_ n2_ n3_ n4_ n5_ n6_; clear hb hbox hg; have hnb6 := NB141_142.out; have hnc6 := NB142_141.out; have hcz7_0 : w5.cell? ⟨gb141, 0, none⟩ = some (.int .i64 a0_0) := (blk_cell BK141.out 0).trans rfl; have hcz7_1 : w5.cell? ⟨gb141, 1, none⟩ = some (.slice A0_1 l0_1.length c0_1) := (blk_cell BK141.out 1).trans rfl; have hfz7_0 := blk_frozen BK141.out 0; have hfz7_1 := blk_frozen BK141.out 1; have hcz8_0 : w5.cell? ⟨gb142, 0, none⟩ = some (.int .i64 a1_0) := (blk_cell BK142.out 0).trans rfl; have hcz8_1 : w5.cell? ⟨gb142, 1, none⟩ = some (.slice A1_1 l1_1.length c1_1) := (blk_cell BK142.out 1).trans rfl; have hfz8_0 := blk_frozen BK142.out 0; have hfz8_1 := blk_frozen BK142.out 1) | ((with_reducible refine gate_callee (f := 35) rfl ?_); refine goesL_ (some 9) rfl rfl Try.func35 (by kernel_rfl) rfl #[.slice A0_1 l0_1.length c0_1, .slice A1_1 l1_1.length c1_1] rfl (by (try simp only [List.map_toArray, List.map_cons, List.map_nil]); first | done | rfl | (simp only [List.length_drop, List.length_take]; rfl)) ?_; (with_reducible refine (utf16_Compare.calls k _ _ l0_1 _ _ l1_1 t143 _ ?side1 ?side2 ?side3 ?side4 A3.out).mono ?_); (case side1 => repeat (first | exact (Kd.C_below HR0_1.out HB.out) | (with_reducible refine Kd.C_alloc ?_ _) | (with_reducible refine Kd.C_drewN ?_ _) | (with_reducible refine Kd.C_drew ?_))); (case side2 => exact HC0_1.out); (case side3 => repeat (first | exact (Kd.C_below HR1_1.out HB.out) | (with_reducible refine Kd.C_alloc ?_ _) | (with_reducible refine Kd.C_drewN ?_ _) | (with_reducible refine Kd.C_drew ?_))); (case side4 => exact HC1_1.out); rintro e w9 ⟨rfl, hb⟩; refine ⟨_, rfl, ?_⟩; have n0_ := Aside0.mk (blk_below (g := gb141) (o := .cells #[.int .i64 a0_0, .slice A0_1 l0_1.length c0_1] 45 (0, 0)) (by (with_reducible repeat (first | refine blk_drewN ?_ _ | refine blk_drew ?_ | refine blk_alloc ?_ _)); exact BK141.out) hb); have n1_ := Aside0.mk (blk_below (g := gb142) (o := .cells #[.int .i64 a1_0, .slice A1_1 l1_1.length c1_1] 45 (0, 0)) (by (with_reducible repeat (first | refine blk_drewN ?_ _ | refine blk_drew ?_ | refine blk_alloc ?_ _)); exact BK142.out) hb); have n2_ := Aside0.mk (below_step (by repeat (first | (with_reducible first | exact HB.out | apply below_alloc | apply pw_below_drewN | apply below_drew1 | refine below_set ?_ GE141.out | refine below_set ?_ GE142.out) | exact HB.out)) hb); clear BK141; clear BK142; clear HB; have BK141 := n0_; have BK142 := n1_; have HB := n2_; clear n0_ n1_ n2_; (try clear hb); (try clear hb2); (try clear hk); (try clear hi)))
  go_ret
  exact ⟨by first | rfl | (simp [errW_none, errW_some] <;> rfl) | (simp [*, errW_none, errW_some] <;> rfl), by repeat (first | (with_reducible first | exact HB.out | apply below_alloc | apply pw_below_drewN | apply below_drew1 | refine below_set ?_ GE141.out | refine below_set ?_ GE142.out) | exact HB.out)⟩

/-- A state of type 85 at block g of W; what its slices lead to came in by w0. -/
def IsS85 (w0 W : World) (g : Nat) (f0 : Int) (f1 : Int) (f2 : Int) (f3 : Int) : Prop := W.heap[g]? = some (.cells #[.int .u8 f0, .int .i32 f1, .int .i64 f2, .int .i64 f3] 85 (0, 0)) ∧ w0.heap.size ≤ g
theorem IsS85.grown {w0 W : World} {g : Nat} {f0 : Int} {f1 : Int} {f2 : Int} {f3 : Int} {W1 : World} {row : Option Nat} (h : IsS85 w0 W g f0 f1 f2 f3) (hw : W.grownBy W1 row) (hne : some g ≠ row) : IsS85 w0 W1 g f0 f1 f2 f3 := by
  obtain ⟨hb, hg⟩ := h
  exact ⟨blk_grown hb hw hne, hg⟩
theorem IsS85.fresh {w0 W : World} {g : Nat} {f0 : Int} {f1 : Int} {f2 : Int} {f3 : Int} (h : IsS85 w0 W g f0 f1 f2 f3) : ∀ k, W.heap.size ≤ k → k ≠ g := by
  obtain ⟨hb, hg⟩ := h
  exact Kd.freshB hb
theorem IsS85.below {w0 W : World} {g : Nat} {f0 : Int} {f1 : Int} {f2 : Int} {f3 : Int} {W1 : World} (h : IsS85 w0 W g f0 f1 f2 f3) (hw : Below W.heap.size W W1) : IsS85 w0 W1 g f0 f1 f2 f3 := h.grown (grown_of_below hw none) (by simp)
theorem IsS85.alloc {w0 W : World} {g : Nat} {f0 : Int} {f1 : Int} {f2 : Int} {f3 : Int} (h : IsS85 w0 W g f0 f1 f2 f3) (o : Obj) : IsS85 w0 (W.alloc o) g f0 f1 f2 f3 := h.below (below_alloc (Below.refl _ _) o)
theorem IsS85.drewN {w0 W : World} {g : Nat} {f0 : Int} {f1 : Int} {f2 : Int} {f3 : Int} (h : IsS85 w0 W g f0 f1 f2 f3) (m : Nat) : IsS85 w0 (W.drewN m) g f0 f1 f2 f3 := h
theorem IsS85.drew {w0 W : World} {g : Nat} {f0 : Int} {f1 : Int} {f2 : Int} {f3 : Int} (h : IsS85 w0 W g f0 f1 f2 f3) : IsS85 w0 W.drew g f0 f1 f2 f3 := h
theorem IsS85.at_ {w0 W : World} {g : Nat} {f0 : Int} {f1 : Int} {f2 : Int} {f3 : Int} {w' : World} {m : Nat} (hq : W.drewN m = w') (h : IsS85 w0 W g f0 f1 f2 f3) : IsS85 w0 w' g f0 f1 f2 f3 := by subst hq; exact IsS85.drewN h m
theorem IsS85.apart {w0 W : World} {g : Nat} {f0 : Int} {f1 : Int} {f2 : Int} {f3 : Int} {α : Type} {d : Kd α} {e : Nat} {base : Nat} {ok : Nat → Prop} {v : Value} {xs : List α} (h : IsS85 w0 W g f0 f1 f2 f3) (ho : d.R e W base ok v xs) (ht : ∀ q, q ∈ e :: d.E → q ≠ 85) : d.R e W base (fun k => ok k ∧ k ≠ g) v xs := by
  obtain ⟨hb, hg⟩ := h
  exact Kd.R_types ho hb ht
theorem IsS85.own_ne {w0 W : World} {g : Nat} {f0 : Int} {f1 : Int} {f2 : Int} {f3 : Int} {α : Type} {d : Kd α} {e : Nat} {base : Nat} {ok : Nat → Prop} {v : Value} {xs : List α} (h : IsS85 w0 W g f0 f1 f2 f3) (ho : d.R e W base ok v xs) (ht : e ≠ 85) : some g ≠ v.ownBlock := by
  obtain ⟨hb, hg⟩ := h
  exact Kd.R_ne ho hb ht
theorem IsS85.apartQ {w0 W : World} {g : Nat} {f0 : Int} {f1 : Int} {f2 : Int} {f3 : Int} {α : Type} {d : Kd α} {e : Nat} {base : Nat} {ok : Nat → Prop} {v : Value} {xs : List α} (h : IsS85 w0 W g f0 f1 f2 f3) (ho : d.Q e W base ok v xs) (ht : ∀ q, q ∈ e :: d.E → q ≠ 85) : d.Q e W base (fun k => ok k ∧ k ≠ g) v xs := by
  obtain ⟨hb, hg⟩ := h
  exact Kd.Q_types ho hb ht
theorem IsS85.own_neQ {w0 W : World} {g : Nat} {f0 : Int} {f1 : Int} {f2 : Int} {f3 : Int} {α : Type} {d : Kd α} {e : Nat} {base : Nat} {ok : Nat → Prop} {v : Value} {xs : List α} (h : IsS85 w0 W g f0 f1 f2 f3) (ho : d.Q e W base ok v xs) (ht : e ≠ 85) : some g ≠ v.ownBlock := by
  obtain ⟨hb, hg⟩ := h
  exact Kd.Q_ne ho hb ht
theorem IsS85.lt {w0 W : World} {g : Nat} {f0 : Int} {f1 : Int} {f2 : Int} {f3 : Int} (h : IsS85 w0 W g f0 f1 f2 f3) : g < W.heap.size := by
  obtain ⟨hb, hg⟩ := h
  exact blk_lt hb
theorem IsS85.ge {w0 W : World} {g : Nat} {f0 : Int} {f1 : Int} {f2 : Int} {f3 : Int} (h : IsS85 w0 W g f0 f1 f2 f3) : w0.heap.size ≤ g := by
  obtain ⟨hb, hg⟩ := h
  exact hg
theorem IsS85.ne_blk {w0 W : World} {g : Nat} {f0 : Int} {f1 : Int} {f2 : Int} {f3 : Int} {a : Nat} {cs : Array Value} {t : TypeId} {fr : Nat × Nat} (h : IsS85 w0 W g f0 f1 f2 f3) (hb2 : W.heap[a]? = some (.cells cs t fr)) (ht : t ≠ 85) : g ≠ a := by
  obtain ⟨hb, hg⟩ := h
  rintro rfl
  rw [hb] at hb2
  injection hb2 with hb2
  injection hb2 with _ ht2
  exact ht ht2.symm
theorem IsS85.far {w0 W : World} {g : Nat} {f0 : Int} {f1 : Int} {f2 : Int} {f3 : Int} {p : Addr} (h : IsS85 w0 W g f0 f1 f2 f3) (hne : g ≠ p.block) (u : Value) : IsS85 w0 (W.setCell p u) g f0 f1 f2 f3 := by
  obtain ⟨hb, hg⟩ := h
  exact ⟨blk_far hb hne u, hg⟩
theorem cellS85_0 {W : World} {g : Nat} {f0 : Int} {f1 : Int} {f2 : Int} {f3 : Int} (h : W.heap[g]? = some (.cells #[.int .u8 f0, .int .i32 f1, .int .i64 f2, .int .i64 f3] 85 (0, 0))) : W.cell? ⟨g, 0, none⟩ = some (.int .u8 f0) := (blk_cell h 0).trans rfl
theorem IsS85.set_0 {w0 W : World} {g : Nat} {f0 : Int} {f1 : Int} {f2 : Int} {f3 : Int} (h : IsS85 w0 W g f0 f1 f2 f3) (x : Int) : IsS85 w0 (W.setCell ⟨g, 0, none⟩ (.int .u8 x)) g x f1 f2 f3 := by
  obtain ⟨hb, hg⟩ := h
  exact ⟨by simpa using blk_set hb 0 (.int .u8 x), hg⟩
theorem cellS85_1 {W : World} {g : Nat} {f0 : Int} {f1 : Int} {f2 : Int} {f3 : Int} (h : W.heap[g]? = some (.cells #[.int .u8 f0, .int .i32 f1, .int .i64 f2, .int .i64 f3] 85 (0, 0))) : W.cell? ⟨g, 1, none⟩ = some (.int .i32 f1) := (blk_cell h 1).trans rfl
theorem IsS85.set_1 {w0 W : World} {g : Nat} {f0 : Int} {f1 : Int} {f2 : Int} {f3 : Int} (h : IsS85 w0 W g f0 f1 f2 f3) (x : Int) : IsS85 w0 (W.setCell ⟨g, 1, none⟩ (.int .i32 x)) g f0 x f2 f3 := by
  obtain ⟨hb, hg⟩ := h
  exact ⟨by simpa using blk_set hb 1 (.int .i32 x), hg⟩
theorem cellS85_2 {W : World} {g : Nat} {f0 : Int} {f1 : Int} {f2 : Int} {f3 : Int} (h : W.heap[g]? = some (.cells #[.int .u8 f0, .int .i32 f1, .int .i64 f2, .int .i64 f3] 85 (0, 0))) : W.cell? ⟨g, 2, none⟩ = some (.int .i64 f2) := (blk_cell h 2).trans rfl
theorem IsS85.set_2 {w0 W : World} {g : Nat} {f0 : Int} {f1 : Int} {f2 : Int} {f3 : Int} (h : IsS85 w0 W g f0 f1 f2 f3) (x : Int) : IsS85 w0 (W.setCell ⟨g, 2, none⟩ (.int .i64 x)) g f0 f1 x f3 := by
  obtain ⟨hb, hg⟩ := h
  exact ⟨by simpa using blk_set hb 2 (.int .i64 x), hg⟩
theorem cellS85_3 {W : World} {g : Nat} {f0 : Int} {f1 : Int} {f2 : Int} {f3 : Int} (h : W.heap[g]? = some (.cells #[.int .u8 f0, .int .i32 f1, .int .i64 f2, .int .i64 f3] 85 (0, 0))) : W.cell? ⟨g, 3, none⟩ = some (.int .i64 f3) := (blk_cell h 3).trans rfl
theorem IsS85.set_3 {w0 W : World} {g : Nat} {f0 : Int} {f1 : Int} {f2 : Int} {f3 : Int} (h : IsS85 w0 W g f0 f1 f2 f3) (x : Int) : IsS85 w0 (W.setCell ⟨g, 3, none⟩ (.int .i64 x)) g f0 f1 f2 x := by
  obtain ⟨hb, hg⟩ := h
  exact ⟨by simpa using blk_set hb 3 (.int .i64 x), hg⟩
theorem IsS85.new (w0 W : World) (f0 : Int) (f1 : Int) (f2 : Int) (f3 : Int) (hB : Below w0.heap.size w0 W) : IsS85 w0 (W.alloc (.cells #[.int .u8 f0, .int .i32 f1, .int .i64 f2, .int .i64 f3] 85)) W.heap.size f0 f1 f2 f3 := ⟨by simpa using heap_alloc_new W _, hB.size⟩

/-! ### utf8_New: function 43 -/
def utf8_New.f  : Option (Int × Int × Int × Int) := some (0, 0, 0, 0)
set_option maxHeartbeats 8000000 in
set_option maxRecDepth 100000 in
theorem utf8_New.calls  (r1 : Int) (r2 : Int) (r3 : Int) (r4 : Int) (w0 w : World) (hB : Below w0.heap.size w0 w) (h : utf8_New.f  = some (r1, r2, r3, r4)) :
    Calls Try.prog 43 #[] w fun e w' => ∃ g_ : Nat, e = .returned (.pointer (some ⟨g_, 0, none⟩)) ∧ IsS85 w0 w' g_ r1 r2 r3 r4 ∧ Below w0.heap.size w0 w' ∧ Below w.heap.size w w' := by
  have hu85 := Try.underlying85
  have HBW := Aside0.mk (Below.refl w.heap.size w)
  have HW0 := Aside0.mk hB.size
  have HB := Aside0.mk hB
  clear hB
  have H : (some (0, 0, 0, 0)) = some (r1, r2, r3, r4) := h
  clear h
  simp only [Option.some.injEq, Prod.mk.injEq] at H
  obtain ⟨rfl, rfl, rfl, rfl⟩ := H
  go_enter Try.func43, Try.ntmps43
  go_wp2_with (first | ((with_reducible refine gate_dst (N := 2) rfl ?_); refine box_event ?hg (N := 2) ?hd (cs := #[.int .u8 0, .int .i32 0, .int .i64 0, .int .i64 0]) (t := 85) ?hr ?_; (case hd => rfl); (case hg => rfl); (case hr => first | (go_simp; done) | (go_simp; rfl)); intro gb144 hg w1 hbox hb; have n0_ := Aside0.mk (below_step HBW.out hb); have n1_ := Aside0.mk (below_step (by repeat (first | (with_reducible first | exact HB.out | apply below_alloc | apply pw_below_drewN | apply below_drew1) | exact HB.out)) hb); have n2_ := Aside0.mk (hbox); have n3_ := Aside0.mk ((by rw [hg]; exact (below_size (by repeat (first | (with_reducible first | exact HBW.out | apply below_alloc | apply pw_below_drewN | apply below_drew1) | exact HBW.out))) : w.heap.size ≤ gb144)); have n4_ := Aside0.mk ((Nat.le_trans HW0.out (by rw [hg]; exact (below_size (by repeat (first | (with_reducible first | exact HBW.out | apply below_alloc | apply pw_below_drewN | apply below_drew1) | exact HBW.out))) : w.heap.size ≤ gb144) : w0.heap.size ≤ gb144)); clear HBW; clear HB; have HBW := n0_; have HB := n1_; have BK144 := n2_; have GW144 := n3_; have GE144 := n4_; clear n0_ n1_ n2_ n3_ n4_; clear hb hbox hg))
  go_ret
  exact ⟨_, rfl, (show IsS85 w0 _ gb144 0 0 0 0 from ⟨by (with_reducible repeat (first | refine blk_drewN ?_ _ | refine blk_drew ?_ | refine blk_alloc ?_ _)); exact BK144.out, GE144.out⟩), by repeat (first | (with_reducible first | exact HB.out | apply below_alloc | apply pw_below_drewN | apply below_drew1 | refine below_set ?_ GE144.out) | exact HB.out), by repeat (first | (with_reducible first | exact HBW.out | apply below_alloc | apply pw_below_drewN | apply below_drew1 | refine below_set ?_ GW144.out) | exact HBW.out)⟩

/-! ### utf8_size: function 52 -/
/-- Of how many bytes a scalar is that begins so. -/
def sizeV (x : Int) : Int := if x < 128 then 1 else if x < 194 then 0 else if x < 224 then 2 else if x < 240 then 3 else if x < 245 then 4 else 0
def utf8_size.f (a0 : Int) : Option (Int) := if 0 ≤ a0 ∧ a0 ≤ 255 then some (sizeV a0) else none
theorem utf8_size.table (a0 : Int) (h0 : 0 ≤ a0) (h1 : a0 ≤ 244) (h2 : a0 ≠ 192) (h3 : a0 ≠ 193) :
    ([.int .i64 1, .int .i64 1, .int .i64 1, .int .i64 1, .int .i64 1, .int .i64 1, .int .i64 1, .int .i64 1, .int .i64 1, .int .i64 1, .int .i64 1, .int .i64 1, .int .i64 1, .int .i64 1, .int .i64 1, .int .i64 1, .int .i64 0, .int .i64 0, .int .i64 0, .int .i64 0, .int .i64 0, .int .i64 0, .int .i64 0, .int .i64 0, .int .i64 2, .int .i64 2, .int .i64 2, .int .i64 2, .int .i64 3, .int .i64 3, .int .i64 4, .int .i64 0] : List Value)[(a0 / 8).toNat]? = some (.int .i64 (sizeV a0)) := by
  obtain ⟨j, hj⟩ : ∃ j, j = (a0 / 8).toNat := ⟨_, rfl⟩
  rw [← hj]
  have hs : sizeV a0 = if j < 16 then 1 else if j < 24 then 0 else if j < 28 then 2 else if j < 30 then 3 else 4 := by
    unfold sizeV
    (repeat' split) <;> first | rfl | (exfalso; omega)
  rw [hs]
  have hlt : j < 31 := by omega
  clear hs hj
  match j, hlt with
  | 0, _ => rfl
  | 1, _ => rfl
  | 2, _ => rfl
  | 3, _ => rfl
  | 4, _ => rfl
  | 5, _ => rfl
  | 6, _ => rfl
  | 7, _ => rfl
  | 8, _ => rfl
  | 9, _ => rfl
  | 10, _ => rfl
  | 11, _ => rfl
  | 12, _ => rfl
  | 13, _ => rfl
  | 14, _ => rfl
  | 15, _ => rfl
  | 16, _ => rfl
  | 17, _ => rfl
  | 18, _ => rfl
  | 19, _ => rfl
  | 20, _ => rfl
  | 21, _ => rfl
  | 22, _ => rfl
  | 23, _ => rfl
  | 24, _ => rfl
  | 25, _ => rfl
  | 26, _ => rfl
  | 27, _ => rfl
  | 28, _ => rfl
  | 29, _ => rfl
  | 30, _ => rfl
  | n + 31, h => exact absurd h (by omega)
theorem below_setRow {B : Nat} {w W : World} (h : Below B w W) (g : Nat) (cs : Array Value) (hg : B ≤ g) : Below B w (W.setRow g cs) :=
  ⟨h.os, h.tape, h.output, by rw [size_setRow]; exact h.size, fun i hi => (setRow_other W g i cs (by omega)).trans (h.block i hi)⟩
section
variable {P : Program} {ops : Array Oper} {rest : List Oper} {o : Oper} {a : Act} {Q : Exit → Act → World → Prop} {W : World}
theorem gate_build_ {t : TypeId} {xs : Array (Nat × Operand)} (_ho : o.op = .build t xs) (h : wpList P ops Q (o :: rest) a W) : wpList P ops Q (o :: rest) a W := h
theorem wpList_build_is_ (hg : o.guard = none) (t : TypeId) (parts : Array (Nat × Operand)) (ho : o.op = .build t parts) (cells : Array Value)
    (hf : P.built t (parts.map fun (i, x) => (i, a.eval x)).toList = some cells) (h : wpList P ops Q rest (a.put o.dst (.agg cells)) W) : wpList P ops Q (o :: rest) a W :=
  wpList_build hg t parts ho (by rw [hf]; rfl) (by rw [hf]; exact h)
end
set_option maxHeartbeats 8000000 in
set_option maxRecDepth 100000 in
theorem utf8_size.calls3 (a0 : Int) (w : World) (h0 : 0 ≤ a0) (h1 : a0 ≤ 255) (c1b : (a0 == 192) = false) (c2b : (a0 == 193) = false) (c3b : decide (244 < a0) = false) (hi : ([.int .i64 1, .int .i64 1, .int .i64 1, .int .i64 1, .int .i64 1, .int .i64 1, .int .i64 1, .int .i64 1, .int .i64 1, .int .i64 1, .int .i64 1, .int .i64 1, .int .i64 1, .int .i64 1, .int .i64 1, .int .i64 1, .int .i64 0, .int .i64 0, .int .i64 0, .int .i64 0, .int .i64 0, .int .i64 0, .int .i64 0, .int .i64 0, .int .i64 2, .int .i64 2, .int .i64 2, .int .i64 2, .int .i64 3, .int .i64 3, .int .i64 4, .int .i64 0] : List Value)[(a0 / 8).toNat]? = some (.int .i64 (sizeV a0))) :
    Calls Try.prog 52 #[.int .u8 a0] w fun e w' => e = .returned (.int .i64 (sizeV a0)) ∧ Below w.heap.size w w' := by
        have HI := Aside0.mk hi
        clear hi
        go_enter Try.func52, Try.ntmps52
        go_wp2_with (first | ((with_reducible refine gate_build_ (t := 90) rfl ?_); refine wpList_build_is_ rfl 90 _ rfl (#[.int .i64 1, .int .i64 1, .int .i64 1, .int .i64 1, .int .i64 1, .int .i64 1, .int .i64 1, .int .i64 1, .int .i64 1, .int .i64 1, .int .i64 1, .int .i64 1, .int .i64 1, .int .i64 1, .int .i64 1, .int .i64 1, .int .i64 0, .int .i64 0, .int .i64 0, .int .i64 0, .int .i64 0, .int .i64 0, .int .i64 0, .int .i64 0, .int .i64 2, .int .i64 2, .int .i64 2, .int .i64 2, .int .i64 3, .int .i64 3, .int .i64 4, .int .i64 0]) (by kernel_rfl) ?_) | ((with_reducible refine gate_store (t := 90) rfl ?_); refine wpList_store_row ?hg 90 (.tmp 3) (.tmp 14) ?ho w.heap.size (#[.int .i64 1, .int .i64 1, .int .i64 1, .int .i64 1, .int .i64 1, .int .i64 1, .int .i64 1, .int .i64 1, .int .i64 1, .int .i64 1, .int .i64 1, .int .i64 1, .int .i64 1, .int .i64 1, .int .i64 1, .int .i64 1, .int .i64 0, .int .i64 0, .int .i64 0, .int .i64 0, .int .i64 0, .int .i64 0, .int .i64 0, .int .i64 0, .int .i64 2, .int .i64 2, .int .i64 2, .int .i64 2, .int .i64 3, .int .i64 3, .int .i64 4, .int .i64 0]) ?hx ?hy 90 ?old ?hb ?hi ?hl ?h1 ?hn; (case hg => rfl); (case ho => rfl); (case hx => rfl); (case hy => rfl); (case hb => exact heap_alloc_new w _); (case hi => kernel_rfl); (case hl => rfl); (case h1 => kernel_rfl); (obtain ⟨W, hW⟩ : ∃ W, W = (w.alloc (.cells #[.int .i64 0, .int .i64 0, .int .i64 0, .int .i64 0, .int .i64 0, .int .i64 0, .int .i64 0, .int .i64 0, .int .i64 0, .int .i64 0, .int .i64 0, .int .i64 0, .int .i64 0, .int .i64 0, .int .i64 0, .int .i64 0, .int .i64 0, .int .i64 0, .int .i64 0, .int .i64 0, .int .i64 0, .int .i64 0, .int .i64 0, .int .i64 0, .int .i64 0, .int .i64 0, .int .i64 0, .int .i64 0, .int .i64 0, .int .i64 0, .int .i64 0, .int .i64 0] 90)).setRow w.heap.size (#[.int .i64 1, .int .i64 1, .int .i64 1, .int .i64 1, .int .i64 1, .int .i64 1, .int .i64 1, .int .i64 1, .int .i64 1, .int .i64 1, .int .i64 1, .int .i64 1, .int .i64 1, .int .i64 1, .int .i64 1, .int .i64 1, .int .i64 0, .int .i64 0, .int .i64 0, .int .i64 0, .int .i64 0, .int .i64 0, .int .i64 0, .int .i64 0, .int .i64 2, .int .i64 2, .int .i64 2, .int .i64 2, .int .i64 3, .int .i64 3, .int .i64 4, .int .i64 0]) := ⟨_, rfl⟩); (have hb : Below w.heap.size w W := by rw [hW]; exact below_setRow ((Below.refl _ _).alloc (Nat.le_refl _) _) _ _ (Nat.le_refl _)); (have hc : W.cell? ⟨w.heap.size, (a0 / 8).toNat, none⟩ = some (.int .i64 (sizeV a0)) := by rw [hW, cell_of_row _ _ _ _ _ _ (setRow_heap _ _ _ _ _ _ (heap_alloc_new w _))]; simpa using HI.out); rw [← hW]; clear hW))
        go_ret
        exact ⟨rfl, hb⟩
set_option maxHeartbeats 8000000 in
set_option maxRecDepth 100000 in
theorem utf8_size.calls (a0 : Int) (r : Int) (w : World) (h : utf8_size.f a0 = some r) :
    Calls Try.prog 52 #[.int .u8 a0] w fun e w' => e = .returned (.int .i64 r) ∧ Below w.heap.size w w' := by
  unfold utf8_size.f at h
  split at h
  case isFalse => cases h
  case isTrue hh =>
  obtain rfl := Option.some.inj h
  obtain ⟨h0, h1⟩ := hh
  clear h
  by_cases c1 : a0 = 192
  · subst c1
    go_enter Try.func52, Try.ntmps52
    go_wp2
    go_ret
    exact ⟨rfl, Below.refl _ _⟩
  · by_cases c2 : a0 = 193
    · subst c2
      go_enter Try.func52, Try.ntmps52
      go_wp2
      go_ret
      exact ⟨rfl, Below.refl _ _⟩
    · have c1b : (a0 == 192) = false := by simpa using c1
      have c2b : (a0 == 193) = false := by simpa using c2
      by_cases c3 : 244 < a0
      · have e : sizeV a0 = 0 := by unfold sizeV; (repeat' split) <;> first | rfl | (exfalso; omega)
        rw [e]
        clear e c1 c2
        have c3b : decide (244 < a0) = true := decide_eq_true c3
        go_enter Try.func52, Try.ntmps52
        go_wp2
        go_ret
        exact ⟨rfl, Below.refl _ _⟩
      · have c3b : decide (244 < a0) = false := decide_eq_false c3
        exact utf8_size.calls3 a0 w h0 h1 c1b c2b c3b (utf8_size.table a0 h0 (by omega) c1 c2)

/-! ### utf8_second: function 53 -/
def utf8_second.f (a0 : Int) (a1 : Int) : Option (Bool) := if a0 < 224 then (if a1 ≥ 128 then (some (decide (a1 ≤ 191))) else (some false)) else (if 0 ≤ ((a0 - 224) % 256) then (if ((a0 - 224) % 256) < 21 then (if a1 ≥ (bt (⟨#[160, 128, 128, 128, 128, 128, 128, 128, 128, 128, 128, 128, 128, 128, 128, 128, 144, 128, 128, 128, 128]⟩ : ByteArray) ((a0 - 224) % 256)) then (some (decide (a1 ≤ (bt (⟨#[191, 191, 191, 191, 191, 191, 191, 191, 191, 191, 191, 191, 191, 159, 191, 191, 191, 191, 191, 191, 143]⟩ : ByteArray) ((a0 - 224) % 256))))) else (some false)) else (none)) else (none))
set_option maxHeartbeats 8000000 in
set_option maxRecDepth 100000 in
theorem utf8_second.calls (a0 : Int) (a1 : Int) (r : Bool) (w : World) (h : utf8_second.f a0 a1 = some r) :
    Calls Try.prog 53 #[.int .u8 a0, .int .u8 a1] w fun e w' => e = .returned (.bool r) ∧ Drawn0 w w' := by
  have H : (if a0 < 224 then (if a1 ≥ 128 then (some (decide (a1 ≤ 191))) else (some false)) else (if 0 ≤ ((a0 - 224) % 256) then (if ((a0 - 224) % 256) < 21 then (if a1 ≥ (bt (⟨#[160, 128, 128, 128, 128, 128, 128, 128, 128, 128, 128, 128, 128, 128, 128, 128, 144, 128, 128, 128, 128]⟩ : ByteArray) ((a0 - 224) % 256)) then (some (decide (a1 ≤ (bt (⟨#[191, 191, 191, 191, 191, 191, 191, 191, 191, 191, 191, 191, 191, 159, 191, 191, 191, 191, 191, 191, 143]⟩ : ByteArray) ((a0 - 224) % 256))))) else (some false)) else (none)) else (none))) = some r := h
  clear h
  by_cases c3 : a0 < 224
  · rw [if_pos c3] at H
    have c3b0 : decide (a0 < 224) = true := decide_eq_true c3
    clear c3
    by_cases c4 : a1 ≥ 128
    · rw [if_pos c4] at H
      have c4b0 : decide (128 ≤ a1) = true := decide_eq_true c4
      clear c4
      obtain rfl := Option.some.inj H
      go_enter Try.func53, Try.ntmps53
      go_wp2
      go_ret
      exact ⟨by first | rfl | (simp; done) | (simp [*]; done), by repeat (first | exact Drawn0.refl _ | apply Drawn0.step)⟩
    · rw [if_neg c4] at H
      have c4b0 : decide (128 ≤ a1) = false := decide_eq_false c4
      clear c4
      obtain rfl := Option.some.inj H
      go_enter Try.func53, Try.ntmps53
      go_wp2
      go_ret
      exact ⟨by first | rfl | (simp; done) | (simp [*]; done), by repeat (first | exact Drawn0.refl _ | apply Drawn0.step)⟩
  · rw [if_neg c3] at H
    have c3b0 : decide (a0 < 224) = false := decide_eq_false c3
    clear c3
    obtain ⟨ji5, hji5⟩ : ∃ j_ : Int, ((a0 - 224) % 256) = j_ := ⟨_, rfl⟩
    replace H : (if 0 ≤ (ji5) then (if (ji5) < 21 then (if a1 ≥ (bt (⟨#[160, 128, 128, 128, 128, 128, 128, 128, 128, 128, 128, 128, 128, 128, 128, 128, 144, 128, 128, 128, 128]⟩ : ByteArray) (ji5)) then (some (decide (a1 ≤ (bt (⟨#[191, 191, 191, 191, 191, 191, 191, 191, 191, 191, 191, 191, 191, 159, 191, 191, 191, 191, 191, 191, 143]⟩ : ByteArray) (ji5))))) else (some false)) else (none)) else (none)) = some r := by first | (rw [hji5] at H; exact H) | (simp only [hji5] at H ⊢; exact H)
    by_cases c6 : 0 ≤ (ji5)
    · rw [if_pos c6] at H
      have c6b0 : decide (0 ≤ (ji5)) = true := decide_eq_true c6
      clear c6
      by_cases c7 : (ji5) < 21
      · rw [if_pos c7] at H
        have c7b0 : decide ((ji5) < 21) = true := decide_eq_true c7
        clear c7
        by_cases c9 : a1 ≥ (bt (⟨#[160, 128, 128, 128, 128, 128, 128, 128, 128, 128, 128, 128, 128, 128, 128, 128, 144, 128, 128, 128, 128]⟩ : ByteArray) (ji5))
        · rw [if_pos c9] at H
          have c9b0 : decide ((bt (⟨#[160, 128, 128, 128, 128, 128, 128, 128, 128, 128, 128, 128, 128, 128, 128, 128, 144, 128, 128, 128, 128]⟩ : ByteArray) (ji5)) ≤ a1) = true := decide_eq_true c9
          clear c9
          obtain rfl := Option.some.inj H
          have p8 : 0 ≤ ((ji5) : Int) := of_decide_eq_true (by first | (with_reducible assumption) | assumption)
          have q8 : (ji5) < (21 : Int) := of_decide_eq_true (by first | (with_reducible assumption) | assumption)
          have hx8 := bt_at (⟨#[160, 128, 128, 128, 128, 128, 128, 128, 128, 128, 128, 128, 128, 128, 128, 128, 144, 128, 128, 128, 128]⟩ : ByteArray) (ji5)
          replace p8 := eq_true p8
          replace q8 := eq_true q8
          have p10 : 0 ≤ ((ji5) : Int) := of_decide_eq_true (by first | (with_reducible assumption) | assumption)
          have q10 : (ji5) < (21 : Int) := of_decide_eq_true (by first | (with_reducible assumption) | assumption)
          have hx10 := bt_at (⟨#[191, 191, 191, 191, 191, 191, 191, 191, 191, 191, 191, 191, 191, 159, 191, 191, 191, 191, 191, 191, 143]⟩ : ByteArray) (ji5)
          replace p10 := eq_true p10
          replace q10 := eq_true q10
          go_enter Try.func53, Try.ntmps53
          go_wp2
          go_ret
          exact ⟨by first | rfl | (simp; done) | (simp only [← hji5] <;> (first | rfl | simp)) | (simp [*]; done), by repeat (first | exact Drawn0.refl _ | apply Drawn0.step)⟩
        · rw [if_neg c9] at H
          have c9b0 : decide ((bt (⟨#[160, 128, 128, 128, 128, 128, 128, 128, 128, 128, 128, 128, 128, 128, 128, 128, 144, 128, 128, 128, 128]⟩ : ByteArray) (ji5)) ≤ a1) = false := decide_eq_false c9
          clear c9
          obtain rfl := Option.some.inj H
          have p8 : 0 ≤ ((ji5) : Int) := of_decide_eq_true (by first | (with_reducible assumption) | assumption)
          have q8 : (ji5) < (21 : Int) := of_decide_eq_true (by first | (with_reducible assumption) | assumption)
          have hx8 := bt_at (⟨#[160, 128, 128, 128, 128, 128, 128, 128, 128, 128, 128, 128, 128, 128, 128, 128, 144, 128, 128, 128, 128]⟩ : ByteArray) (ji5)
          replace p8 := eq_true p8
          replace q8 := eq_true q8
          go_enter Try.func53, Try.ntmps53
          go_wp2
          go_ret
          exact ⟨by first | rfl | (simp; done) | (simp only [← hji5] <;> (first | rfl | simp)) | (simp [*]; done), by repeat (first | exact Drawn0.refl _ | apply Drawn0.step)⟩
      · rw [if_neg c7] at H
        exact absurd H (by simp)
    · rw [if_neg c6] at H
      exact absurd H (by simp)

end Go.Proofs.Ytajinnlaajhoeaa.PAll
