-- The machine's side of laws, written by a program of this session (wip/gen/pp.sh). Lean checks it.
import Derived.Test.YthgloaihgpcjjaaPAllx0
import Derived.Test.YthgloaihgpcjjaaPAllx1
namespace Go.Proofs.Ythgloaihgpcjjaa.PAll
open Go.RowKit Go.Proofs.YthgloaihgpcjjaaW.PrintWords Go.Proofs.YthgloaihgpcjjaaW.PrintLast Go.Proofs.YthgloaihgpcjjaaW.PrintMore
attribute [local go_sem] max2_int min2_int max_two min_two max_three min_three max_four min_four   -- for this text's walks alone
set_option linter.unusedVariables false
set_option linter.unusedSimpArgs false

/-! ### cmp_Compare_uint16: function 35 -/
def cmp_Compare_uint16.f (a0 : Int) (a1 : Int) : Option (Int) := (cmp_isNaN_uint16.f a0).bind fun t127 => ((cmp_isNaN_uint16.f a1).bind fun t128 => (if t127 = true then (if t128 = true then (some 0) else (some (-1))) else (if t128 = true then (some 1) else (if a0 < a1 then (some (-1)) else (if a0 > a1 then (some 1) else (some 0))))))
set_option maxHeartbeats 8000000 in
set_option maxRecDepth 100000 in
theorem cmp_Compare_uint16.calls (a0 : Int) (a1 : Int) (r : Int) (w : World) (h : cmp_Compare_uint16.f a0 a1 = some r) :
    Calls Try.prog 35 #[.int .u16 a0, .int .u16 a1] w fun e w' => e = .returned (.int .i64 r) ∧ Drawn0 w w' := by
  have H : ((cmp_isNaN_uint16.f a0).bind fun t127 => ((cmp_isNaN_uint16.f a1).bind fun t128 => (if t127 = true then (if t128 = true then (some 0) else (some (-1))) else (if t128 = true then (some 1) else (if a0 < a1 then (some (-1)) else (if a0 > a1 then (some 1) else (some 0))))))) = some r := h
  clear h
  replace H := Option.bind_eq_some_iff.mp H
  obtain ⟨t127, A30, H⟩ := H
  replace H : ((cmp_isNaN_uint16.f a1).bind fun t128 => (if t127 = true then (if t128 = true then (some 0) else (some (-1))) else (if t128 = true then (some 1) else (if a0 < a1 then (some (-1)) else (if a0 > a1 then (some 1) else (some 0)))))) = some r := H
  have A3 := Aside0.mk A30
  clear A30
  replace H := Option.bind_eq_some_iff.mp H
  obtain ⟨t128, A40, H⟩ := H
  replace H : (if t127 = true then (if t128 = true then (some 0) else (some (-1))) else (if t128 = true then (some 1) else (if a0 < a1 then (some (-1)) else (if a0 > a1 then (some 1) else (some 0))))) = some r := H
  have A4 := Aside0.mk A40
  clear A40
  by_cases c5 : t127 = true
  · subst c5
    have H1 : (if t128 = true then (some 0) else (some (-1))) = some r := by rw [if_pos rfl] at H; exact H
    clear H
    have H := H1
    clear H1
    by_cases c6 : t128 = true
    · subst c6
      have H1 : (some 0) = some r := by rw [if_pos rfl] at H; exact H
      clear H
      have H := H1
      clear H1
      obtain rfl := Option.some.inj H
      go_enter Try.func35, Try.ntmps35
      go_wp2_with (first | ((with_reducible refine gate_callee (f := 37) rfl ?_); refine goesL_ (some 8) rfl rfl Try.func37 (by kernel_rfl) rfl #[.int .u16 a0] rfl (by (try simp only [List.map_toArray, List.map_cons, List.map_nil]); first | done | rfl | (simp only [List.length_drop, List.length_take]; rfl)) ?_; (with_reducible refine (cmp_isNaN_uint16.calls a0 true _ A3.out).mono ?_); rintro e w' ⟨rfl, ⟨nd, rfl⟩⟩; refine ⟨_, rfl, ?_⟩) | ((with_reducible refine gate_callee (f := 37) rfl ?_); refine goesL_ (some 10) rfl rfl Try.func37 (by kernel_rfl) rfl #[.int .u16 a1] rfl (by (try simp only [List.map_toArray, List.map_cons, List.map_nil]); first | done | rfl | (simp only [List.length_drop, List.length_take]; rfl)) ?_; (with_reducible refine (cmp_isNaN_uint16.calls a1 true _ A4.out).mono ?_); rintro e w' ⟨rfl, ⟨nd, rfl⟩⟩; refine ⟨_, rfl, ?_⟩))
      go_ret
      exact ⟨by first | rfl | (simp; done) | (simp [*]; done), by repeat (first | exact Drawn0.refl _ | apply Drawn0.step)⟩
    · replace c6 := Bool.eq_false_iff.mpr c6
      subst c6
      have H1 : (some (-1)) = some r := by rw [if_neg (show ¬ (false = true) by decide)] at H; exact H
      clear H
      have H := H1
      clear H1
      obtain rfl := Option.some.inj H
      go_enter Try.func35, Try.ntmps35
      go_wp2_with (first | ((with_reducible refine gate_callee (f := 37) rfl ?_); refine goesL_ (some 8) rfl rfl Try.func37 (by kernel_rfl) rfl #[.int .u16 a0] rfl (by (try simp only [List.map_toArray, List.map_cons, List.map_nil]); first | done | rfl | (simp only [List.length_drop, List.length_take]; rfl)) ?_; (with_reducible refine (cmp_isNaN_uint16.calls a0 true _ A3.out).mono ?_); rintro e w' ⟨rfl, ⟨nd, rfl⟩⟩; refine ⟨_, rfl, ?_⟩) | ((with_reducible refine gate_callee (f := 37) rfl ?_); refine goesL_ (some 10) rfl rfl Try.func37 (by kernel_rfl) rfl #[.int .u16 a1] rfl (by (try simp only [List.map_toArray, List.map_cons, List.map_nil]); first | done | rfl | (simp only [List.length_drop, List.length_take]; rfl)) ?_; (with_reducible refine (cmp_isNaN_uint16.calls a1 false _ A4.out).mono ?_); rintro e w' ⟨rfl, ⟨nd, rfl⟩⟩; refine ⟨_, rfl, ?_⟩))
      go_ret
      exact ⟨by first | rfl | (simp; done) | (simp [*]; done), by repeat (first | exact Drawn0.refl _ | apply Drawn0.step)⟩
  · replace c5 := Bool.eq_false_iff.mpr c5
    subst c5
    have H1 : (if t128 = true then (some 1) else (if a0 < a1 then (some (-1)) else (if a0 > a1 then (some 1) else (some 0)))) = some r := by rw [if_neg (show ¬ (false = true) by decide)] at H; exact H
    clear H
    have H := H1
    clear H1
    by_cases c7 : t128 = true
    · subst c7
      have H1 : (some 1) = some r := by rw [if_pos rfl] at H; exact H
      clear H
      have H := H1
      clear H1
      obtain rfl := Option.some.inj H
      go_enter Try.func35, Try.ntmps35
      go_wp2_with (first | ((with_reducible refine gate_callee (f := 37) rfl ?_); refine goesL_ (some 8) rfl rfl Try.func37 (by kernel_rfl) rfl #[.int .u16 a0] rfl (by (try simp only [List.map_toArray, List.map_cons, List.map_nil]); first | done | rfl | (simp only [List.length_drop, List.length_take]; rfl)) ?_; (with_reducible refine (cmp_isNaN_uint16.calls a0 false _ A3.out).mono ?_); rintro e w' ⟨rfl, ⟨nd, rfl⟩⟩; refine ⟨_, rfl, ?_⟩) | ((with_reducible refine gate_callee (f := 37) rfl ?_); refine goesL_ (some 10) rfl rfl Try.func37 (by kernel_rfl) rfl #[.int .u16 a1] rfl (by (try simp only [List.map_toArray, List.map_cons, List.map_nil]); first | done | rfl | (simp only [List.length_drop, List.length_take]; rfl)) ?_; (with_reducible refine (cmp_isNaN_uint16.calls a1 true _ A4.out).mono ?_); rintro e w' ⟨rfl, ⟨nd, rfl⟩⟩; refine ⟨_, rfl, ?_⟩))
      go_ret
      exact ⟨by first | rfl | (simp; done) | (simp [*]; done), by repeat (first | exact Drawn0.refl _ | apply Drawn0.step)⟩
    · replace c7 := Bool.eq_false_iff.mpr c7
      subst c7
      have H1 : (if a0 < a1 then (some (-1)) else (if a0 > a1 then (some 1) else (some 0))) = some r := by rw [if_neg (show ¬ (false = true) by decide)] at H; exact H
      clear H
      have H := H1
      clear H1
      by_cases c8 : a0 < a1
      · rw [if_pos c8] at H
        have c8b0 : decide (a0 < a1) = true := decide_eq_true c8
        clear c8
        obtain rfl := Option.some.inj H
        go_enter Try.func35, Try.ntmps35
        go_wp2_with (first | ((with_reducible refine gate_callee (f := 37) rfl ?_); refine goesL_ (some 8) rfl rfl Try.func37 (by kernel_rfl) rfl #[.int .u16 a0] rfl (by (try simp only [List.map_toArray, List.map_cons, List.map_nil]); first | done | rfl | (simp only [List.length_drop, List.length_take]; rfl)) ?_; (with_reducible refine (cmp_isNaN_uint16.calls a0 false _ A3.out).mono ?_); rintro e w' ⟨rfl, ⟨nd, rfl⟩⟩; refine ⟨_, rfl, ?_⟩) | ((with_reducible refine gate_callee (f := 37) rfl ?_); refine goesL_ (some 10) rfl rfl Try.func37 (by kernel_rfl) rfl #[.int .u16 a1] rfl (by (try simp only [List.map_toArray, List.map_cons, List.map_nil]); first | done | rfl | (simp only [List.length_drop, List.length_take]; rfl)) ?_; (with_reducible refine (cmp_isNaN_uint16.calls a1 false _ A4.out).mono ?_); rintro e w' ⟨rfl, ⟨nd, rfl⟩⟩; refine ⟨_, rfl, ?_⟩))
        go_ret
        exact ⟨by first | rfl | (simp; done) | (simp [*]; done), by repeat (first | exact Drawn0.refl _ | apply Drawn0.step)⟩
      · rw [if_neg c8] at H
        have c8b0 : decide (a0 < a1) = false := decide_eq_false c8
        clear c8
        by_cases c9 : a0 > a1
        · rw [if_pos c9] at H
          have c9b0 : decide (a1 < a0) = true := decide_eq_true c9
          clear c9
          obtain rfl := Option.some.inj H
          go_enter Try.func35, Try.ntmps35
          go_wp2_with (first | ((with_reducible refine gate_callee (f := 37) rfl ?_); refine goesL_ (some 8) rfl rfl Try.func37 (by kernel_rfl) rfl #[.int .u16 a0] rfl (by (try simp only [List.map_toArray, List.map_cons, List.map_nil]); first | done | rfl | (simp only [List.length_drop, List.length_take]; rfl)) ?_; (with_reducible refine (cmp_isNaN_uint16.calls a0 false _ A3.out).mono ?_); rintro e w' ⟨rfl, ⟨nd, rfl⟩⟩; refine ⟨_, rfl, ?_⟩) | ((with_reducible refine gate_callee (f := 37) rfl ?_); refine goesL_ (some 10) rfl rfl Try.func37 (by kernel_rfl) rfl #[.int .u16 a1] rfl (by (try simp only [List.map_toArray, List.map_cons, List.map_nil]); first | done | rfl | (simp only [List.length_drop, List.length_take]; rfl)) ?_; (with_reducible refine (cmp_isNaN_uint16.calls a1 false _ A4.out).mono ?_); rintro e w' ⟨rfl, ⟨nd, rfl⟩⟩; refine ⟨_, rfl, ?_⟩))
          go_ret
          exact ⟨by first | rfl | (simp; done) | (simp [*]; done), by repeat (first | exact Drawn0.refl _ | apply Drawn0.step)⟩
        · rw [if_neg c9] at H
          have c9b0 : decide (a1 < a0) = false := decide_eq_false c9
          clear c9
          obtain rfl := Option.some.inj H
          go_enter Try.func35, Try.ntmps35
          go_wp2_with (first | ((with_reducible refine gate_callee (f := 37) rfl ?_); refine goesL_ (some 8) rfl rfl Try.func37 (by kernel_rfl) rfl #[.int .u16 a0] rfl (by (try simp only [List.map_toArray, List.map_cons, List.map_nil]); first | done | rfl | (simp only [List.length_drop, List.length_take]; rfl)) ?_; (with_reducible refine (cmp_isNaN_uint16.calls a0 false _ A3.out).mono ?_); rintro e w' ⟨rfl, ⟨nd, rfl⟩⟩; refine ⟨_, rfl, ?_⟩) | ((with_reducible refine gate_callee (f := 37) rfl ?_); refine goesL_ (some 10) rfl rfl Try.func37 (by kernel_rfl) rfl #[.int .u16 a1] rfl (by (try simp only [List.map_toArray, List.map_cons, List.map_nil]); first | done | rfl | (simp only [List.length_drop, List.length_take]; rfl)) ?_; (with_reducible refine (cmp_isNaN_uint16.calls a1 false _ A4.out).mono ?_); rintro e w' ⟨rfl, ⟨nd, rfl⟩⟩; refine ⟨_, rfl, ?_⟩))
          go_ret
          exact ⟨by first | rfl | (simp; done) | (simp [*]; done), by repeat (first | exact Drawn0.refl _ | apply Drawn0.step)⟩

/-! ### slices_Compare_uint16_uint16: function 31 -/
def slices_Compare_uint16_uint16.l0 : Nat → List Int → List Int → List Int → Int → Int → Option (Int)
  | 0, _, _, _, _, _ => none
  | k + 1, x0, x1, x9, x10, x11 => if x11 < x10 then (if 0 ≤ x11 then (if x11 < (x9.length : Int) then (if x11 ≥ (x1.length : Int) then (some 1) else (if x11 < (x1.length : Int) then ((cmp_Compare_uint16.f (rd x9 x11) (rd x1 x11)).bind fun t131 => (if t131 = 0 then (slices_Compare_uint16_uint16.l0 k x0 x1 x9 x10 (wrap64 (x11 + 1))) else (some t131))) else (none))) else (none)) else (none)) else (if (x0.length : Int) < (x1.length : Int) then (some (-1)) else (some 0))
def slices_Compare_uint16_uint16.f (k : Nat) (l0 : List Int) (l1 : List Int) : Option (Int) := slices_Compare_uint16_uint16.l0 k l0 l1 l0 (l0.length : Int) 0
theorem slices_Compare_uint16_uint16.mono_l : ∀ k, (∀ y0 y1 y2 y3 y4, LeO (slices_Compare_uint16_uint16.l0 k y0 y1 y2 y3 y4) (slices_Compare_uint16_uint16.l0 (k + 1) y0 y1 y2 y3 y4))
  | 0 => fun _ _ _ _ _ r h => by simp [slices_Compare_uint16_uint16.l0] at h
  | k + 1 => by
    have ih0 := slices_Compare_uint16_uint16.mono_l k
    · intro y0 y1 y2 y3 y4
      unfold slices_Compare_uint16_uint16.l0
      repeat' first
      | (with_reducible exact ih0 _ _ _ _ _)
      | (with_reducible exact LeO.refl _)
      | (with_reducible exact LeO.none _)
      | (with_reducible refine LeO.ite ?_ ?_)
      | (with_reducible refine LeO.bind ?_ (fun _ => ?_))
      | exact ih0 _ _ _ _ _
      | exact LeO.none _
      | refine LeO.ite ?_ ?_
      | refine LeO.bind ?_ (fun _ => ?_)
theorem slices_Compare_uint16_uint16.mono : ∀ a0 a1 k, LeO (slices_Compare_uint16_uint16.f k a0 a1) (slices_Compare_uint16_uint16.f (k + 1) a0 a1) := by
  intro a0 a1 k
  have ih0 := slices_Compare_uint16_uint16.mono_l k
  unfold slices_Compare_uint16_uint16.f
  repeat' first
      | (with_reducible exact ih0 _ _ _ _ _)
      | (with_reducible exact LeO.refl _)
      | (with_reducible exact LeO.none _)
      | (with_reducible refine LeO.ite ?_ ?_)
      | (with_reducible refine LeO.bind ?_ (fun _ => ?_))
      | exact ih0 _ _ _ _ _
      | exact LeO.none _
      | refine LeO.ite ?_ ?_
      | refine LeO.bind ?_ (fun _ => ?_)
set_option maxHeartbeats 8000000 in
set_option maxRecDepth 100000 in
theorem slices_Compare_uint16_uint16.calls (k : Nat) (A0 : Option Addr) (c0 : Nat) (l0 : List Int) (A1 : Option Addr) (c1 : Nat) (l1 : List Int) (r : Int) (w : World) (hr0 : Kd.C (Kd.int .u16) w A0 l0.length l0) (hc0 : l0.length ≤ c0) (hr1 : Kd.C (Kd.int .u16) w A1 l1.length l1) (hc1 : l1.length ≤ c1) (h : slices_Compare_uint16_uint16.f k l0 l1 = some r) :
    Calls Try.prog 31 #[.slice A0 l0.length c0, .slice A1 l1.length c1] w fun e w' => e = .returned (.int .i64 r) ∧ Drawn0 w w' := by
  have HR0 := Aside0.mk hr0
  have HC0 := Aside0.mk hc0
  clear hr0 hc0
  have HR1 := Aside0.mk hr1
  have HC1 := Aside0.mk hc1
  clear hr1 hc1
  have H : (slices_Compare_uint16_uint16.l0 k l0 l1 l0 (l0.length : Int) 0) = some r := h
  clear h
  have H' := Aside0.mk H
  clear H
  go_enter Try.func31, Try.ntmps31
  go_wp2
  go_loopg [11] k (fun kq v11 w' => ∃ (x11_1 : Int), v11 = .int .i64 x11_1 ∧ Aside0 (slices_Compare_uint16_uint16.l0 kq l0 l1 l0 (l0.length : Int) x11_1 = some r) ∧ Aside0 (kq ≤ k) ∧ Drawn0 w w')
  case atStart => exact ⟨(0), (by first | rfl | (simp; done) | (simp [*]; done)), H', ⟨Nat.le_refl _⟩, by repeat (first | exact Drawn0.refl _ | apply Drawn0.step)⟩
  case round =>
    clear H'
    try clear c1
    try clear p2
    obtain ⟨x11_1, rfl, HA, HK1, ⟨m1, rfl⟩⟩ := hrel
    cases gk with
    | zero => exact absurd HA.out (by simp [slices_Compare_uint16_uint16.l0])
    | succ k1 =>
      have H := HA.out
      clear HA
      simp only [slices_Compare_uint16_uint16.l0] at H
      by_cases c3 : x11_1 < (l0.length : Int)
      · rw [if_pos c3] at H
        have c3b0 : decide (x11_1 < (l0.length : Int)) = true := decide_eq_true c3
        clear c3
        by_cases c4 : 0 ≤ x11_1
        · rw [if_pos c4] at H
          have c4b0 : decide (0 ≤ x11_1) = true := decide_eq_true c4
          clear c4
          by_cases c5 : x11_1 < (l0.length : Int)
          · rw [if_pos c5] at H
            have c5b0 : decide (x11_1 < (l0.length : Int)) = true := decide_eq_true c5
            clear c5
            by_cases c6 : x11_1 ≥ (l1.length : Int)
            · rw [if_pos c6] at H
              have c6b0 : decide ((l1.length : Int) ≤ x11_1) = true := decide_eq_true c6
              clear c6
              obtain rfl := Option.some.inj H
              have p129 : 0 ≤ (x11_1 : Int) := of_decide_eq_true (by first | (with_reducible assumption) | assumption)
              have q129 : x11_1 < (l0.length : Int) := of_decide_eq_true (by first | (with_reducible assumption) | assumption)
              obtain ⟨ad129, e129, hx129_0⟩ := Kd.at_int HR0.out x11_1 p129 q129
              cases e129
              replace p129 := eq_true p129
              replace q129 := eq_true q129
              go_wp2
              go_ret
              exact ⟨by first | rfl | (simp; done) | (simp [*]; done), by repeat (first | exact Drawn0.refl _ | apply Drawn0.step)⟩
            · rw [if_neg c6] at H
              have c6b0 : decide ((l1.length : Int) ≤ x11_1) = false := decide_eq_false c6
              clear c6
              by_cases c7 : x11_1 < (l1.length : Int)
              · rw [if_pos c7] at H
                have c7b0 : decide (x11_1 < (l1.length : Int)) = true := decide_eq_true c7
                clear c7
                replace H := Option.bind_eq_some_iff.mp H
                obtain ⟨t131, A80, H⟩ := H
                replace H : (if t131 = 0 then (slices_Compare_uint16_uint16.l0 k1 l0 l1 l0 (l0.length : Int) (wrap64 (x11_1 + 1))) else (some t131)) = some r := H
                have A8 := Aside0.mk A80
                clear A80
                by_cases c9 : t131 = 0
                · rw [if_pos c9] at H
                  have c9b0 : (t131 == 0) = true := beq_iff_eq.mpr c9
                  have c9b1 : (t131 != 0) = false := bne_eq_false_iff_eq.mpr c9
                  clear c9
                  have H' := Aside0.mk H
                  clear H
                  have p129 : 0 ≤ (x11_1 : Int) := of_decide_eq_true (by first | (with_reducible assumption) | assumption)
                  have q129 : x11_1 < (l0.length : Int) := of_decide_eq_true (by first | (with_reducible assumption) | assumption)
                  obtain ⟨ad129, e129, hx129_0⟩ := Kd.at_int HR0.out x11_1 p129 q129
                  cases e129
                  replace p129 := eq_true p129
                  replace q129 := eq_true q129
                  have p130 : 0 ≤ (x11_1 : Int) := of_decide_eq_true (by first | (with_reducible assumption) | assumption)
                  have q130 : x11_1 < (l1.length : Int) := of_decide_eq_true (by first | (with_reducible assumption) | assumption)
                  obtain ⟨ad130, e130, hx130_0⟩ := Kd.at_int HR1.out x11_1 p130 q130
                  cases e130
                  replace p130 := eq_true p130
                  replace q130 := eq_true q130
                  go_wp2_with (first | ((with_reducible refine gate_callee (f := 35) rfl ?_); refine goesL_ (some 26) rfl rfl Try.func35 (by kernel_rfl) rfl #[.int .u16 (rd l0 x11_1), .int .u16 (rd l1 x11_1)] rfl (by (try simp only [List.map_toArray, List.map_cons, List.map_nil]); first | done | rfl | (simp only [List.length_drop, List.length_take]; rfl)) ?_; (with_reducible refine (cmp_Compare_uint16.calls (rd l0 x11_1) (rd l1 x11_1) t131 _ A8.out).mono ?_); rintro e w' ⟨rfl, ⟨nd, rfl⟩⟩; refine ⟨_, rfl, ?_⟩))
                  go_roundg k1
                  case measure => have := HK1.out; omega
                  case rel => exact ⟨(wrap64 (x11_1 + 1)), (by first | rfl | (simp; done) | (simp [*]; done)), H', ⟨by have := HK1.out; omega⟩, by repeat (first | exact Drawn0.refl _ | apply Drawn0.step)⟩
                · rw [if_neg c9] at H
                  have c9b0 : (t131 == 0) = false := beq_eq_false_iff_ne.mpr c9
                  have c9b1 : (t131 != 0) = true := bne_iff_ne.mpr c9
                  obtain rfl := Option.some.inj H
                  have p129 : 0 ≤ (x11_1 : Int) := of_decide_eq_true (by first | (with_reducible assumption) | assumption)
                  have q129 : x11_1 < (l0.length : Int) := of_decide_eq_true (by first | (with_reducible assumption) | assumption)
                  obtain ⟨ad129, e129, hx129_0⟩ := Kd.at_int HR0.out x11_1 p129 q129
                  cases e129
                  replace p129 := eq_true p129
                  replace q129 := eq_true q129
                  have p130 : 0 ≤ (x11_1 : Int) := of_decide_eq_true (by first | (with_reducible assumption) | assumption)
                  have q130 : x11_1 < (l1.length : Int) := of_decide_eq_true (by first | (with_reducible assumption) | assumption)
                  obtain ⟨ad130, e130, hx130_0⟩ := Kd.at_int HR1.out x11_1 p130 q130
                  cases e130
                  replace p130 := eq_true p130
                  replace q130 := eq_true q130
                  go_wp2_with (first | ((with_reducible refine gate_callee (f := 35) rfl ?_); refine goesL_ (some 26) rfl rfl Try.func35 (by kernel_rfl) rfl #[.int .u16 (rd l0 x11_1), .int .u16 (rd l1 x11_1)] rfl (by (try simp only [List.map_toArray, List.map_cons, List.map_nil]); first | done | rfl | (simp only [List.length_drop, List.length_take]; rfl)) ?_; (with_reducible refine (cmp_Compare_uint16.calls (rd l0 x11_1) (rd l1 x11_1) t131 _ A8.out).mono ?_); rintro e w' ⟨rfl, ⟨nd, rfl⟩⟩; refine ⟨_, rfl, ?_⟩))
                  go_ret
                  exact ⟨by first | rfl | (simp; done) | (simp [*]; done), by repeat (first | exact Drawn0.refl _ | apply Drawn0.step)⟩
              · rw [if_neg c7] at H
                exact absurd H (by simp)
          · rw [if_neg c5] at H
            exact absurd H (by simp)
        · rw [if_neg c4] at H
          exact absurd H (by simp)
      · rw [if_neg c3] at H
        have c3b0 : decide (x11_1 < (l0.length : Int)) = false := decide_eq_false c3
        clear c3
        by_cases c10 : (l0.length : Int) < (l1.length : Int)
        · rw [if_pos c10] at H
          have c10b0 : decide ((l0.length : Int) < (l1.length : Int)) = true := decide_eq_true c10
          have c10b1 : decide (l0.length < l1.length) = true := decide_eq_true (Int.ofNat_lt.mp c10)
          clear c10
          obtain rfl := Option.some.inj H
          go_wp2
          go_ret
          exact ⟨by first | rfl | (simp; done) | (simp [*]; done), by repeat (first | exact Drawn0.refl _ | apply Drawn0.step)⟩
        · rw [if_neg c10] at H
          have c10b0 : decide ((l0.length : Int) < (l1.length : Int)) = false := decide_eq_false c10
          have c10b1 : decide (l0.length < l1.length) = false := decide_eq_false (fun h => c10 (Int.ofNat_lt.mpr h))
          clear c10
          obtain rfl := Option.some.inj H
          go_wp2
          go_ret
          exact ⟨by first | rfl | (simp; done) | (simp [*]; done), by repeat (first | exact Drawn0.refl _ | apply Drawn0.step)⟩

/-! ### utf16_Compare: function 15 -/
def utf16_Compare.f (k : Nat) (l0 : List Int) (l1 : List Int) : Option (Int) := (utf16_Units.f l0).bind fun t132 => ((utf16_Units.f l1).bind fun t135 => ((slices_Compare_uint16_uint16.f k t132 t135).bind fun t138 => (some t138)))
theorem utf16_Compare.mono : ∀ a0 a1 k, LeO (utf16_Compare.f k a0 a1) (utf16_Compare.f (k + 1) a0 a1) := by
  intro a0 a1 k
  unfold utf16_Compare.f
  repeat' first
      | (with_reducible exact slices_Compare_uint16_uint16.mono _ _ _)
      | (with_reducible exact LeO.refl _)
      | (with_reducible exact LeO.none _)
      | (with_reducible refine LeO.ite ?_ ?_)
      | (with_reducible refine LeO.bind ?_ (fun _ => ?_))
      | exact slices_Compare_uint16_uint16.mono _ _ _
      | exact LeO.none _
      | refine LeO.ite ?_ ?_
      | refine LeO.bind ?_ (fun _ => ?_)
set_option maxHeartbeats 8000000 in
set_option maxRecDepth 100000 in
theorem utf16_Compare.calls (k : Nat) (A0 : Option Addr) (c0 : Nat) (l0 : List Int) (A1 : Option Addr) (c1 : Nat) (l1 : List Int) (r : Int) (w : World) (hr0 : Kd.C (Kd.int .i32) w A0 l0.length l0) (hc0 : l0.length ≤ c0) (hr1 : Kd.C (Kd.int .i32) w A1 l1.length l1) (hc1 : l1.length ≤ c1) (h : utf16_Compare.f k l0 l1 = some r) :
    Calls Try.prog 15 #[.slice A0 l0.length c0, .slice A1 l1.length c1] w fun e w' => e = .returned (.int .i64 r) ∧ Below w.heap.size w w' := by
  have HR0 := Aside0.mk hr0
  have HC0 := Aside0.mk hc0
  clear hr0 hc0
  have HR1 := Aside0.mk hr1
  have HC1 := Aside0.mk hc1
  clear hr1 hc1
  have HB := Aside0.mk (Below.refl w.heap.size w)
  have H : ((utf16_Units.f l0).bind fun t132 => ((utf16_Units.f l1).bind fun t135 => ((slices_Compare_uint16_uint16.f k t132 t135).bind fun t138 => (some t138)))) = some r := h
  clear h
  replace H := Option.bind_eq_some_iff.mp H
  obtain ⟨t132, A30, H⟩ := H
  replace H : ((utf16_Units.f l1).bind fun t135 => ((slices_Compare_uint16_uint16.f k t132 t135).bind fun t138 => (some t138))) = some r := H
  have A3 := Aside0.mk A30
  clear A30
  replace H := Option.bind_eq_some_iff.mp H
  obtain ⟨t135, A40, H⟩ := H
  replace H : ((slices_Compare_uint16_uint16.f k t132 t135).bind fun t138 => (some t138)) = some r := H
  have A4 := Aside0.mk A40
  clear A40
  replace H := Option.bind_eq_some_iff.mp H
  obtain ⟨t138, A50, H⟩ := H
  replace H : (some t138) = some r := H
  have A5 := Aside0.mk A50
  clear A50
  obtain rfl := Option.some.inj H
  go_enter Try.func15, Try.ntmps15
  go_wp2_with (first | ((with_reducible refine gate_callee (f := 12) rfl ?_); refine goesL_ (some 6) rfl rfl Try.func12 (by kernel_rfl) rfl #[.slice A0 l0.length c0] rfl (by (try simp only [List.map_toArray, List.map_cons, List.map_nil]); first | done | rfl | (simp only [List.length_drop, List.length_take]; rfl)) ?_; (with_reducible refine (utf16_Units.calls _ _ l0 t132 _ ?side1 ?side2 A3.out).mono ?_); (case side1 => repeat (first | exact HR0.out | (with_reducible refine Kd.C_alloc ?_ _) | (with_reducible refine Kd.C_drewN ?_ _) | (with_reducible refine Kd.C_drew ?_))); (case side2 => exact HC0.out); rintro e w6 ⟨v133, rfl, ho0, hb⟩; refine ⟨_, rfl, ?_⟩; have n0_ := Aside0.mk (Kd.R_lower ho0 (below_size (by repeat (first | (with_reducible first | exact HB.out | apply below_alloc | apply pw_below_drewN | apply below_drew1) | exact HB.out)))); have n1_ := Aside0.mk (below_step (by repeat (first | (with_reducible first | exact HB.out | apply below_alloc | apply pw_below_drewN | apply below_drew1) | exact HB.out)) hb); clear HB; have HO134 := n0_; have HB := n1_; clear n0_ n1_; (try clear hb); (try clear hb2); (try clear hk); (try clear hi); (try clear ho0)) | ((with_reducible refine gate_callee (f := 12) rfl ?_); refine goesL_ (some 8) rfl rfl Try.func12 (by kernel_rfl) rfl #[.slice A1 l1.length c1] rfl (by (try simp only [List.map_toArray, List.map_cons, List.map_nil]); first | done | rfl | (simp only [List.length_drop, List.length_take]; rfl)) ?_; (with_reducible refine (utf16_Units.calls _ _ l1 t135 _ ?side1 ?side2 A4.out).mono ?_); (case side1 => repeat (first | exact (Kd.C_below HR1.out HB.out) | (with_reducible refine Kd.C_alloc ?_ _) | (with_reducible refine Kd.C_drewN ?_ _) | (with_reducible refine Kd.C_drew ?_))); (case side2 => exact HC1.out); rintro e w7 ⟨v136, rfl, ho0, hb⟩; refine ⟨_, rfl, ?_⟩; have n0_ := Aside0.mk (Kd.R_elder' (by (with_reducible repeat (first | apply Kd.R_alloc | apply Kd.R_drewN | apply Kd.R_drew)); exact HO134.out) (Kd.R_base ho0) hb); have n1_ := Aside0.mk (Kd.R_lower (Kd.R_new' ho0 (Kd.R_lt (by (with_reducible repeat (first | apply Kd.R_alloc | apply Kd.R_drewN | apply Kd.R_drew)); exact HO134.out))) (below_size (by repeat (first | (with_reducible first | exact HB.out | apply below_alloc | apply pw_below_drewN | apply below_drew1) | exact HB.out)))); have n2_ := Aside0.mk (below_step (by repeat (first | (with_reducible first | exact HB.out | apply below_alloc | apply pw_below_drewN | apply below_drew1) | exact HB.out)) hb); clear HO134; clear HB; have HO134 := n0_; have HO137 := n1_; have HB := n2_; clear n0_ n1_ n2_; (try clear hb); (try clear hb2); (try clear hk); (try clear hi); (try clear ho0); obtain ⟨Ao8, co8, eo8⟩ := Kd.R_slice HO134.out; subst eo8; obtain ⟨Ao9, co9, eo9⟩ := Kd.R_slice HO137.out; subst eo9) | ((with_reducible refine gate_callee (f := 31) rfl ?_); refine goesL_ (some 9) rfl rfl Try.func31 (by kernel_rfl) rfl #[.slice Ao8 t132.length co8, .slice Ao9 t135.length co9] rfl (by (try simp only [List.map_toArray, List.map_cons, List.map_nil]); first | done | rfl | (simp only [List.length_drop, List.length_take]; rfl)) ?_; (with_reducible refine (slices_Compare_uint16_uint16.calls k _ _ t132 _ _ t135 t138 _ ?side1 ?side2 ?side3 ?side4 A5.out).mono ?_); (case side1 => repeat (first | exact (Kd.R_reads' HO134.out).2.2 | (with_reducible refine Kd.C_alloc ?_ _) | (with_reducible refine Kd.C_drewN ?_ _) | (with_reducible refine Kd.C_drew ?_))); (case side2 => exact (Kd.R_reads' HO134.out).2.1); (case side3 => repeat (first | exact (Kd.R_reads' HO137.out).2.2 | (with_reducible refine Kd.C_alloc ?_ _) | (with_reducible refine Kd.C_drewN ?_ _) | (with_reducible refine Kd.C_drew ?_))); (case side4 => exact (Kd.R_reads' HO137.out).2.1); rintro e w' ⟨rfl, ⟨nd, rfl⟩⟩; refine ⟨_, rfl, ?_⟩))
  go_ret
  exact ⟨by first | rfl | (simp [errW_none, errW_some] <;> rfl) | (simp [*, errW_none, errW_some] <;> rfl), by repeat (first | (with_reducible first | exact HB.out | apply below_alloc | apply pw_below_drewN | apply below_drew1) | exact HB.out)⟩

/-! ### orthoepylaw03_awake0: function 8 -/
def orthoepylaw03_awake0.f (k : Nat)  : Option (Bool) := (utf16_Units.f (([128512, 97, 55296] : List Int))).bind fun t142 => ((utf16_Scalars.f k t142).bind fun bt145 => ((utf16_Scalars.f k (([97, 56320] : List Int))).bind fun bt153 => ((utf16_Compare.f k (([128512] : List Int)) (([64307] : List Int))).bind fun t164 => (if t164 = (-1) then (if (t142.length : Int) = 3 then (if 0 < (t142.length : Int) then (if (rd t142 0) = 55357 then (if (bt145.1.length : Int) = 2 then (if bt145.2.1 = 3 then (if bt145.2.2 = true then (if bt153.2.1 = 1 then (some (!bt153.2.2)) else (some false)) else (some false)) else (some false)) else (some false)) else (some false)) else (none)) else (some false)) else (some false)))))
theorem orthoepylaw03_awake0.mono : ∀ k, LeO (orthoepylaw03_awake0.f k ) (orthoepylaw03_awake0.f (k + 1) ) := by
  intro  k
  unfold orthoepylaw03_awake0.f
  repeat' first
      | (with_reducible exact utf16_Compare.mono _ _ _)
      | (with_reducible exact utf16_Scalars.mono _ _)
      | (with_reducible exact LeO.refl _)
      | (with_reducible exact LeO.none _)
      | (with_reducible refine LeO.ite ?_ ?_)
      | (with_reducible refine LeO.bind ?_ (fun _ => ?_))
      | exact utf16_Compare.mono _ _ _
      | exact utf16_Scalars.mono _ _
      | exact LeO.none _
      | refine LeO.ite ?_ ?_
      | refine LeO.bind ?_ (fun _ => ?_)
set_option maxHeartbeats 8000000 in
set_option maxRecDepth 100000 in
theorem orthoepylaw03_awake0.calls (k : Nat)  (r : Bool) (w : World) (h : orthoepylaw03_awake0.f k  = some r) (hT_ : Aside0 (r = true)) :
    Calls Try.prog 8 #[] w fun e w' => e = .returned (.bool r) ∧ Below w.heap.size w w' := by
  have HB := Aside0.mk (Below.refl w.heap.size w)
  have H : ((utf16_Units.f (([128512, 97, 55296] : List Int))).bind fun t142 => ((utf16_Scalars.f k t142).bind fun bt145 => ((utf16_Scalars.f k (([97, 56320] : List Int))).bind fun bt153 => ((utf16_Compare.f k (([128512] : List Int)) (([64307] : List Int))).bind fun t164 => (if t164 = (-1) then (if (t142.length : Int) = 3 then (if 0 < (t142.length : Int) then (if (rd t142 0) = 55357 then (if (bt145.1.length : Int) = 2 then (if bt145.2.1 = 3 then (if bt145.2.2 = true then (if bt153.2.1 = 1 then (some (!bt153.2.2)) else (some false)) else (some false)) else (some false)) else (some false)) else (some false)) else (none)) else (some false)) else (some false)))))) = some r := h
  clear h
  obtain ⟨y139, hy139⟩ : ∃ y_ : List Int, y_ = (([128512, 97, 55296] : List Int)) := ⟨_, rfl⟩
  replace H : ((utf16_Units.f y139).bind fun t142 => ((utf16_Scalars.f k t142).bind fun bt145 => ((utf16_Scalars.f k (([97, 56320] : List Int))).bind fun bt153 => ((utf16_Compare.f k (([128512] : List Int)) (([64307] : List Int))).bind fun t164 => (if t164 = (-1) then (if (t142.length : Int) = 3 then (if 0 < (t142.length : Int) then (if (rd t142 0) = 55357 then (if (bt145.1.length : Int) = 2 then (if bt145.2.1 = 3 then (if bt145.2.2 = true then (if bt153.2.1 = 1 then (some (!bt153.2.2)) else (some false)) else (some false)) else (some false)) else (some false)) else (some false)) else (none)) else (some false)) else (some false)))))) = some r := by first | (rw [hy139]; with_reducible exact H) | (have H2_ := (Option.bind_some _ _).symm.trans H; rw [hy139]; with_reducible exact H2_) | (have H2_ := (Option.bind_some _ _).symm.trans H; with_reducible exact H2_) | with_reducible exact H | (rw [hy139]; exact H) | exact H
  have Ny139 := Aside0.mk hy139
  clear hy139
  replace H := Option.bind_eq_some_iff.mp H
  obtain ⟨t142, A10, H⟩ := H
  replace H : ((utf16_Scalars.f k t142).bind fun bt145 => ((utf16_Scalars.f k (([97, 56320] : List Int))).bind fun bt153 => ((utf16_Compare.f k (([128512] : List Int)) (([64307] : List Int))).bind fun t164 => (if t164 = (-1) then (if (t142.length : Int) = 3 then (if 0 < (t142.length : Int) then (if (rd t142 0) = 55357 then (if (bt145.1.length : Int) = 2 then (if bt145.2.1 = 3 then (if bt145.2.2 = true then (if bt153.2.1 = 1 then (some (!bt153.2.2)) else (some false)) else (some false)) else (some false)) else (some false)) else (some false)) else (none)) else (some false)) else (some false))))) = some r := H
  have A1 := Aside0.mk A10
  clear A10
  replace H := Option.bind_eq_some_iff.mp H
  obtain ⟨⟨t145, t146, t147⟩, A20, H⟩ := H
  replace H : ((utf16_Scalars.f k (([97, 56320] : List Int))).bind fun bt153 => ((utf16_Compare.f k (([128512] : List Int)) (([64307] : List Int))).bind fun t164 => (if t164 = (-1) then (if (t142.length : Int) = 3 then (if 0 < (t142.length : Int) then (if (rd t142 0) = 55357 then (if (t145.length : Int) = 2 then (if t146 = 3 then (if t147 = true then (if bt153.2.1 = 1 then (some (!bt153.2.2)) else (some false)) else (some false)) else (some false)) else (some false)) else (some false)) else (none)) else (some false)) else (some false)))) = some r := H
  have A2 := Aside0.mk A20
  clear A20
  obtain ⟨y150, hy150⟩ : ∃ y_ : List Int, y_ = (([97, 56320] : List Int)) := ⟨_, rfl⟩
  replace H : ((utf16_Scalars.f k y150).bind fun bt153 => ((utf16_Compare.f k (([128512] : List Int)) (([64307] : List Int))).bind fun t164 => (if t164 = (-1) then (if (t142.length : Int) = 3 then (if 0 < (t142.length : Int) then (if (rd t142 0) = 55357 then (if (t145.length : Int) = 2 then (if t146 = 3 then (if t147 = true then (if bt153.2.1 = 1 then (some (!bt153.2.2)) else (some false)) else (some false)) else (some false)) else (some false)) else (some false)) else (none)) else (some false)) else (some false)))) = some r := by first | (rw [hy150]; with_reducible exact H) | (have H2_ := (Option.bind_some _ _).symm.trans H; rw [hy150]; with_reducible exact H2_) | (have H2_ := (Option.bind_some _ _).symm.trans H; with_reducible exact H2_) | with_reducible exact H | (rw [hy150]; exact H) | exact H
  have Ny150 := Aside0.mk hy150
  clear hy150
  replace H := Option.bind_eq_some_iff.mp H
  obtain ⟨⟨t153, t154, t155⟩, A30, H⟩ := H
  replace H : ((utf16_Compare.f k (([128512] : List Int)) (([64307] : List Int))).bind fun t164 => (if t164 = (-1) then (if (t142.length : Int) = 3 then (if 0 < (t142.length : Int) then (if (rd t142 0) = 55357 then (if (t145.length : Int) = 2 then (if t146 = 3 then (if t147 = true then (if t154 = 1 then (some (!t155)) else (some false)) else (some false)) else (some false)) else (some false)) else (some false)) else (none)) else (some false)) else (some false))) = some r := H
  have A3 := Aside0.mk A30
  clear A30
  obtain ⟨y158, hy158⟩ : ∃ y_ : List Int, y_ = (([128512] : List Int)) := ⟨_, rfl⟩
  replace H : ((utf16_Compare.f k y158 (([64307] : List Int))).bind fun t164 => (if t164 = (-1) then (if (t142.length : Int) = 3 then (if 0 < (t142.length : Int) then (if (rd t142 0) = 55357 then (if (t145.length : Int) = 2 then (if t146 = 3 then (if t147 = true then (if t154 = 1 then (some (!t155)) else (some false)) else (some false)) else (some false)) else (some false)) else (some false)) else (none)) else (some false)) else (some false))) = some r := by first | (rw [hy158]; with_reducible exact H) | (have H2_ := (Option.bind_some _ _).symm.trans H; rw [hy158]; with_reducible exact H2_) | (have H2_ := (Option.bind_some _ _).symm.trans H; with_reducible exact H2_) | with_reducible exact H | (rw [hy158]; exact H) | exact H
  have Ny158 := Aside0.mk hy158
  clear hy158
  obtain ⟨y161, hy161⟩ : ∃ y_ : List Int, y_ = (([64307] : List Int)) := ⟨_, rfl⟩
  replace H : ((utf16_Compare.f k y158 y161).bind fun t164 => (if t164 = (-1) then (if (t142.length : Int) = 3 then (if 0 < (t142.length : Int) then (if (rd t142 0) = 55357 then (if (t145.length : Int) = 2 then (if t146 = 3 then (if t147 = true then (if t154 = 1 then (some (!t155)) else (some false)) else (some false)) else (some false)) else (some false)) else (some false)) else (none)) else (some false)) else (some false))) = some r := by first | (rw [hy161]; with_reducible exact H) | (have H2_ := (Option.bind_some _ _).symm.trans H; rw [hy161]; with_reducible exact H2_) | (have H2_ := (Option.bind_some _ _).symm.trans H; with_reducible exact H2_) | with_reducible exact H | (rw [hy161]; exact H) | exact H
  have Ny161 := Aside0.mk hy161
  clear hy161
  replace H := Option.bind_eq_some_iff.mp H
  obtain ⟨t164, A40, H⟩ := H
  replace H : (if t164 = (-1) then (if (t142.length : Int) = 3 then (if 0 < (t142.length : Int) then (if (rd t142 0) = 55357 then (if (t145.length : Int) = 2 then (if t146 = 3 then (if t147 = true then (if t154 = 1 then (some (!t155)) else (some false)) else (some false)) else (some false)) else (some false)) else (some false)) else (none)) else (some false)) else (some false)) = some r := H
  have A4 := Aside0.mk A40
  clear A40
  by_cases c5 : t164 = (-1)
  · rw [if_pos c5] at H
    have c5b0 : (t164 == (-1)) = true := beq_iff_eq.mpr c5
    have c5b1 : (t164 != (-1)) = false := bne_eq_false_iff_eq.mpr c5
    clear c5
    by_cases c6 : (t142.length : Int) = 3
    · rw [if_pos c6] at H
      have c6b0 : ((t142.length : Int) == 3) = true := beq_iff_eq.mpr c6
      have c6b1 : ((t142.length : Int) != 3) = false := bne_eq_false_iff_eq.mpr c6
      clear c6
      by_cases c7 : 0 < (t142.length : Int)
      · rw [if_pos c7] at H
        have c7b0 : decide (0 < (t142.length : Int)) = true := decide_eq_true c7
        have c7b1 : decide (0 < t142.length) = true := decide_eq_true (by omega)
        clear c7
        by_cases c8 : (rd t142 0) = 55357
        · rw [if_pos c8] at H
          have c8b0 : ((rd t142 0) == 55357) = true := beq_iff_eq.mpr c8
          have c8b1 : ((rd t142 0) != 55357) = false := bne_eq_false_iff_eq.mpr c8
          clear c8
          by_cases c9 : (t145.length : Int) = 2
          · rw [if_pos c9] at H
            have c9b0 : ((t145.length : Int) == 2) = true := beq_iff_eq.mpr c9
            have c9b1 : ((t145.length : Int) != 2) = false := bne_eq_false_iff_eq.mpr c9
            clear c9
            by_cases c10 : t146 = 3
            · rw [if_pos c10] at H
              have c10b0 : (t146 == 3) = true := beq_iff_eq.mpr c10
              have c10b1 : (t146 != 3) = false := bne_eq_false_iff_eq.mpr c10
              clear c10
              by_cases c11 : t147 = true
              · subst c11
                have H1 : (if t154 = 1 then (some (!t155)) else (some false)) = some r := by rw [if_pos rfl] at H; exact H
                clear H
                have H := H1
                clear H1
                by_cases c12 : t154 = 1
                · rw [if_pos c12] at H
                  have c12b0 : (t154 == 1) = true := beq_iff_eq.mpr c12
                  have c12b1 : (t154 != 1) = false := bne_eq_false_iff_eq.mpr c12
                  clear c12
                  obtain rfl := Option.some.inj H
                  go_enter Try.func8, Try.ntmps8
                  go_wp2_with (first | ((with_reducible refine gate_dst (N := 8) rfl ?_); (try (refine gate_guard (by rfl) ?_; dsimp only)); refine Kd.R_lit (Kd.int .i32) _ 21 ?hg (N := 8) ?hd (xs := ([128512, 97, 55296] : List Int)) (inner := [.int .i32 128512, .int .i32 97, .int .i32 55296]) (ok := fun _ => True) (okp := fun _ => True) ?hr ?hp (fun _ hk => hk) trivial (Below.refl _ _) (Nat.le_refl _) (by simp) ?_; (case hd => rfl); (case hg => rfl); (case hr => first | (go_simp; done) | (go_simp; rfl)); (case hp => exact (Reps.one (show Kd.M (Kd.int .i32) _ _ _ 128512 [.int .i32 128512] from rfl) (Reps.one (show Kd.M (Kd.int .i32) _ _ _ 97 [.int .i32 97] from rfl) (Reps.one (show Kd.M (Kd.int .i32) _ _ _ 55296 [.int .i32 55296] from rfl) (Reps.none _ _))))); intro v140 w13 ho14 hb hg_ hnew_; clear hg_ hnew_; (first | rw [← Ny139.out] at ho14 | (simp only [Int.reduceToNat] at ho14; rw [← Ny139.out] at ho14)); have n0_ := Aside0.mk (Kd.R_lower ho14 (below_size (by repeat (first | (with_reducible first | exact HB.out | apply below_alloc | apply pw_below_drewN | apply below_drew1) | exact HB.out)))); have n1_ := Aside0.mk (below_step (by repeat (first | (with_reducible first | exact HB.out | apply below_alloc | apply pw_below_drewN | apply below_drew1) | exact HB.out)) hb); clear HB; have HO141 := n0_; have HB := n1_; clear n0_ n1_; clear hb ho14; obtain ⟨Ao15, co15, eo15⟩ := Kd.R_slice HO141.out; subst eo15) | ((with_reducible refine gate_callee (f := 12) rfl ?_); refine goesL_ (some 9) rfl rfl Try.func12 (by kernel_rfl) rfl #[.slice Ao15 y139.length co15] rfl (by (try simp only [List.map_toArray, List.map_cons, List.map_nil]); first | done | rfl | (simp only [List.length_drop, List.length_take]; rfl)) ?_; (with_reducible refine (utf16_Units.calls _ _ y139 t142 _ ?side1 ?side2 A1.out).mono ?_); (case side1 => repeat (first | exact (Kd.R_reads' HO141.out).2.2 | (with_reducible refine Kd.C_alloc ?_ _) | (with_reducible refine Kd.C_drewN ?_ _) | (with_reducible refine Kd.C_drew ?_))); (case side2 => exact (Kd.R_reads' HO141.out).2.1); rintro e w16 ⟨v143, rfl, ho0, hb⟩; refine ⟨_, rfl, ?_⟩; have n0_ := Aside0.mk (Kd.R_below (by (with_reducible repeat (first | apply Kd.R_alloc | apply Kd.R_drewN | apply Kd.R_drew)); exact HO141.out) hb); have n1_ := Aside0.mk (Kd.R_lower ho0 (below_size (by repeat (first | (with_reducible first | exact HB.out | apply below_alloc | apply pw_below_drewN | apply below_drew1) | exact HB.out)))); have n2_ := Aside0.mk (below_step (by repeat (first | (with_reducible first | exact HB.out | apply below_alloc | apply pw_below_drewN | apply below_drew1) | exact HB.out)) hb); clear HO141; clear HB; have HO141 := n0_; have HO144 := n1_; have HB := n2_; clear n0_ n1_ n2_; (try clear hb); (try clear hb2); (try clear hk); (try clear hi); (try clear ho0); obtain ⟨Ao17, co17, eo17⟩ := Kd.R_slice HO144.out; subst eo17) | ((with_reducible refine gate_callee (f := 9) rfl ?_); refine goesL_ (some 12) rfl rfl Try.func9 (by kernel_rfl) rfl #[.slice Ao17 t142.length co17] rfl (by (try simp only [List.map_toArray, List.map_cons, List.map_nil]); first | done | rfl | (simp only [List.length_drop, List.length_take]; rfl)) ?_; (with_reducible refine (utf16_Scalars.calls k _ _ t142 t145 t146 true _ ?side1 ?side2 A2.out).mono ?_); (case side1 => repeat (first | exact (Kd.R_reads' HO144.out).2.2 | (with_reducible refine Kd.C_alloc ?_ _) | (with_reducible refine Kd.C_drewN ?_ _) | (with_reducible refine Kd.C_drew ?_))); (case side2 => exact (Kd.R_reads' HO144.out).2.1); rintro e w18 ⟨v148, rfl, ho0, hb⟩; refine ⟨_, rfl, ?_⟩; have n0_ := Aside0.mk (Kd.R_elder' (by (with_reducible repeat (first | apply Kd.R_alloc | apply Kd.R_drewN | apply Kd.R_drew)); exact HO141.out) (Kd.R_base ho0) hb); have n1_ := Aside0.mk (Kd.R_below (by (with_reducible repeat (first | apply Kd.R_alloc | apply Kd.R_drewN | apply Kd.R_drew)); exact HO144.out) hb); have n2_ := Aside0.mk (Kd.R_lower (Kd.R_new' ho0 (Kd.R_lt (by (with_reducible repeat (first | apply Kd.R_alloc | apply Kd.R_drewN | apply Kd.R_drew)); exact HO141.out))) (below_size (by repeat (first | (with_reducible first | exact HB.out | apply below_alloc | apply pw_below_drewN | apply below_drew1) | exact HB.out)))); have n3_ := Aside0.mk (below_step (by repeat (first | (with_reducible first | exact HB.out | apply below_alloc | apply pw_below_drewN | apply below_drew1) | exact HB.out)) hb); clear HO141; clear HO144; clear HB; have HO141 := n0_; have HO144 := n1_; have HO149 := n2_; have HB := n3_; clear n0_ n1_ n2_ n3_; (try clear hb); (try clear hb2); (try clear hk); (try clear hi); (try clear ho0)) | ((with_reducible refine gate_dst (N := 17) rfl ?_); (try (refine gate_guard (by rfl) ?_; dsimp only)); refine Kd.R_lit (Kd.int .u16) _ 43 ?hg (N := 17) ?hd (xs := ([97, 56320] : List Int)) (inner := [.int .u16 97, .int .u16 56320]) (ok := fun _ => True) (okp := fun _ => True) ?hr ?hp (fun _ hk => hk) trivial (Below.refl _ _) (Nat.le_refl _) (by simp) ?_; (case hd => rfl); (case hg => rfl); (case hr => first | (go_simp; done) | (go_simp; rfl)); (case hp => exact (Reps.one (show Kd.M (Kd.int .u16) _ _ _ 97 [.int .u16 97] from rfl) (Reps.one (show Kd.M (Kd.int .u16) _ _ _ 56320 [.int .u16 56320] from rfl) (Reps.none _ _)))); intro v151 w19 ho20 hb hg_ hnew_; clear hg_ hnew_; (first | rw [← Ny150.out] at ho20 | (simp only [Int.reduceToNat] at ho20; rw [← Ny150.out] at ho20)); have n0_ := Aside0.mk (Kd.R_below (by (with_reducible repeat (first | apply Kd.R_alloc | apply Kd.R_drewN | apply Kd.R_drew)); exact HO141.out) hb); have n1_ := Aside0.mk (Kd.R_elder' (by (with_reducible repeat (first | apply Kd.R_alloc | apply Kd.R_drewN | apply Kd.R_drew)); exact HO144.out) (Kd.R_base ho20) hb); have n2_ := Aside0.mk (Kd.R_below (by (with_reducible repeat (first | apply Kd.R_alloc | apply Kd.R_drewN | apply Kd.R_drew)); exact HO149.out) hb); have n3_ := Aside0.mk (Kd.R_lower (Kd.R_new' ho20 (Kd.R_lt (by (with_reducible repeat (first | apply Kd.R_alloc | apply Kd.R_drewN | apply Kd.R_drew)); exact HO144.out))) (below_size (by repeat (first | (with_reducible first | exact HB.out | apply below_alloc | apply pw_below_drewN | apply below_drew1) | exact HB.out)))); have n4_ := Aside0.mk (below_step (by repeat (first | (with_reducible first | exact HB.out | apply below_alloc | apply pw_below_drewN | apply below_drew1) | exact HB.out)) hb); clear HO141; clear HO144; clear HO149; clear HB; have HO141 := n0_; have HO144 := n1_; have HO149 := n2_; have HO152 := n3_; have HB := n4_; clear n0_ n1_ n2_ n3_ n4_; clear hb ho20; obtain ⟨Ao21, co21, eo21⟩ := Kd.R_slice HO152.out; subst eo21) | ((with_reducible refine gate_callee (f := 9) rfl ?_); refine goesL_ (some 18) rfl rfl Try.func9 (by kernel_rfl) rfl #[.slice Ao21 y150.length co21] rfl (by (try simp only [List.map_toArray, List.map_cons, List.map_nil]); first | done | rfl | (simp only [List.length_drop, List.length_take]; rfl)) ?_; (with_reducible refine (utf16_Scalars.calls k _ _ y150 t153 t154 t155 _ ?side1 ?side2 A3.out).mono ?_); (case side1 => repeat (first | exact (Kd.R_reads' HO152.out).2.2 | (with_reducible refine Kd.C_alloc ?_ _) | (with_reducible refine Kd.C_drewN ?_ _) | (with_reducible refine Kd.C_drew ?_))); (case side2 => exact (Kd.R_reads' HO152.out).2.1); rintro e w22 ⟨v156, rfl, ho0, hb⟩; refine ⟨_, rfl, ?_⟩; have n0_ := Aside0.mk (Kd.R_elder' (by (with_reducible repeat (first | apply Kd.R_alloc | apply Kd.R_drewN | apply Kd.R_drew)); exact HO141.out) (Kd.R_base ho0) hb); have n1_ := Aside0.mk (Kd.R_below (by (with_reducible repeat (first | apply Kd.R_alloc | apply Kd.R_drewN | apply Kd.R_drew)); exact HO144.out) hb); have n2_ := Aside0.mk (Kd.R_elder' (by (with_reducible repeat (first | apply Kd.R_alloc | apply Kd.R_drewN | apply Kd.R_drew)); exact HO149.out) (Kd.R_base ho0) hb); have n3_ := Aside0.mk (Kd.R_below (by (with_reducible repeat (first | apply Kd.R_alloc | apply Kd.R_drewN | apply Kd.R_drew)); exact HO152.out) hb); have n4_ := Aside0.mk (Kd.R_lower (Kd.R_new' (Kd.R_new' ho0 (Kd.R_lt (by (with_reducible repeat (first | apply Kd.R_alloc | apply Kd.R_drewN | apply Kd.R_drew)); exact HO141.out))) (Kd.R_lt (by (with_reducible repeat (first | apply Kd.R_alloc | apply Kd.R_drewN | apply Kd.R_drew)); exact HO149.out))) (below_size (by repeat (first | (with_reducible first | exact HB.out | apply below_alloc | apply pw_below_drewN | apply below_drew1) | exact HB.out)))); have n5_ := Aside0.mk (below_step (by repeat (first | (with_reducible first | exact HB.out | apply below_alloc | apply pw_below_drewN | apply below_drew1) | exact HB.out)) hb); clear HO141; clear HO144; clear HO149; clear HO152; clear HB; have HO141 := n0_; have HO144 := n1_; have HO149 := n2_; have HO152 := n3_; have HO157 := n4_; have HB := n5_; clear n0_ n1_ n2_ n3_ n4_ n5_; (try clear hb); (try clear hb2); (try clear hk); (try clear hi); (try clear ho0)) | ((with_reducible refine gate_dst (N := 22) rfl ?_); (try (refine gate_guard (by rfl) ?_; dsimp only)); refine Kd.R_lit (Kd.int .i32) _ 21 ?hg (N := 22) ?hd (xs := ([128512] : List Int)) (inner := [.int .i32 128512]) (ok := fun _ => True) (okp := fun _ => True) ?hr ?hp (fun _ hk => hk) trivial (Below.refl _ _) (Nat.le_refl _) (by simp) ?_; (case hd => rfl); (case hg => rfl); (case hr => first | (go_simp; done) | (go_simp; rfl)); (case hp => exact (Reps.one (show Kd.M (Kd.int .i32) _ _ _ 128512 [.int .i32 128512] from rfl) (Reps.none _ _))); intro v159 w23 ho24 hb hg_ hnew_; clear hg_ hnew_; (first | rw [← Ny158.out] at ho24 | (simp only [Int.reduceToNat] at ho24; rw [← Ny158.out] at ho24)); have n0_ := Aside0.mk (Kd.R_elder' (by (with_reducible repeat (first | apply Kd.R_alloc | apply Kd.R_drewN | apply Kd.R_drew)); exact HO141.out) (Kd.R_base ho24) hb); have n1_ := Aside0.mk (Kd.R_below (by (with_reducible repeat (first | apply Kd.R_alloc | apply Kd.R_drewN | apply Kd.R_drew)); exact HO144.out) hb); have n2_ := Aside0.mk (Kd.R_elder' (by (with_reducible repeat (first | apply Kd.R_alloc | apply Kd.R_drewN | apply Kd.R_drew)); exact HO149.out) (Kd.R_base ho24) hb); have n3_ := Aside0.mk (Kd.R_below (by (with_reducible repeat (first | apply Kd.R_alloc | apply Kd.R_drewN | apply Kd.R_drew)); exact HO152.out) hb); have n4_ := Aside0.mk (Kd.R_elder' (by (with_reducible repeat (first | apply Kd.R_alloc | apply Kd.R_drewN | apply Kd.R_drew)); exact HO157.out) (Kd.R_base ho24) hb); have n5_ := Aside0.mk (Kd.R_lower (Kd.R_new' (Kd.R_new' (Kd.R_new' ho24 (Kd.R_lt (by (with_reducible repeat (first | apply Kd.R_alloc | apply Kd.R_drewN | apply Kd.R_drew)); exact HO141.out))) (Kd.R_lt (by (with_reducible repeat (first | apply Kd.R_alloc | apply Kd.R_drewN | apply Kd.R_drew)); exact HO149.out))) (Kd.R_lt (by (with_reducible repeat (first | apply Kd.R_alloc | apply Kd.R_drewN | apply Kd.R_drew)); exact HO157.out))) (below_size (by repeat (first | (with_reducible first | exact HB.out | apply below_alloc | apply pw_below_drewN | apply below_drew1) | exact HB.out)))); have n6_ := Aside0.mk (below_step (by repeat (first | (with_reducible first | exact HB.out | apply below_alloc | apply pw_below_drewN | apply below_drew1) | exact HB.out)) hb); clear HO141; clear HO144; clear HO149; clear HO152; clear HO157; clear HB; have HO141 := n0_; have HO144 := n1_; have HO149 := n2_; have HO152 := n3_; have HO157 := n4_; have HO160 := n5_; have HB := n6_; clear n0_ n1_ n2_ n3_ n4_ n5_ n6_; clear hb ho24) | ((with_reducible refine gate_dst (N := 23) rfl ?_); (try (refine gate_guard (by rfl) ?_; dsimp only)); refine Kd.R_lit (Kd.int .i32) _ 21 ?hg (N := 23) ?hd (xs := ([64307] : List Int)) (inner := [.int .i32 64307]) (ok := fun _ => True) (okp := fun _ => True) ?hr ?hp (fun _ hk => hk) trivial (Below.refl _ _) (Nat.le_refl _) (by simp) ?_; (case hd => rfl); (case hg => rfl); (case hr => first | (go_simp; done) | (go_simp; rfl)); (case hp => exact (Reps.one (show Kd.M (Kd.int .i32) _ _ _ 64307 [.int .i32 64307] from rfl) (Reps.none _ _))); intro v162 w25 ho26 hb hg_ hnew_; clear hg_ hnew_; (first | rw [← Ny161.out] at ho26 | (simp only [Int.reduceToNat] at ho26; rw [← Ny161.out] at ho26)); have n0_ := Aside0.mk (Kd.R_elder' (by (with_reducible repeat (first | apply Kd.R_alloc | apply Kd.R_drewN | apply Kd.R_drew)); exact HO141.out) (Kd.R_base ho26) hb); have n1_ := Aside0.mk (Kd.R_below (by (with_reducible repeat (first | apply Kd.R_alloc | apply Kd.R_drewN | apply Kd.R_drew)); exact HO144.out) hb); have n2_ := Aside0.mk (Kd.R_elder' (by (with_reducible repeat (first | apply Kd.R_alloc | apply Kd.R_drewN | apply Kd.R_drew)); exact HO149.out) (Kd.R_base ho26) hb); have n3_ := Aside0.mk (Kd.R_below (by (with_reducible repeat (first | apply Kd.R_alloc | apply Kd.R_drewN | apply Kd.R_drew)); exact HO152.out) hb); have n4_ := Aside0.mk (Kd.R_elder' (by (with_reducible repeat (first | apply Kd.R_alloc | apply Kd.R_drewN | apply Kd.R_drew)); exact HO157.out) (Kd.R_base ho26) hb); have n5_ := Aside0.mk (Kd.R_elder' (by (with_reducible repeat (first | apply Kd.R_alloc | apply Kd.R_drewN | apply Kd.R_drew)); exact HO160.out) (Kd.R_base ho26) hb); have n6_ := Aside0.mk (Kd.R_lower (Kd.R_new' (Kd.R_new' (Kd.R_new' (Kd.R_new' ho26 (Kd.R_lt (by (with_reducible repeat (first | apply Kd.R_alloc | apply Kd.R_drewN | apply Kd.R_drew)); exact HO141.out))) (Kd.R_lt (by (with_reducible repeat (first | apply Kd.R_alloc | apply Kd.R_drewN | apply Kd.R_drew)); exact HO149.out))) (Kd.R_lt (by (with_reducible repeat (first | apply Kd.R_alloc | apply Kd.R_drewN | apply Kd.R_drew)); exact HO157.out))) (Kd.R_lt (by (with_reducible repeat (first | apply Kd.R_alloc | apply Kd.R_drewN | apply Kd.R_drew)); exact HO160.out))) (below_size (by repeat (first | (with_reducible first | exact HB.out | apply below_alloc | apply pw_below_drewN | apply below_drew1) | exact HB.out)))); have n7_ := Aside0.mk (below_step (by repeat (first | (with_reducible first | exact HB.out | apply below_alloc | apply pw_below_drewN | apply below_drew1) | exact HB.out)) hb); clear HO141; clear HO144; clear HO149; clear HO152; clear HO157; clear HO160; clear HB; have HO141 := n0_; have HO144 := n1_; have HO149 := n2_; have HO152 := n3_; have HO157 := n4_; have HO160 := n5_; have HO163 := n6_; have HB := n7_; clear n0_ n1_ n2_ n3_ n4_ n5_ n6_ n7_; clear hb ho26; obtain ⟨Ao27, co27, eo27⟩ := Kd.R_slice HO160.out; subst eo27; obtain ⟨Ao28, co28, eo28⟩ := Kd.R_slice HO163.out; subst eo28) | ((with_reducible refine gate_callee (f := 15) rfl ?_); refine goesL_ (some 24) rfl rfl Try.func15 (by kernel_rfl) rfl #[.slice Ao27 y158.length co27, .slice Ao28 y161.length co28] rfl (by (try simp only [List.map_toArray, List.map_cons, List.map_nil]); first | done | rfl | (simp only [List.length_drop, List.length_take]; rfl)) ?_; (with_reducible refine (utf16_Compare.calls k _ _ y158 _ _ y161 t164 _ ?side1 ?side2 ?side3 ?side4 A4.out).mono ?_); (case side1 => repeat (first | exact (Kd.R_reads' HO160.out).2.2 | (with_reducible refine Kd.C_alloc ?_ _) | (with_reducible refine Kd.C_drewN ?_ _) | (with_reducible refine Kd.C_drew ?_))); (case side2 => exact (Kd.R_reads' HO160.out).2.1); (case side3 => repeat (first | exact (Kd.R_reads' HO163.out).2.2 | (with_reducible refine Kd.C_alloc ?_ _) | (with_reducible refine Kd.C_drewN ?_ _) | (with_reducible refine Kd.C_drew ?_))); (case side4 => exact (Kd.R_reads' HO163.out).2.1); rintro e w29 ⟨rfl, hb⟩; refine ⟨_, rfl, ?_⟩; have n0_ := Aside0.mk (Kd.R_below (by (with_reducible repeat (first | apply Kd.R_alloc | apply Kd.R_drewN | apply Kd.R_drew)); exact HO141.out) hb); have n1_ := Aside0.mk (Kd.R_below (by (with_reducible repeat (first | apply Kd.R_alloc | apply Kd.R_drewN | apply Kd.R_drew)); exact HO144.out) hb); have n2_ := Aside0.mk (Kd.R_below (by (with_reducible repeat (first | apply Kd.R_alloc | apply Kd.R_drewN | apply Kd.R_drew)); exact HO149.out) hb); have n3_ := Aside0.mk (Kd.R_below (by (with_reducible repeat (first | apply Kd.R_alloc | apply Kd.R_drewN | apply Kd.R_drew)); exact HO152.out) hb); have n4_ := Aside0.mk (Kd.R_below (by (with_reducible repeat (first | apply Kd.R_alloc | apply Kd.R_drewN | apply Kd.R_drew)); exact HO157.out) hb); have n5_ := Aside0.mk (Kd.R_below (by (with_reducible repeat (first | apply Kd.R_alloc | apply Kd.R_drewN | apply Kd.R_drew)); exact HO160.out) hb); have n6_ := Aside0.mk (Kd.R_below (by (with_reducible repeat (first | apply Kd.R_alloc | apply Kd.R_drewN | apply Kd.R_drew)); exact HO163.out) hb); have n7_ := Aside0.mk (below_step (by repeat (first | (with_reducible first | exact HB.out | apply below_alloc | apply pw_below_drewN | apply below_drew1) | exact HB.out)) hb); clear HO141; clear HO144; clear HO149; clear HO152; clear HO157; clear HO160; clear HO163; clear HB; have HO141 := n0_; have HO144 := n1_; have HO149 := n2_; have HO152 := n3_; have HO157 := n4_; have HO160 := n5_; have HO163 := n6_; have HB := n7_; clear n0_ n1_ n2_ n3_ n4_ n5_ n6_ n7_; (try clear hb); (try clear hb2); (try clear hk); (try clear hi); have p165 : 0 ≤ (0 : Int) := (by omega); have q165 : 0 < (t142.length : Int) := of_decide_eq_true (by first | (with_reducible assumption) | assumption); obtain ⟨ad165, e165, hx165_0⟩ := Kd.at_int (Kd.R_reads' HO144.out).2.2 0 p165 q165; cases e165; have qi165 : (0 < t142.length) = True := eq_true (by omega); (try rw [show ((0 : Int)).toNat = 0 from rfl] at hx165_0); (try rw [Addr.add_zero'] at hx165_0); replace p165 := eq_true p165; replace q165 := eq_true q165; obtain ⟨Ao30, co30, eo30⟩ := Kd.R_slice HO149.out; subst eo30))
                  go_ret
                  exact ⟨by first | rfl | (simp [errW_none, errW_some] <;> rfl) | (simp [*, errW_none, errW_some] <;> rfl), by repeat (first | (with_reducible first | exact HB.out | apply below_alloc | apply pw_below_drewN | apply below_drew1) | exact HB.out)⟩
                · rw [if_neg c12] at H
                  have c12b0 : (t154 == 1) = false := beq_eq_false_iff_ne.mpr c12
                  have c12b1 : (t154 != 1) = true := bne_iff_ne.mpr c12
                  obtain rfl := Option.some.inj H
                  exact absurd hT_.out (by decide)
              · replace c11 := Bool.eq_false_iff.mpr c11
                subst c11
                have H1 : (some false) = some r := by rw [if_neg (show ¬ (false = true) by decide)] at H; exact H
                clear H
                have H := H1
                clear H1
                obtain rfl := Option.some.inj H
                exact absurd hT_.out (by decide)
            · rw [if_neg c10] at H
              have c10b0 : (t146 == 3) = false := beq_eq_false_iff_ne.mpr c10
              have c10b1 : (t146 != 3) = true := bne_iff_ne.mpr c10
              obtain rfl := Option.some.inj H
              exact absurd hT_.out (by decide)
          · rw [if_neg c9] at H
            have c9b0 : ((t145.length : Int) == 2) = false := beq_eq_false_iff_ne.mpr c9
            have c9b1 : ((t145.length : Int) != 2) = true := bne_iff_ne.mpr c9
            obtain rfl := Option.some.inj H
            exact absurd hT_.out (by decide)
        · rw [if_neg c8] at H
          have c8b0 : ((rd t142 0) == 55357) = false := beq_eq_false_iff_ne.mpr c8
          have c8b1 : ((rd t142 0) != 55357) = true := bne_iff_ne.mpr c8
          obtain rfl := Option.some.inj H
          exact absurd hT_.out (by decide)
      · rw [if_neg c7] at H
        exact absurd H (by simp)
    · rw [if_neg c6] at H
      have c6b0 : ((t142.length : Int) == 3) = false := beq_eq_false_iff_ne.mpr c6
      have c6b1 : ((t142.length : Int) != 3) = true := bne_iff_ne.mpr c6
      obtain rfl := Option.some.inj H
      exact absurd hT_.out (by decide)
  · rw [if_neg c5] at H
    have c5b0 : (t164 == (-1)) = false := beq_eq_false_iff_ne.mpr c5
    have c5b1 : (t164 != (-1)) = true := bne_iff_ne.mpr c5
    obtain rfl := Option.some.inj H
    exact absurd hT_.out (by decide)
/-! ### orthoepylaw03_awake: function 8, its one answer -/
def orthoepylaw03_awake.f : Option (Bool) := some true
theorem orthoepylaw03_awake.calls (r : Bool) (w : World) (h : orthoepylaw03_awake.f = some r) :
    Calls Try.prog 8 #[] w fun e w' => e = .returned (.bool r) ∧ Below w.heap.size w w' := by
  obtain rfl := Option.some.inj h
  exact orthoepylaw03_awake0.calls 60 true w (by decide +kernel) ⟨rfl⟩

/-! ### orthoepyref01_High: function 27 -/
def orthoepyref01_High.f (a0 : Int) : Option (Bool) := if a0 ≥ 55296 then (some (decide (a0 ≤ 56319))) else (some false)
set_option maxHeartbeats 8000000 in
set_option maxRecDepth 100000 in
theorem orthoepyref01_High.calls (a0 : Int) (r : Bool) (w : World) (h : orthoepyref01_High.f a0 = some r) :
    Calls Try.prog 27 #[.int .u16 a0] w fun e w' => e = .returned (.bool r) ∧ Drawn0 w w' := by
  have H : (if a0 ≥ 55296 then (some (decide (a0 ≤ 56319))) else (some false)) = some r := h
  clear h
  by_cases c2 : a0 ≥ 55296
  · rw [if_pos c2] at H
    have c2b0 : decide (55296 ≤ a0) = true := decide_eq_true c2
    clear c2
    obtain rfl := Option.some.inj H
    go_enter Try.func27, Try.ntmps27
    go_wp2
    go_ret
    exact ⟨by first | rfl | (simp; done) | (simp [*]; done), by repeat (first | exact Drawn0.refl _ | apply Drawn0.step)⟩
  · rw [if_neg c2] at H
    have c2b0 : decide (55296 ≤ a0) = false := decide_eq_false c2
    clear c2
    obtain rfl := Option.some.inj H
    go_enter Try.func27, Try.ntmps27
    go_wp2
    go_ret
    exact ⟨by first | rfl | (simp; done) | (simp [*]; done), by repeat (first | exact Drawn0.refl _ | apply Drawn0.step)⟩

/-! ### orthoepyref01_Low: function 28 -/
def orthoepyref01_Low.f (a0 : Int) : Option (Bool) := if a0 ≥ 56320 then (some (decide (a0 ≤ 57343))) else (some false)
set_option maxHeartbeats 8000000 in
set_option maxRecDepth 100000 in
theorem orthoepyref01_Low.calls (a0 : Int) (r : Bool) (w : World) (h : orthoepyref01_Low.f a0 = some r) :
    Calls Try.prog 28 #[.int .u16 a0] w fun e w' => e = .returned (.bool r) ∧ Drawn0 w w' := by
  have H : (if a0 ≥ 56320 then (some (decide (a0 ≤ 57343))) else (some false)) = some r := h
  clear h
  by_cases c2 : a0 ≥ 56320
  · rw [if_pos c2] at H
    have c2b0 : decide (56320 ≤ a0) = true := decide_eq_true c2
    clear c2
    obtain rfl := Option.some.inj H
    go_enter Try.func28, Try.ntmps28
    go_wp2
    go_ret
    exact ⟨by first | rfl | (simp; done) | (simp [*]; done), by repeat (first | exact Drawn0.refl _ | apply Drawn0.step)⟩
  · rw [if_neg c2] at H
    have c2b0 : decide (56320 ≤ a0) = false := decide_eq_false c2
    clear c2
    obtain rfl := Option.some.inj H
    go_enter Try.func28, Try.ntmps28
    go_wp2
    go_ret
    exact ⟨by first | rfl | (simp; done) | (simp [*]; done), by repeat (first | exact Drawn0.refl _ | apply Drawn0.step)⟩

/-! ### orthoepyref01_Join: function 26 -/
def orthoepyref01_Join.f (a0 : Int) (a1 : Int) : Option (Int × Bool) := (orthoepyref01_High.f a0).bind fun t166 => (if t166 = true then ((orthoepyref01_Low.f a1).bind fun t167 => (if t167 = true then (some (wrap32 ((wrap32 ((wrap32 (65536 + (wrap32 ((wrap32 ((wrap32 (a0)) - 55296)) * 1024)))) + (wrap32 (a1)))) - 56320), true)) else (some (0, false)))) else (some (0, false)))
set_option maxHeartbeats 8000000 in
set_option maxRecDepth 100000 in
theorem orthoepyref01_Join.calls (a0 : Int) (a1 : Int) (r1 : Int) (r2 : Bool) (w : World) (h : orthoepyref01_Join.f a0 a1 = some (r1, r2)) :
    Calls Try.prog 26 #[.int .u16 a0, .int .u16 a1] w fun e w' => e = .returned (.tuple #[.int .i32 r1, .bool r2]) ∧ Drawn0 w w' := by
  have H : ((orthoepyref01_High.f a0).bind fun t166 => (if t166 = true then ((orthoepyref01_Low.f a1).bind fun t167 => (if t167 = true then (some (wrap32 ((wrap32 ((wrap32 (65536 + (wrap32 ((wrap32 ((wrap32 (a0)) - 55296)) * 1024)))) + (wrap32 (a1)))) - 56320), true)) else (some (0, false)))) else (some (0, false)))) = some (r1, r2) := h
  clear h
  replace H := Option.bind_eq_some_iff.mp H
  obtain ⟨t166, A30, H⟩ := H
  replace H : (if t166 = true then ((orthoepyref01_Low.f a1).bind fun t167 => (if t167 = true then (some (wrap32 ((wrap32 ((wrap32 (65536 + (wrap32 ((wrap32 ((wrap32 (a0)) - 55296)) * 1024)))) + (wrap32 (a1)))) - 56320), true)) else (some (0, false)))) else (some (0, false))) = some (r1, r2) := H
  have A3 := Aside0.mk A30
  clear A30
  by_cases c4 : t166 = true
  · subst c4
    have H1 : ((orthoepyref01_Low.f a1).bind fun t167 => (if t167 = true then (some (wrap32 ((wrap32 ((wrap32 (65536 + (wrap32 ((wrap32 ((wrap32 (a0)) - 55296)) * 1024)))) + (wrap32 (a1)))) - 56320), true)) else (some (0, false)))) = some (r1, r2) := by rw [if_pos rfl] at H; exact H
    clear H
    have H := H1
    clear H1
    replace H := Option.bind_eq_some_iff.mp H
    obtain ⟨t167, A50, H⟩ := H
    replace H : (if t167 = true then (some (wrap32 ((wrap32 ((wrap32 (65536 + (wrap32 ((wrap32 ((wrap32 (a0)) - 55296)) * 1024)))) + (wrap32 (a1)))) - 56320), true)) else (some (0, false))) = some (r1, r2) := H
    have A5 := Aside0.mk A50
    clear A50
    by_cases c6 : t167 = true
    · subst c6
      have H1 : (some (wrap32 ((wrap32 ((wrap32 (65536 + (wrap32 ((wrap32 ((wrap32 (a0)) - 55296)) * 1024)))) + (wrap32 (a1)))) - 56320), true)) = some (r1, r2) := by rw [if_pos rfl] at H; exact H
      clear H
      have H := H1
      clear H1
      simp only [Option.some.injEq, Prod.mk.injEq] at H
      obtain ⟨rfl, rfl⟩ := H
      go_enter Try.func26, Try.ntmps26
      go_wp2_with (first | ((with_reducible refine gate_callee (f := 27) rfl ?_); refine goesL_ (some 7) rfl rfl Try.func27 (by kernel_rfl) rfl #[.int .u16 a0] rfl (by (try simp only [List.map_toArray, List.map_cons, List.map_nil]); first | done | rfl | (simp only [List.length_drop, List.length_take]; rfl)) ?_; (with_reducible refine (orthoepyref01_High.calls a0 true _ A3.out).mono ?_); rintro e w' ⟨rfl, ⟨nd, rfl⟩⟩; refine ⟨_, rfl, ?_⟩) | (go_at_call 28; (with_reducible refine (orthoepyref01_Low.calls a1 true _ A5.out).mono ?_); rintro e w' ⟨rfl, ⟨nd, rfl⟩⟩))
      go_ret2
      exact ⟨by first | rfl | (simp; done) | (simp [*]; done), by repeat (first | exact Drawn0.refl _ | apply Drawn0.step)⟩
    · replace c6 := Bool.eq_false_iff.mpr c6
      subst c6
      have H1 : (some (0, false)) = some (r1, r2) := by rw [if_neg (show ¬ (false = true) by decide)] at H; exact H
      clear H
      have H := H1
      clear H1
      simp only [Option.some.injEq, Prod.mk.injEq] at H
      obtain ⟨rfl, rfl⟩ := H
      go_enter Try.func26, Try.ntmps26
      go_wp2_with (first | ((with_reducible refine gate_callee (f := 27) rfl ?_); refine goesL_ (some 7) rfl rfl Try.func27 (by kernel_rfl) rfl #[.int .u16 a0] rfl (by (try simp only [List.map_toArray, List.map_cons, List.map_nil]); first | done | rfl | (simp only [List.length_drop, List.length_take]; rfl)) ?_; (with_reducible refine (orthoepyref01_High.calls a0 true _ A3.out).mono ?_); rintro e w' ⟨rfl, ⟨nd, rfl⟩⟩; refine ⟨_, rfl, ?_⟩) | (go_at_call 28; (with_reducible refine (orthoepyref01_Low.calls a1 false _ A5.out).mono ?_); rintro e w' ⟨rfl, ⟨nd, rfl⟩⟩))
      go_ret2
      exact ⟨by first | rfl | (simp; done) | (simp [*]; done), by repeat (first | exact Drawn0.refl _ | apply Drawn0.step)⟩
  · replace c4 := Bool.eq_false_iff.mpr c4
    subst c4
    have H1 : (some (0, false)) = some (r1, r2) := by rw [if_neg (show ¬ (false = true) by decide)] at H; exact H
    clear H
    have H := H1
    clear H1
    simp only [Option.some.injEq, Prod.mk.injEq] at H
    obtain ⟨rfl, rfl⟩ := H
    go_enter Try.func26, Try.ntmps26
    go_wp2_with (first | ((with_reducible refine gate_callee (f := 27) rfl ?_); refine goesL_ (some 7) rfl rfl Try.func27 (by kernel_rfl) rfl #[.int .u16 a0] rfl (by (try simp only [List.map_toArray, List.map_cons, List.map_nil]); first | done | rfl | (simp only [List.length_drop, List.length_take]; rfl)) ?_; (with_reducible refine (orthoepyref01_High.calls a0 false _ A3.out).mono ?_); rintro e w' ⟨rfl, ⟨nd, rfl⟩⟩; refine ⟨_, rfl, ?_⟩))
    go_ret2
    exact ⟨by first | rfl | (simp; done) | (simp [*]; done), by repeat (first | exact Drawn0.refl _ | apply Drawn0.step)⟩

end Go.Proofs.Ythgloaihgpcjjaa.PAll
