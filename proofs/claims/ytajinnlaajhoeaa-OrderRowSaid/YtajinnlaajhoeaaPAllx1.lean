-- The machine's side of laws, written by a program of this session (wip/gen/pp.sh). Lean checks it.
import Derived.Test.YtajinnlaajhoeaaPAllx0
namespace Go.Proofs.Ytajinnlaajhoeaa.PAll
open Go.RowKit Go.Proofs.YtajinnlaajhoeaaW.PrintWords Go.Proofs.YtajinnlaajhoeaaW.PrintLast
set_option linter.unusedVariables false
set_option linter.unusedSimpArgs false

/-! ### orthoepyref02_long: function 54 -/
mutual
def orthoepyref02_long.j0 : Nat → Int → Bool → Option (Int)
  | 0, _, _ => none
  | k + 1, x0, x6 => if x6 = true then (some 2) else (if x0 ≥ 224 then (orthoepyref02_long.j1 k x0 (decide (x0 ≤ 239))) else (orthoepyref02_long.j1 k x0 false))
def orthoepyref02_long.j1 : Nat → Int → Bool → Option (Int)
  | 0, _, _ => none
  | k + 1, x0, x13 => if x13 = true then (some 3) else (if x0 ≥ 240 then (if x0 ≤ 244 then (some 4) else (some 0)) else (some 0))
end
def orthoepyref02_long.f (k : Nat) (a0 : Int) : Option (Int) := if a0 < 128 then (some 1) else (if a0 ≥ 194 then (orthoepyref02_long.j0 k a0 (decide (a0 ≤ 223))) else (orthoepyref02_long.j0 k a0 false))
theorem orthoepyref02_long.mono_l : ∀ k, (∀ y0 y1, LeO (orthoepyref02_long.j0 k y0 y1) (orthoepyref02_long.j0 (k + 1) y0 y1)) ∧ (∀ y0 y1, LeO (orthoepyref02_long.j1 k y0 y1) (orthoepyref02_long.j1 (k + 1) y0 y1))
  | 0 => ⟨fun _ _ r h => by simp [orthoepyref02_long.j0] at h, fun _ _ r h => by simp [orthoepyref02_long.j1] at h⟩
  | k + 1 => by
    obtain ⟨ih0, ih1⟩ := orthoepyref02_long.mono_l k
    refine ⟨?_, ?_⟩
    · intro y0 y1
      unfold orthoepyref02_long.j0
      repeat' first
      | (with_reducible exact ih0 _ _)
      | (with_reducible exact ih1 _ _)
      | (with_reducible exact LeO.refl _)
      | (with_reducible exact LeO.none _)
      | (with_reducible refine LeO.ite ?_ ?_)
      | (with_reducible refine LeO.bind ?_ (fun _ => ?_))
      | exact ih0 _ _
      | exact ih1 _ _
      | exact LeO.none _
      | refine LeO.ite ?_ ?_
      | refine LeO.bind ?_ (fun _ => ?_)
    · intro y0 y1
      unfold orthoepyref02_long.j1
      repeat' first
      | (with_reducible exact ih0 _ _)
      | (with_reducible exact ih1 _ _)
      | (with_reducible exact LeO.refl _)
      | (with_reducible exact LeO.none _)
      | (with_reducible refine LeO.ite ?_ ?_)
      | (with_reducible refine LeO.bind ?_ (fun _ => ?_))
      | exact ih0 _ _
      | exact ih1 _ _
      | exact LeO.none _
      | refine LeO.ite ?_ ?_
      | refine LeO.bind ?_ (fun _ => ?_)
theorem orthoepyref02_long.mono : ∀ a0 k, LeO (orthoepyref02_long.f k a0) (orthoepyref02_long.f (k + 1) a0) := by
  intro a0 k
  obtain ⟨ih0, ih1⟩ := orthoepyref02_long.mono_l k
  unfold orthoepyref02_long.f
  repeat' first
      | (with_reducible exact ih0 _ _)
      | (with_reducible exact ih1 _ _)
      | (with_reducible exact LeO.refl _)
      | (with_reducible exact LeO.none _)
      | (with_reducible refine LeO.ite ?_ ?_)
      | (with_reducible refine LeO.bind ?_ (fun _ => ?_))
      | exact ih0 _ _
      | exact ih1 _ _
      | exact LeO.none _
      | refine LeO.ite ?_ ?_
      | refine LeO.bind ?_ (fun _ => ?_)
set_option maxHeartbeats 8000000 in
set_option maxRecDepth 100000 in
theorem orthoepyref02_long.calls (k : Nat) (a0 : Int) (r : Int) (w : World) (h : orthoepyref02_long.f k a0 = some r) :
    Calls Try.prog 54 #[.int .u8 a0] w fun e w' => e = .returned (.int .i64 r) ∧ Drawn0 w w' := by
  have H : (if a0 < 128 then (some 1) else (if a0 ≥ 194 then (orthoepyref02_long.j0 k a0 (decide (a0 ≤ 223))) else (orthoepyref02_long.j0 k a0 false))) = some r := h
  clear h
  by_cases c2 : a0 < 128
  · rw [if_pos c2] at H
    have c2b0 : decide (a0 < 128) = true := decide_eq_true c2
    clear c2
    obtain rfl := Option.some.inj H
    go_enter Try.func54, Try.ntmps54
    go_wp2
    go_ret
    exact ⟨by first | rfl | (simp; done) | (simp [*]; done), by repeat (first | exact Drawn0.refl _ | apply Drawn0.step)⟩
  · rw [if_neg c2] at H
    have c2b0 : decide (a0 < 128) = false := decide_eq_false c2
    clear c2
    have HC3 := Aside0.mk H
    clear H
    go_enter Try.func54, Try.ntmps54
    go_upto_region 3 with (fail)
    go_cut [6] (fun v6 wc => ∃ (kq : Nat) (x6_2 : Bool), v6 = .bool x6_2 ∧ Aside0 (orthoepyref02_long.j0 kq a0 x6_2 = some r) ∧ Aside0 (kq ≤ k) ∧ Drawn0 w wc)
    case first =>
      have H := HC3.out
      clear HC3
      by_cases c4 : a0 ≥ 194
      · rw [if_pos c4] at H
        have c4b0 : decide (194 ≤ a0) = true := decide_eq_true c4
        clear c4
        (first | rw [c4b0] | (simp only [i64_w, i32_w]; rw [c4b0]) | skip)
        have H' := Aside0.mk H
        clear H
        go_wp2
        go_meet
        case rel => exact ⟨_, (decide (a0 ≤ 223)), (by first | rfl | (simp; done) | (simp [*]; done)), H', ⟨by first | omega | exact Nat.le_refl _⟩, by repeat (first | exact Drawn0.refl _ | apply Drawn0.step)⟩
      · rw [if_neg c4] at H
        have c4b0 : decide (194 ≤ a0) = false := decide_eq_false c4
        clear c4
        (first | rw [c4b0] | (simp only [i64_w, i32_w]; rw [c4b0]) | skip)
        have H' := Aside0.mk H
        clear H
        go_wp2
        go_meet
        case rel => exact ⟨_, (false), (by first | rfl | (simp; done) | (simp [*]; done)), H', ⟨by first | omega | exact Nat.le_refl _⟩, by repeat (first | exact Drawn0.refl _ | apply Drawn0.step)⟩
    case rest =>
      clear HC3
      try clear c2
      try clear c2b0
      try clear p2
      try clear c4
      try clear c4b0
      obtain ⟨kq, x6_2, rfl, HA, HJ2, ⟨mc2, rfl⟩⟩ := hcut
      cases kq with
      | zero => exact absurd HA.out (by simp [orthoepyref02_long.j0])
      | succ kj2 =>
        have H := HA.out
        clear HA
        simp only [orthoepyref02_long.j0] at H
        by_cases c5 : x6_2 = true
        · subst c5
          have H1 : (some 2) = some r := by rw [if_pos rfl] at H; exact H
          clear H
          have H := H1
          clear H1
          obtain rfl := Option.some.inj H
          go_wp2
          go_ret
          exact ⟨by first | rfl | (simp; done) | (simp [*]; done), by repeat (first | exact Drawn0.refl _ | apply Drawn0.step)⟩
        · replace c5 := Bool.eq_false_iff.mpr c5
          subst c5
          have H1 : (if a0 ≥ 224 then (orthoepyref02_long.j1 kj2 a0 (decide (a0 ≤ 239))) else (orthoepyref02_long.j1 kj2 a0 false)) = some r := by rw [if_neg (show ¬ (false = true) by decide)] at H; exact H
          clear H
          have H := H1
          clear H1
          have HC6 := Aside0.mk H
          clear H
          go_upto_region 5 with (fail)
          go_cut [13] (fun v13 wc => ∃ (kq : Nat) (x13_5 : Bool), v13 = .bool x13_5 ∧ Aside0 (orthoepyref02_long.j1 kq a0 x13_5 = some r) ∧ Aside0 (kq ≤ kj2) ∧ Drawn0 w wc)
          case first =>
            have H := HC6.out
            clear HC6
            by_cases c7 : a0 ≥ 224
            · rw [if_pos c7] at H
              have c7b0 : decide (224 ≤ a0) = true := decide_eq_true c7
              clear c7
              (first | rw [c7b0] | (simp only [i64_w, i32_w]; rw [c7b0]) | skip)
              have H' := Aside0.mk H
              clear H
              go_wp2
              go_meet
              case rel => exact ⟨_, (decide (a0 ≤ 239)), (by first | rfl | (simp; done) | (simp [*]; done)), H', ⟨by have := HJ2.out; first | omega | exact Nat.le_refl _⟩, by repeat (first | exact Drawn0.refl _ | apply Drawn0.step)⟩
            · rw [if_neg c7] at H
              have c7b0 : decide (224 ≤ a0) = false := decide_eq_false c7
              clear c7
              (first | rw [c7b0] | (simp only [i64_w, i32_w]; rw [c7b0]) | skip)
              have H' := Aside0.mk H
              clear H
              go_wp2
              go_meet
              case rel => exact ⟨_, (false), (by first | rfl | (simp; done) | (simp [*]; done)), H', ⟨by have := HJ2.out; first | omega | exact Nat.le_refl _⟩, by repeat (first | exact Drawn0.refl _ | apply Drawn0.step)⟩
          case rest =>
            clear HC6
            try clear c2
            try clear c2b0
            try clear p2
            try clear c4
            try clear c4b0
            try clear c5
            try clear c7
            try clear c7b0
            try clear p2
            obtain ⟨kq, x13_5, rfl, HA, HJ5, ⟨mc5, rfl⟩⟩ := hcut
            cases kq with
            | zero => exact absurd HA.out (by simp [orthoepyref02_long.j1])
            | succ kj5 =>
              have H := HA.out
              clear HA
              simp only [orthoepyref02_long.j1] at H
              by_cases c8 : x13_5 = true
              · subst c8
                have H1 : (some 3) = some r := by rw [if_pos rfl] at H; exact H
                clear H
                have H := H1
                clear H1
                obtain rfl := Option.some.inj H
                go_wp2
                go_ret
                exact ⟨by first | rfl | (simp; done) | (simp [*]; done), by repeat (first | exact Drawn0.refl _ | apply Drawn0.step)⟩
              · replace c8 := Bool.eq_false_iff.mpr c8
                subst c8
                have H1 : (if a0 ≥ 240 then (if a0 ≤ 244 then (some 4) else (some 0)) else (some 0)) = some r := by rw [if_neg (show ¬ (false = true) by decide)] at H; exact H
                clear H
                have H := H1
                clear H1
                by_cases c9 : a0 ≥ 240
                · rw [if_pos c9] at H
                  have c9b0 : decide (240 ≤ a0) = true := decide_eq_true c9
                  clear c9
                  by_cases c10 : a0 ≤ 244
                  · rw [if_pos c10] at H
                    have c10b0 : decide (a0 ≤ 244) = true := decide_eq_true c10
                    clear c10
                    obtain rfl := Option.some.inj H
                    go_wp2
                    go_ret
                    exact ⟨by first | rfl | (simp; done) | (simp [*]; done), by repeat (first | exact Drawn0.refl _ | apply Drawn0.step)⟩
                  · rw [if_neg c10] at H
                    have c10b0 : decide (a0 ≤ 244) = false := decide_eq_false c10
                    clear c10
                    obtain rfl := Option.some.inj H
                    go_wp2
                    go_ret
                    exact ⟨by first | rfl | (simp; done) | (simp [*]; done), by repeat (first | exact Drawn0.refl _ | apply Drawn0.step)⟩
                · rw [if_neg c9] at H
                  have c9b0 : decide (240 ≤ a0) = false := decide_eq_false c9
                  clear c9
                  obtain rfl := Option.some.inj H
                  go_wp2
                  go_ret
                  exact ⟨by first | rfl | (simp; done) | (simp [*]; done), by repeat (first | exact Drawn0.refl _ | apply Drawn0.step)⟩

/-! ### orthoepyref02_second: function 55 -/
def orthoepyref02_second.f (a0 : Int) (a1 : Int) : Option (Bool) := if a0 = 224 then (if a1 ≥ 160 then (some (decide (a1 ≤ 191))) else (some false)) else (if a0 = 237 then (if a1 ≥ 128 then (some (decide (a1 ≤ 159))) else (some false)) else (if a0 = 240 then (if a1 ≥ 144 then (some (decide (a1 ≤ 191))) else (some false)) else (if a0 = 244 then (if a1 ≥ 128 then (some (decide (a1 ≤ 143))) else (some false)) else (if a1 ≥ 128 then (some (decide (a1 ≤ 191))) else (some false)))))
set_option maxHeartbeats 8000000 in
set_option maxRecDepth 100000 in
theorem orthoepyref02_second.calls (a0 : Int) (a1 : Int) (r : Bool) (w : World) (h : orthoepyref02_second.f a0 a1 = some r) :
    Calls Try.prog 55 #[.int .u8 a0, .int .u8 a1] w fun e w' => e = .returned (.bool r) ∧ Drawn0 w w' := by
  have H : (if a0 = 224 then (if a1 ≥ 160 then (some (decide (a1 ≤ 191))) else (some false)) else (if a0 = 237 then (if a1 ≥ 128 then (some (decide (a1 ≤ 159))) else (some false)) else (if a0 = 240 then (if a1 ≥ 144 then (some (decide (a1 ≤ 191))) else (some false)) else (if a0 = 244 then (if a1 ≥ 128 then (some (decide (a1 ≤ 143))) else (some false)) else (if a1 ≥ 128 then (some (decide (a1 ≤ 191))) else (some false)))))) = some r := h
  clear h
  by_cases c3 : a0 = 224
  · rw [if_pos c3] at H
    have c3b0 : (a0 == 224) = true := beq_iff_eq.mpr c3
    have c3b1 : (a0 != 224) = false := bne_eq_false_iff_eq.mpr c3
    clear c3
    by_cases c4 : a1 ≥ 160
    · rw [if_pos c4] at H
      have c4b0 : decide (160 ≤ a1) = true := decide_eq_true c4
      clear c4
      obtain rfl := Option.some.inj H
      go_enter Try.func55, Try.ntmps55
      go_wp2
      go_ret
      exact ⟨by first | rfl | (simp; done) | (simp [*]; done), by repeat (first | exact Drawn0.refl _ | apply Drawn0.step)⟩
    · rw [if_neg c4] at H
      have c4b0 : decide (160 ≤ a1) = false := decide_eq_false c4
      clear c4
      obtain rfl := Option.some.inj H
      go_enter Try.func55, Try.ntmps55
      go_wp2
      go_ret
      exact ⟨by first | rfl | (simp; done) | (simp [*]; done), by repeat (first | exact Drawn0.refl _ | apply Drawn0.step)⟩
  · rw [if_neg c3] at H
    have c3b0 : (a0 == 224) = false := beq_eq_false_iff_ne.mpr c3
    have c3b1 : (a0 != 224) = true := bne_iff_ne.mpr c3
    by_cases c5 : a0 = 237
    · rw [if_pos c5] at H
      have c5b0 : (a0 == 237) = true := beq_iff_eq.mpr c5
      have c5b1 : (a0 != 237) = false := bne_eq_false_iff_eq.mpr c5
      clear c5
      by_cases c6 : a1 ≥ 128
      · rw [if_pos c6] at H
        have c6b0 : decide (128 ≤ a1) = true := decide_eq_true c6
        clear c6
        obtain rfl := Option.some.inj H
        go_enter Try.func55, Try.ntmps55
        go_wp2
        go_ret
        exact ⟨by first | rfl | (simp; done) | (simp [*]; done), by repeat (first | exact Drawn0.refl _ | apply Drawn0.step)⟩
      · rw [if_neg c6] at H
        have c6b0 : decide (128 ≤ a1) = false := decide_eq_false c6
        clear c6
        obtain rfl := Option.some.inj H
        go_enter Try.func55, Try.ntmps55
        go_wp2
        go_ret
        exact ⟨by first | rfl | (simp; done) | (simp [*]; done), by repeat (first | exact Drawn0.refl _ | apply Drawn0.step)⟩
    · rw [if_neg c5] at H
      have c5b0 : (a0 == 237) = false := beq_eq_false_iff_ne.mpr c5
      have c5b1 : (a0 != 237) = true := bne_iff_ne.mpr c5
      by_cases c7 : a0 = 240
      · rw [if_pos c7] at H
        have c7b0 : (a0 == 240) = true := beq_iff_eq.mpr c7
        have c7b1 : (a0 != 240) = false := bne_eq_false_iff_eq.mpr c7
        clear c7
        by_cases c8 : a1 ≥ 144
        · rw [if_pos c8] at H
          have c8b0 : decide (144 ≤ a1) = true := decide_eq_true c8
          clear c8
          obtain rfl := Option.some.inj H
          go_enter Try.func55, Try.ntmps55
          go_wp2
          go_ret
          exact ⟨by first | rfl | (simp; done) | (simp [*]; done), by repeat (first | exact Drawn0.refl _ | apply Drawn0.step)⟩
        · rw [if_neg c8] at H
          have c8b0 : decide (144 ≤ a1) = false := decide_eq_false c8
          clear c8
          obtain rfl := Option.some.inj H
          go_enter Try.func55, Try.ntmps55
          go_wp2
          go_ret
          exact ⟨by first | rfl | (simp; done) | (simp [*]; done), by repeat (first | exact Drawn0.refl _ | apply Drawn0.step)⟩
      · rw [if_neg c7] at H
        have c7b0 : (a0 == 240) = false := beq_eq_false_iff_ne.mpr c7
        have c7b1 : (a0 != 240) = true := bne_iff_ne.mpr c7
        by_cases c9 : a0 = 244
        · rw [if_pos c9] at H
          have c9b0 : (a0 == 244) = true := beq_iff_eq.mpr c9
          have c9b1 : (a0 != 244) = false := bne_eq_false_iff_eq.mpr c9
          clear c9
          by_cases c10 : a1 ≥ 128
          · rw [if_pos c10] at H
            have c10b0 : decide (128 ≤ a1) = true := decide_eq_true c10
            clear c10
            obtain rfl := Option.some.inj H
            go_enter Try.func55, Try.ntmps55
            go_wp2
            go_ret
            exact ⟨by first | rfl | (simp; done) | (simp [*]; done), by repeat (first | exact Drawn0.refl _ | apply Drawn0.step)⟩
          · rw [if_neg c10] at H
            have c10b0 : decide (128 ≤ a1) = false := decide_eq_false c10
            clear c10
            obtain rfl := Option.some.inj H
            go_enter Try.func55, Try.ntmps55
            go_wp2
            go_ret
            exact ⟨by first | rfl | (simp; done) | (simp [*]; done), by repeat (first | exact Drawn0.refl _ | apply Drawn0.step)⟩
        · rw [if_neg c9] at H
          have c9b0 : (a0 == 244) = false := beq_eq_false_iff_ne.mpr c9
          have c9b1 : (a0 != 244) = true := bne_iff_ne.mpr c9
          by_cases c11 : a1 ≥ 128
          · rw [if_pos c11] at H
            have c11b0 : decide (128 ≤ a1) = true := decide_eq_true c11
            clear c11
            obtain rfl := Option.some.inj H
            go_enter Try.func55, Try.ntmps55
            go_wp2
            go_ret
            exact ⟨by first | rfl | (simp; done) | (simp [*]; done), by repeat (first | exact Drawn0.refl _ | apply Drawn0.step)⟩
          · rw [if_neg c11] at H
            have c11b0 : decide (128 ≤ a1) = false := decide_eq_false c11
            clear c11
            obtain rfl := Option.some.inj H
            go_enter Try.func55, Try.ntmps55
            go_wp2
            go_ret
            exact ⟨by first | rfl | (simp; done) | (simp [*]; done), by repeat (first | exact Drawn0.refl _ | apply Drawn0.step)⟩

/-! ### orthoepyref02_How: function 48 -/
mutual
def orthoepyref02_How.j0 : Nat → List Int → Bool → Option (Int)
  | 0, _, _ => none
  | k + 1, x0, x12 => if x12 = true then (some 0) else (if 0 < (x0.length : Int) then ((orthoepyref02_long.f k (rd x0 0)).bind fun t102 => (if t102 < (x0.length : Int) then (some 0) else (orthoepyref02_How.l0 k x0 t102 1))) else (none))
def orthoepyref02_How.l0 : Nat → List Int → Int → Int → Option (Int)
  | 0, _, _, _ => none
  | k + 1, x0, x3, x4 => if x4 < (x0.length : Int) then (if x4 = 1 then (if 0 < (x0.length : Int) then (if 1 < (x0.length : Int) then ((orthoepyref02_second.f (rd x0 0) (rd x0 1)).bind fun t105 => (if t105 = true then (if 0 ≤ x4 then (if (rd x0 x4) < 128 then (some 0) else (if (rd x0 x4) > 191 then (some 0) else (orthoepyref02_How.l0 k x0 x3 (wrap64 (x4 + 1))))) else (none)) else (some 0))) else (none)) else (none)) else (if 0 ≤ x4 then (if (rd x0 x4) < 128 then (some 0) else (if (rd x0 x4) > 191 then (some 0) else (orthoepyref02_How.l0 k x0 x3 (wrap64 (x4 + 1))))) else (none))) else (if x3 = (x0.length : Int) then (some 2) else (some 1))
end
def orthoepyref02_How.f (k : Nat) (l0 : List Int) : Option (Int) := if (l0.length : Int) = 0 then (orthoepyref02_How.j0 k l0 true) else (orthoepyref02_How.j0 k l0 (decide ((l0.length : Int) > 4)))
theorem orthoepyref02_How.mono_l : ∀ k, (∀ y0 y1, LeO (orthoepyref02_How.j0 k y0 y1) (orthoepyref02_How.j0 (k + 1) y0 y1)) ∧ (∀ y0 y1 y2, LeO (orthoepyref02_How.l0 k y0 y1 y2) (orthoepyref02_How.l0 (k + 1) y0 y1 y2))
  | 0 => ⟨fun _ _ r h => by simp [orthoepyref02_How.j0] at h, fun _ _ _ r h => by simp [orthoepyref02_How.l0] at h⟩
  | k + 1 => by
    obtain ⟨ih0, ih1⟩ := orthoepyref02_How.mono_l k
    refine ⟨?_, ?_⟩
    · intro y0 y1
      unfold orthoepyref02_How.j0
      repeat' first
      | (with_reducible exact ih0 _ _)
      | (with_reducible exact ih1 _ _ _)
      | (with_reducible exact orthoepyref02_long.mono _ _)
      | (with_reducible exact LeO.refl _)
      | (with_reducible exact LeO.none _)
      | (with_reducible refine LeO.ite ?_ ?_)
      | (with_reducible refine LeO.bind ?_ (fun _ => ?_))
      | exact ih0 _ _
      | exact ih1 _ _ _
      | exact orthoepyref02_long.mono _ _
      | exact LeO.none _
      | refine LeO.ite ?_ ?_
      | refine LeO.bind ?_ (fun _ => ?_)
    · intro y0 y1 y2
      unfold orthoepyref02_How.l0
      repeat' first
      | (with_reducible exact ih0 _ _)
      | (with_reducible exact ih1 _ _ _)
      | (with_reducible exact orthoepyref02_long.mono _ _)
      | (with_reducible exact LeO.refl _)
      | (with_reducible exact LeO.none _)
      | (with_reducible refine LeO.ite ?_ ?_)
      | (with_reducible refine LeO.bind ?_ (fun _ => ?_))
      | exact ih0 _ _
      | exact ih1 _ _ _
      | exact orthoepyref02_long.mono _ _
      | exact LeO.none _
      | refine LeO.ite ?_ ?_
      | refine LeO.bind ?_ (fun _ => ?_)
theorem orthoepyref02_How.mono : ∀ a0 k, LeO (orthoepyref02_How.f k a0) (orthoepyref02_How.f (k + 1) a0) := by
  intro a0 k
  obtain ⟨ih0, ih1⟩ := orthoepyref02_How.mono_l k
  unfold orthoepyref02_How.f
  repeat' first
      | (with_reducible exact ih0 _ _)
      | (with_reducible exact ih1 _ _ _)
      | (with_reducible exact orthoepyref02_long.mono _ _)
      | (with_reducible exact LeO.refl _)
      | (with_reducible exact LeO.none _)
      | (with_reducible refine LeO.ite ?_ ?_)
      | (with_reducible refine LeO.bind ?_ (fun _ => ?_))
      | exact ih0 _ _
      | exact ih1 _ _ _
      | exact orthoepyref02_long.mono _ _
      | exact LeO.none _
      | refine LeO.ite ?_ ?_
      | refine LeO.bind ?_ (fun _ => ?_)
set_option maxHeartbeats 8000000 in
set_option maxRecDepth 100000 in
theorem orthoepyref02_How.calls (k : Nat) (A0 : Option Addr) (c0 : Nat) (l0 : List Int) (r : Int) (w : World) (hr0 : Kd.C (Kd.int .u8) w A0 l0.length l0) (hc0 : l0.length ≤ c0) (h : orthoepyref02_How.f k l0 = some r) :
    Calls Try.prog 48 #[.slice A0 l0.length c0] w fun e w' => e = .returned (.int .i64 r) ∧ Drawn0 w w' := by
  have HR0 := Aside0.mk hr0
  have HC0 := Aside0.mk hc0
  clear hr0 hc0
  have H : (if (l0.length : Int) = 0 then (orthoepyref02_How.j0 k l0 true) else (orthoepyref02_How.j0 k l0 (decide ((l0.length : Int) > 4)))) = some r := h
  clear h
  have HC2 := Aside0.mk H
  clear H
  go_enter Try.func48, Try.ntmps48
  go_upto_region 1 with (fail)
  repeat (go_quiet (fail); go_upto_region 1 with (fail))
  go_cut [12] (fun v12 wc => ∃ (kq : Nat) (x12_1 : Bool), v12 = .bool x12_1 ∧ Aside0 (orthoepyref02_How.j0 kq l0 x12_1 = some r) ∧ Aside0 (kq ≤ k) ∧ Drawn0 w wc)
  case first =>
    have H := HC2.out
    clear HC2
    by_cases c3 : (l0.length : Int) = 0
    · rw [if_pos c3] at H
      have c3b0 : ((l0.length : Int) == 0) = true := beq_iff_eq.mpr c3
      have c3b1 : ((l0.length : Int) != 0) = false := bne_eq_false_iff_eq.mpr c3
      clear c3
      (first | rw [c3b0] | (simp only [i64_w, i32_w]; rw [c3b0]) | skip)
      have H' := Aside0.mk H
      clear H
      go_wp2
      repeat (go_quiet (fail); try go_wp2)
      go_meet
      case rel => exact ⟨_, (true), (by first | rfl | (simp; done) | (simp [*]; done)), H', ⟨by first | omega | exact Nat.le_refl _⟩, by repeat (first | exact Drawn0.refl _ | apply Drawn0.step)⟩
    · rw [if_neg c3] at H
      have c3b0 : ((l0.length : Int) == 0) = false := beq_eq_false_iff_ne.mpr c3
      have c3b1 : ((l0.length : Int) != 0) = true := bne_iff_ne.mpr c3
      have c3b2 : ¬ (l0 = []) := fun h_ => c3 (by rw [h_]; rfl)
      (first | rw [c3b0] | (simp only [i64_w, i32_w]; rw [c3b0]) | skip)
      have H' := Aside0.mk H
      clear H
      go_wp2
      repeat (go_quiet (fail); try go_wp2)
      go_meet
      case rel => exact ⟨_, (decide ((l0.length : Int) > 4)), (by first | rfl | (simp; done) | (simp [*]; done)), H', ⟨by first | omega | exact Nat.le_refl _⟩, by repeat (first | exact Drawn0.refl _ | apply Drawn0.step)⟩
  case rest =>
    clear HC2
    try clear p2
    try clear c3
    try clear c3b0
    try clear c3b1
    try clear c3b2
    obtain ⟨kq, x12_1, rfl, HA, HJ1, ⟨mc1, rfl⟩⟩ := hcut
    cases kq with
    | zero => exact absurd HA.out (by simp [orthoepyref02_How.j0])
    | succ kj1 =>
      have H := HA.out
      clear HA
      simp only [orthoepyref02_How.j0] at H
      by_cases c4 : x12_1 = true
      · subst c4
        have H1 : (some 0) = some r := by rw [if_pos rfl] at H; exact H
        clear H
        have H := H1
        clear H1
        obtain rfl := Option.some.inj H
        go_wp2
        repeat (go_quiet (fail); try go_wp2)
        go_ret
        exact ⟨by first | rfl | (simp; done) | (simp [*]; done), by repeat (first | exact Drawn0.refl _ | apply Drawn0.step)⟩
      · replace c4 := Bool.eq_false_iff.mpr c4
        subst c4
        have H1 : (if 0 < (l0.length : Int) then ((orthoepyref02_long.f kj1 (rd l0 0)).bind fun t102 => (if t102 < (l0.length : Int) then (some 0) else (orthoepyref02_How.l0 kj1 l0 t102 1))) else (none)) = some r := by rw [if_neg (show ¬ (false = true) by decide)] at H; exact H
        clear H
        have H := H1
        clear H1
        by_cases c5 : 0 < (l0.length : Int)
        · rw [if_pos c5] at H
          have c5b0 : decide (0 < (l0.length : Int)) = true := decide_eq_true c5
          have c5b1 : decide (0 < l0.length) = true := decide_eq_true (by omega)
          clear c5
          replace H := Option.bind_eq_some_iff.mp H
          obtain ⟨t102, A60, H⟩ := H
          replace H : (if t102 < (l0.length : Int) then (some 0) else (orthoepyref02_How.l0 kj1 l0 t102 1)) = some r := H
          have A6 := Aside0.mk A60
          clear A60
          by_cases c7 : t102 < (l0.length : Int)
          · rw [if_pos c7] at H
            have c7b0 : decide (t102 < (l0.length : Int)) = true := decide_eq_true c7
            clear c7
            obtain rfl := Option.some.inj H
            have p101 : 0 ≤ (0 : Int) := (by omega)
            have q101 : 0 < (l0.length : Int) := of_decide_eq_true (by first | (with_reducible assumption) | assumption)
            obtain ⟨ad101, e101, hx101_0⟩ := Kd.at_int HR0.out 0 p101 q101
            cases e101
            have qi101 : (0 < l0.length) = True := eq_true (by omega)
            (try rw [show ((0 : Int)).toNat = 0 from rfl] at hx101_0)
            (try rw [Addr.add_zero'] at hx101_0)
            replace p101 := eq_true p101
            replace q101 := eq_true q101
            go_wp2_with (first | (go_at_call 54; (with_reducible refine (orthoepyref02_long.calls kj1 (rd l0 0) t102 _ A6.out).mono ?_); rintro e w' ⟨rfl, ⟨nd, rfl⟩⟩; (try first | exact ⟨rfl, _, World.drewN_drewN _ _ _⟩ | exact ⟨rfl, _, Eq.trans (World.drewN_drewN _ _ _) (congrArg (World.drewN _) (Nat.add_assoc _ _ _))⟩)))
            repeat (go_quiet (first | (go_at_call 54; (with_reducible refine (orthoepyref02_long.calls kj1 (rd l0 0) t102 _ A6.out).mono ?_); rintro e w' ⟨rfl, ⟨nd, rfl⟩⟩; (try first | exact ⟨rfl, _, World.drewN_drewN _ _ _⟩ | exact ⟨rfl, _, Eq.trans (World.drewN_drewN _ _ _) (congrArg (World.drewN _) (Nat.add_assoc _ _ _))⟩))); try go_wp2_with (first | (go_at_call 54; (with_reducible refine (orthoepyref02_long.calls kj1 (rd l0 0) t102 _ A6.out).mono ?_); rintro e w' ⟨rfl, ⟨nd, rfl⟩⟩; (try first | exact ⟨rfl, _, World.drewN_drewN _ _ _⟩ | exact ⟨rfl, _, Eq.trans (World.drewN_drewN _ _ _) (congrArg (World.drewN _) (Nat.add_assoc _ _ _))⟩))))
            go_ret
            exact ⟨by first | rfl | (simp; done) | (simp [*]; done), by repeat (first | exact Drawn0.refl _ | apply Drawn0.step)⟩
          · rw [if_neg c7] at H
            have c7b0 : decide (t102 < (l0.length : Int)) = false := decide_eq_false c7
            clear c7
            have H' := Aside0.mk H
            clear H
            have p101 : 0 ≤ (0 : Int) := (by omega)
            have q101 : 0 < (l0.length : Int) := of_decide_eq_true (by first | (with_reducible assumption) | assumption)
            obtain ⟨ad101, e101, hx101_0⟩ := Kd.at_int HR0.out 0 p101 q101
            cases e101
            have qi101 : (0 < l0.length) = True := eq_true (by omega)
            (try rw [show ((0 : Int)).toNat = 0 from rfl] at hx101_0)
            (try rw [Addr.add_zero'] at hx101_0)
            replace p101 := eq_true p101
            replace q101 := eq_true q101
            go_wp2_with (first | (go_at_call 54; (with_reducible refine (orthoepyref02_long.calls kj1 (rd l0 0) t102 _ A6.out).mono ?_); rintro e w' ⟨rfl, ⟨nd, rfl⟩⟩; (try first | exact ⟨rfl, _, World.drewN_drewN _ _ _⟩ | exact ⟨rfl, _, Eq.trans (World.drewN_drewN _ _ _) (congrArg (World.drewN _) (Nat.add_assoc _ _ _))⟩)))
            repeat (go_quiet (first | (go_at_call 54; (with_reducible refine (orthoepyref02_long.calls kj1 (rd l0 0) t102 _ A6.out).mono ?_); rintro e w' ⟨rfl, ⟨nd, rfl⟩⟩; (try first | exact ⟨rfl, _, World.drewN_drewN _ _ _⟩ | exact ⟨rfl, _, Eq.trans (World.drewN_drewN _ _ _) (congrArg (World.drewN _) (Nat.add_assoc _ _ _))⟩))); try go_wp2_with (first | (go_at_call 54; (with_reducible refine (orthoepyref02_long.calls kj1 (rd l0 0) t102 _ A6.out).mono ?_); rintro e w' ⟨rfl, ⟨nd, rfl⟩⟩; (try first | exact ⟨rfl, _, World.drewN_drewN _ _ _⟩ | exact ⟨rfl, _, Eq.trans (World.drewN_drewN _ _ _) (congrArg (World.drewN _) (Nat.add_assoc _ _ _))⟩))))
            go_loopg [4] kj1 (fun kq v4 w' => ∃ (x4_2 : Int), v4 = .int .i64 x4_2 ∧ Aside0 (orthoepyref02_How.l0 kq l0 t102 x4_2 = some r) ∧ Aside0 (kq ≤ kj1) ∧ Drawn0 w w')
            case atStart => exact ⟨(1), (by first | rfl | (simp; done) | (simp [*]; done)), H', ⟨Nat.le_refl _⟩, by repeat (first | exact Drawn0.refl _ | apply Drawn0.step)⟩
            case round =>
              clear H'
              try clear c1
              try clear p1
              try clear q1
              try clear hx1
              try clear qi1
              try clear p2
              try clear c3
              try clear c3b0
              try clear c3b1
              try clear c3b2
              try clear c4
              try clear c5
              try clear c5b0
              try clear c5b1
              try clear c7
              try clear c7b0
              try clear hx101_0
              try clear p101
              try clear p2
              try clear q101
              obtain ⟨x4_2, rfl, HA, HK2, ⟨m2, rfl⟩⟩ := hrel
              cases gk with
              | zero => exact absurd HA.out (by simp [orthoepyref02_How.l0])
              | succ k2 =>
                have H := HA.out
                clear HA
                simp only [orthoepyref02_How.l0] at H
                by_cases c8 : x4_2 < (l0.length : Int)
                · rw [if_pos c8] at H
                  have c8b0 : decide (x4_2 < (l0.length : Int)) = true := decide_eq_true c8
                  clear c8
                  by_cases c9 : x4_2 = 1
                  · rw [if_pos c9] at H
                    have c9b0 : (x4_2 == 1) = true := beq_iff_eq.mpr c9
                    have c9b1 : (x4_2 != 1) = false := bne_eq_false_iff_eq.mpr c9
                    clear c9
                    by_cases c10 : 0 < (l0.length : Int)
                    · rw [if_pos c10] at H
                      have c10b0 : decide (0 < (l0.length : Int)) = true := decide_eq_true c10
                      have c10b1 : decide (0 < l0.length) = true := decide_eq_true (by omega)
                      clear c10
                      by_cases c11 : 1 < (l0.length : Int)
                      · rw [if_pos c11] at H
                        have c11b0 : decide (1 < (l0.length : Int)) = true := decide_eq_true c11
                        have c11b1 : decide (1 < l0.length) = true := decide_eq_true (by omega)
                        clear c11
                        replace H := Option.bind_eq_some_iff.mp H
                        obtain ⟨t105, A120, H⟩ := H
                        replace H : (if t105 = true then (if 0 ≤ x4_2 then (if (rd l0 x4_2) < 128 then (some 0) else (if (rd l0 x4_2) > 191 then (some 0) else (orthoepyref02_How.l0 k2 l0 t102 (wrap64 (x4_2 + 1))))) else (none)) else (some 0)) = some r := H
                        have A12 := Aside0.mk A120
                        clear A120
                        by_cases c13 : t105 = true
                        · subst c13
                          have H1 : (if 0 ≤ x4_2 then (if (rd l0 x4_2) < 128 then (some 0) else (if (rd l0 x4_2) > 191 then (some 0) else (orthoepyref02_How.l0 k2 l0 t102 (wrap64 (x4_2 + 1))))) else (none)) = some r := by rw [if_pos rfl] at H; exact H
                          clear H
                          have H := H1
                          clear H1
                          by_cases c14 : 0 ≤ x4_2
                          · rw [if_pos c14] at H
                            have c14b0 : decide (0 ≤ x4_2) = true := decide_eq_true c14
                            clear c14
                            by_cases c15 : (rd l0 x4_2) < 128
                            · rw [if_pos c15] at H
                              have c15b0 : decide ((rd l0 x4_2) < 128) = true := decide_eq_true c15
                              clear c15
                              obtain rfl := Option.some.inj H
                              have p103 : 0 ≤ (0 : Int) := (by omega)
                              have q103 : 0 < (l0.length : Int) := of_decide_eq_true (by first | (with_reducible assumption) | assumption)
                              obtain ⟨ad103, e103, hx103_0⟩ := Kd.at_int HR0.out 0 p103 q103
                              obtain rfl : ad101 = ad103 := (by injection e103)
                              have qi103 : (0 < l0.length) = True := eq_true (by omega)
                              (try rw [show ((0 : Int)).toNat = 0 from rfl] at hx103_0)
                              (try rw [Addr.add_zero'] at hx103_0)
                              replace p103 := eq_true p103
                              replace q103 := eq_true q103
                              have p104 : 0 ≤ (1 : Int) := (by omega)
                              have q104 : 1 < (l0.length : Int) := of_decide_eq_true (by first | (with_reducible assumption) | assumption)
                              obtain ⟨ad104, e104, hx104_0⟩ := Kd.at_int HR0.out 1 p104 q104
                              obtain rfl : ad101 = ad104 := (by injection e104)
                              (try simp only [show (1 : Int).toNat = 1 from rfl, Nat.reduceMul, Nat.reduceEqDiff, Go.Addr.add, ↓reduceIte] at hx104_0)
                              have qi104 : (1 < l0.length) = True := eq_true (by omega)
                              (try rw [show ((1 : Int)).toNat = 1 from rfl] at hx104_0)
                              replace p104 := eq_true p104
                              replace q104 := eq_true q104
                              go_wp2_with (first | (go_at_call 55; (with_reducible refine (orthoepyref02_second.calls (rd l0 0) (rd l0 1) true _ A12.out).mono ?_); rintro e w' ⟨rfl, ⟨nd, rfl⟩⟩; (try first | exact ⟨rfl, _, World.drewN_drewN _ _ _⟩ | exact ⟨rfl, _, Eq.trans (World.drewN_drewN _ _ _) (congrArg (World.drewN _) (Nat.add_assoc _ _ _))⟩); have p106 : 0 ≤ (x4_2 : Int) := of_decide_eq_true (by first | (with_reducible assumption) | assumption); have q106 : x4_2 < (l0.length : Int) := of_decide_eq_true (by first | (with_reducible assumption) | assumption); obtain ⟨ad106, e106, hx106_0⟩ := Kd.at_int HR0.out x4_2 p106 q106; obtain rfl : ad101 = ad106 := (by injection e106); replace p106 := eq_true p106; replace q106 := eq_true q106))
                              repeat (go_quiet (first | (go_at_call 55; (with_reducible refine (orthoepyref02_second.calls (rd l0 0) (rd l0 1) true _ A12.out).mono ?_); rintro e w' ⟨rfl, ⟨nd, rfl⟩⟩; (try first | exact ⟨rfl, _, World.drewN_drewN _ _ _⟩ | exact ⟨rfl, _, Eq.trans (World.drewN_drewN _ _ _) (congrArg (World.drewN _) (Nat.add_assoc _ _ _))⟩); have p106 : 0 ≤ (x4_2 : Int) := of_decide_eq_true (by first | (with_reducible assumption) | assumption); have q106 : x4_2 < (l0.length : Int) := of_decide_eq_true (by first | (with_reducible assumption) | assumption); obtain ⟨ad106, e106, hx106_0⟩ := Kd.at_int HR0.out x4_2 p106 q106; obtain rfl : ad101 = ad106 := (by injection e106); replace p106 := eq_true p106; replace q106 := eq_true q106)); try go_wp2_with (first | (go_at_call 55; (with_reducible refine (orthoepyref02_second.calls (rd l0 0) (rd l0 1) true _ A12.out).mono ?_); rintro e w' ⟨rfl, ⟨nd, rfl⟩⟩; (try first | exact ⟨rfl, _, World.drewN_drewN _ _ _⟩ | exact ⟨rfl, _, Eq.trans (World.drewN_drewN _ _ _) (congrArg (World.drewN _) (Nat.add_assoc _ _ _))⟩); have p106 : 0 ≤ (x4_2 : Int) := of_decide_eq_true (by first | (with_reducible assumption) | assumption); have q106 : x4_2 < (l0.length : Int) := of_decide_eq_true (by first | (with_reducible assumption) | assumption); obtain ⟨ad106, e106, hx106_0⟩ := Kd.at_int HR0.out x4_2 p106 q106; obtain rfl : ad101 = ad106 := (by injection e106); replace p106 := eq_true p106; replace q106 := eq_true q106)))
                              go_ret
                              exact ⟨by first | rfl | (simp; done) | (simp [*]; done), by repeat (first | exact Drawn0.refl _ | apply Drawn0.step)⟩
                            · rw [if_neg c15] at H
                              have c15b0 : decide ((rd l0 x4_2) < 128) = false := decide_eq_false c15
                              clear c15
                              by_cases c16 : (rd l0 x4_2) > 191
                              · rw [if_pos c16] at H
                                have c16b0 : decide (191 < (rd l0 x4_2)) = true := decide_eq_true c16
                                clear c16
                                obtain rfl := Option.some.inj H
                                have p103 : 0 ≤ (0 : Int) := (by omega)
                                have q103 : 0 < (l0.length : Int) := of_decide_eq_true (by first | (with_reducible assumption) | assumption)
                                obtain ⟨ad103, e103, hx103_0⟩ := Kd.at_int HR0.out 0 p103 q103
                                obtain rfl : ad101 = ad103 := (by injection e103)
                                have qi103 : (0 < l0.length) = True := eq_true (by omega)
                                (try rw [show ((0 : Int)).toNat = 0 from rfl] at hx103_0)
                                (try rw [Addr.add_zero'] at hx103_0)
                                replace p103 := eq_true p103
                                replace q103 := eq_true q103
                                have p104 : 0 ≤ (1 : Int) := (by omega)
                                have q104 : 1 < (l0.length : Int) := of_decide_eq_true (by first | (with_reducible assumption) | assumption)
                                obtain ⟨ad104, e104, hx104_0⟩ := Kd.at_int HR0.out 1 p104 q104
                                obtain rfl : ad101 = ad104 := (by injection e104)
                                (try simp only [show (1 : Int).toNat = 1 from rfl, Nat.reduceMul, Nat.reduceEqDiff, Go.Addr.add, ↓reduceIte] at hx104_0)
                                have qi104 : (1 < l0.length) = True := eq_true (by omega)
                                (try rw [show ((1 : Int)).toNat = 1 from rfl] at hx104_0)
                                replace p104 := eq_true p104
                                replace q104 := eq_true q104
                                go_wp2_with (first | (go_at_call 55; (with_reducible refine (orthoepyref02_second.calls (rd l0 0) (rd l0 1) true _ A12.out).mono ?_); rintro e w' ⟨rfl, ⟨nd, rfl⟩⟩; (try first | exact ⟨rfl, _, World.drewN_drewN _ _ _⟩ | exact ⟨rfl, _, Eq.trans (World.drewN_drewN _ _ _) (congrArg (World.drewN _) (Nat.add_assoc _ _ _))⟩); have p106 : 0 ≤ (x4_2 : Int) := of_decide_eq_true (by first | (with_reducible assumption) | assumption); have q106 : x4_2 < (l0.length : Int) := of_decide_eq_true (by first | (with_reducible assumption) | assumption); obtain ⟨ad106, e106, hx106_0⟩ := Kd.at_int HR0.out x4_2 p106 q106; obtain rfl : ad101 = ad106 := (by injection e106); replace p106 := eq_true p106; replace q106 := eq_true q106; have p107 : 0 ≤ (x4_2 : Int) := of_decide_eq_true (by first | (with_reducible assumption) | assumption); have q107 : x4_2 < (l0.length : Int) := of_decide_eq_true (by first | (with_reducible assumption) | assumption); obtain ⟨ad107, e107, hx107_0⟩ := Kd.at_int HR0.out x4_2 p107 q107; obtain rfl : ad101 = ad107 := (by injection e107); replace p107 := eq_true p107; replace q107 := eq_true q107))
                                repeat (go_quiet (first | (go_at_call 55; (with_reducible refine (orthoepyref02_second.calls (rd l0 0) (rd l0 1) true _ A12.out).mono ?_); rintro e w' ⟨rfl, ⟨nd, rfl⟩⟩; (try first | exact ⟨rfl, _, World.drewN_drewN _ _ _⟩ | exact ⟨rfl, _, Eq.trans (World.drewN_drewN _ _ _) (congrArg (World.drewN _) (Nat.add_assoc _ _ _))⟩); have p106 : 0 ≤ (x4_2 : Int) := of_decide_eq_true (by first | (with_reducible assumption) | assumption); have q106 : x4_2 < (l0.length : Int) := of_decide_eq_true (by first | (with_reducible assumption) | assumption); obtain ⟨ad106, e106, hx106_0⟩ := Kd.at_int HR0.out x4_2 p106 q106; obtain rfl : ad101 = ad106 := (by injection e106); replace p106 := eq_true p106; replace q106 := eq_true q106; have p107 : 0 ≤ (x4_2 : Int) := of_decide_eq_true (by first | (with_reducible assumption) | assumption); have q107 : x4_2 < (l0.length : Int) := of_decide_eq_true (by first | (with_reducible assumption) | assumption); obtain ⟨ad107, e107, hx107_0⟩ := Kd.at_int HR0.out x4_2 p107 q107; obtain rfl : ad101 = ad107 := (by injection e107); replace p107 := eq_true p107; replace q107 := eq_true q107)); try go_wp2_with (first | (go_at_call 55; (with_reducible refine (orthoepyref02_second.calls (rd l0 0) (rd l0 1) true _ A12.out).mono ?_); rintro e w' ⟨rfl, ⟨nd, rfl⟩⟩; (try first | exact ⟨rfl, _, World.drewN_drewN _ _ _⟩ | exact ⟨rfl, _, Eq.trans (World.drewN_drewN _ _ _) (congrArg (World.drewN _) (Nat.add_assoc _ _ _))⟩); have p106 : 0 ≤ (x4_2 : Int) := of_decide_eq_true (by first | (with_reducible assumption) | assumption); have q106 : x4_2 < (l0.length : Int) := of_decide_eq_true (by first | (with_reducible assumption) | assumption); obtain ⟨ad106, e106, hx106_0⟩ := Kd.at_int HR0.out x4_2 p106 q106; obtain rfl : ad101 = ad106 := (by injection e106); replace p106 := eq_true p106; replace q106 := eq_true q106; have p107 : 0 ≤ (x4_2 : Int) := of_decide_eq_true (by first | (with_reducible assumption) | assumption); have q107 : x4_2 < (l0.length : Int) := of_decide_eq_true (by first | (with_reducible assumption) | assumption); obtain ⟨ad107, e107, hx107_0⟩ := Kd.at_int HR0.out x4_2 p107 q107; obtain rfl : ad101 = ad107 := (by injection e107); replace p107 := eq_true p107; replace q107 := eq_true q107)))
                                go_ret
                                exact ⟨by first | rfl | (simp; done) | (simp [*]; done), by repeat (first | exact Drawn0.refl _ | apply Drawn0.step)⟩
                              · rw [if_neg c16] at H
                                have c16b0 : decide (191 < (rd l0 x4_2)) = false := decide_eq_false c16
                                clear c16
                                have H' := Aside0.mk H
                                clear H
                                have p103 : 0 ≤ (0 : Int) := (by omega)
                                have q103 : 0 < (l0.length : Int) := of_decide_eq_true (by first | (with_reducible assumption) | assumption)
                                obtain ⟨ad103, e103, hx103_0⟩ := Kd.at_int HR0.out 0 p103 q103
                                obtain rfl : ad101 = ad103 := (by injection e103)
                                have qi103 : (0 < l0.length) = True := eq_true (by omega)
                                (try rw [show ((0 : Int)).toNat = 0 from rfl] at hx103_0)
                                (try rw [Addr.add_zero'] at hx103_0)
                                replace p103 := eq_true p103
                                replace q103 := eq_true q103
                                have p104 : 0 ≤ (1 : Int) := (by omega)
                                have q104 : 1 < (l0.length : Int) := of_decide_eq_true (by first | (with_reducible assumption) | assumption)
                                obtain ⟨ad104, e104, hx104_0⟩ := Kd.at_int HR0.out 1 p104 q104
                                obtain rfl : ad101 = ad104 := (by injection e104)
                                (try simp only [show (1 : Int).toNat = 1 from rfl, Nat.reduceMul, Nat.reduceEqDiff, Go.Addr.add, ↓reduceIte] at hx104_0)
                                have qi104 : (1 < l0.length) = True := eq_true (by omega)
                                (try rw [show ((1 : Int)).toNat = 1 from rfl] at hx104_0)
                                replace p104 := eq_true p104
                                replace q104 := eq_true q104
                                go_wp2_with (first | (go_at_call 55; (with_reducible refine (orthoepyref02_second.calls (rd l0 0) (rd l0 1) true _ A12.out).mono ?_); rintro e w' ⟨rfl, ⟨nd, rfl⟩⟩; (try first | exact ⟨rfl, _, World.drewN_drewN _ _ _⟩ | exact ⟨rfl, _, Eq.trans (World.drewN_drewN _ _ _) (congrArg (World.drewN _) (Nat.add_assoc _ _ _))⟩); have p106 : 0 ≤ (x4_2 : Int) := of_decide_eq_true (by first | (with_reducible assumption) | assumption); have q106 : x4_2 < (l0.length : Int) := of_decide_eq_true (by first | (with_reducible assumption) | assumption); obtain ⟨ad106, e106, hx106_0⟩ := Kd.at_int HR0.out x4_2 p106 q106; obtain rfl : ad101 = ad106 := (by injection e106); replace p106 := eq_true p106; replace q106 := eq_true q106; have p107 : 0 ≤ (x4_2 : Int) := of_decide_eq_true (by first | (with_reducible assumption) | assumption); have q107 : x4_2 < (l0.length : Int) := of_decide_eq_true (by first | (with_reducible assumption) | assumption); obtain ⟨ad107, e107, hx107_0⟩ := Kd.at_int HR0.out x4_2 p107 q107; obtain rfl : ad101 = ad107 := (by injection e107); replace p107 := eq_true p107; replace q107 := eq_true q107))
                                repeat (go_quiet (first | (go_at_call 55; (with_reducible refine (orthoepyref02_second.calls (rd l0 0) (rd l0 1) true _ A12.out).mono ?_); rintro e w' ⟨rfl, ⟨nd, rfl⟩⟩; (try first | exact ⟨rfl, _, World.drewN_drewN _ _ _⟩ | exact ⟨rfl, _, Eq.trans (World.drewN_drewN _ _ _) (congrArg (World.drewN _) (Nat.add_assoc _ _ _))⟩); have p106 : 0 ≤ (x4_2 : Int) := of_decide_eq_true (by first | (with_reducible assumption) | assumption); have q106 : x4_2 < (l0.length : Int) := of_decide_eq_true (by first | (with_reducible assumption) | assumption); obtain ⟨ad106, e106, hx106_0⟩ := Kd.at_int HR0.out x4_2 p106 q106; obtain rfl : ad101 = ad106 := (by injection e106); replace p106 := eq_true p106; replace q106 := eq_true q106; have p107 : 0 ≤ (x4_2 : Int) := of_decide_eq_true (by first | (with_reducible assumption) | assumption); have q107 : x4_2 < (l0.length : Int) := of_decide_eq_true (by first | (with_reducible assumption) | assumption); obtain ⟨ad107, e107, hx107_0⟩ := Kd.at_int HR0.out x4_2 p107 q107; obtain rfl : ad101 = ad107 := (by injection e107); replace p107 := eq_true p107; replace q107 := eq_true q107)); try go_wp2_with (first | (go_at_call 55; (with_reducible refine (orthoepyref02_second.calls (rd l0 0) (rd l0 1) true _ A12.out).mono ?_); rintro e w' ⟨rfl, ⟨nd, rfl⟩⟩; (try first | exact ⟨rfl, _, World.drewN_drewN _ _ _⟩ | exact ⟨rfl, _, Eq.trans (World.drewN_drewN _ _ _) (congrArg (World.drewN _) (Nat.add_assoc _ _ _))⟩); have p106 : 0 ≤ (x4_2 : Int) := of_decide_eq_true (by first | (with_reducible assumption) | assumption); have q106 : x4_2 < (l0.length : Int) := of_decide_eq_true (by first | (with_reducible assumption) | assumption); obtain ⟨ad106, e106, hx106_0⟩ := Kd.at_int HR0.out x4_2 p106 q106; obtain rfl : ad101 = ad106 := (by injection e106); replace p106 := eq_true p106; replace q106 := eq_true q106; have p107 : 0 ≤ (x4_2 : Int) := of_decide_eq_true (by first | (with_reducible assumption) | assumption); have q107 : x4_2 < (l0.length : Int) := of_decide_eq_true (by first | (with_reducible assumption) | assumption); obtain ⟨ad107, e107, hx107_0⟩ := Kd.at_int HR0.out x4_2 p107 q107; obtain rfl : ad101 = ad107 := (by injection e107); replace p107 := eq_true p107; replace q107 := eq_true q107)))
                                go_roundg k2
                                case measure => have := HJ1.out; have := HK2.out; omega
                                case rel => exact ⟨(wrap64 (x4_2 + 1)), (by first | rfl | (simp; done) | (simp [*]; done)), H', ⟨by have := HJ1.out; have := HK2.out; omega⟩, by repeat (first | exact Drawn0.refl _ | apply Drawn0.step)⟩
                          · rw [if_neg c14] at H
                            exact absurd H (by simp)
                        · replace c13 := Bool.eq_false_iff.mpr c13
                          subst c13
                          have H1 : (some 0) = some r := by rw [if_neg (show ¬ (false = true) by decide)] at H; exact H
                          clear H
                          have H := H1
                          clear H1
                          obtain rfl := Option.some.inj H
                          have p103 : 0 ≤ (0 : Int) := (by omega)
                          have q103 : 0 < (l0.length : Int) := of_decide_eq_true (by first | (with_reducible assumption) | assumption)
                          obtain ⟨ad103, e103, hx103_0⟩ := Kd.at_int HR0.out 0 p103 q103
                          obtain rfl : ad101 = ad103 := (by injection e103)
                          have qi103 : (0 < l0.length) = True := eq_true (by omega)
                          (try rw [show ((0 : Int)).toNat = 0 from rfl] at hx103_0)
                          (try rw [Addr.add_zero'] at hx103_0)
                          replace p103 := eq_true p103
                          replace q103 := eq_true q103
                          have p104 : 0 ≤ (1 : Int) := (by omega)
                          have q104 : 1 < (l0.length : Int) := of_decide_eq_true (by first | (with_reducible assumption) | assumption)
                          obtain ⟨ad104, e104, hx104_0⟩ := Kd.at_int HR0.out 1 p104 q104
                          obtain rfl : ad101 = ad104 := (by injection e104)
                          (try simp only [show (1 : Int).toNat = 1 from rfl, Nat.reduceMul, Nat.reduceEqDiff, Go.Addr.add, ↓reduceIte] at hx104_0)
                          have qi104 : (1 < l0.length) = True := eq_true (by omega)
                          (try rw [show ((1 : Int)).toNat = 1 from rfl] at hx104_0)
                          replace p104 := eq_true p104
                          replace q104 := eq_true q104
                          go_wp2_with (first | (go_at_call 55; (with_reducible refine (orthoepyref02_second.calls (rd l0 0) (rd l0 1) false _ A12.out).mono ?_); rintro e w' ⟨rfl, ⟨nd, rfl⟩⟩; (try first | exact ⟨rfl, _, World.drewN_drewN _ _ _⟩ | exact ⟨rfl, _, Eq.trans (World.drewN_drewN _ _ _) (congrArg (World.drewN _) (Nat.add_assoc _ _ _))⟩)))
                          repeat (go_quiet (first | (go_at_call 55; (with_reducible refine (orthoepyref02_second.calls (rd l0 0) (rd l0 1) false _ A12.out).mono ?_); rintro e w' ⟨rfl, ⟨nd, rfl⟩⟩; (try first | exact ⟨rfl, _, World.drewN_drewN _ _ _⟩ | exact ⟨rfl, _, Eq.trans (World.drewN_drewN _ _ _) (congrArg (World.drewN _) (Nat.add_assoc _ _ _))⟩))); try go_wp2_with (first | (go_at_call 55; (with_reducible refine (orthoepyref02_second.calls (rd l0 0) (rd l0 1) false _ A12.out).mono ?_); rintro e w' ⟨rfl, ⟨nd, rfl⟩⟩; (try first | exact ⟨rfl, _, World.drewN_drewN _ _ _⟩ | exact ⟨rfl, _, Eq.trans (World.drewN_drewN _ _ _) (congrArg (World.drewN _) (Nat.add_assoc _ _ _))⟩))))
                          go_ret
                          exact ⟨by first | rfl | (simp; done) | (simp [*]; done), by repeat (first | exact Drawn0.refl _ | apply Drawn0.step)⟩
                      · rw [if_neg c11] at H
                        exact absurd H (by simp)
                    · rw [if_neg c10] at H
                      exact absurd H (by simp)
                  · rw [if_neg c9] at H
                    have c9b0 : (x4_2 == 1) = false := beq_eq_false_iff_ne.mpr c9
                    have c9b1 : (x4_2 != 1) = true := bne_iff_ne.mpr c9
                    by_cases c17 : 0 ≤ x4_2
                    · rw [if_pos c17] at H
                      have c17b0 : decide (0 ≤ x4_2) = true := decide_eq_true c17
                      clear c17
                      by_cases c18 : (rd l0 x4_2) < 128
                      · rw [if_pos c18] at H
                        have c18b0 : decide ((rd l0 x4_2) < 128) = true := decide_eq_true c18
                        clear c18
                        obtain rfl := Option.some.inj H
                        have p108 : 0 ≤ (x4_2 : Int) := of_decide_eq_true (by first | (with_reducible assumption) | assumption)
                        have q108 : x4_2 < (l0.length : Int) := of_decide_eq_true (by first | (with_reducible assumption) | assumption)
                        obtain ⟨ad108, e108, hx108_0⟩ := Kd.at_int HR0.out x4_2 p108 q108
                        obtain rfl : ad101 = ad108 := (by injection e108)
                        replace p108 := eq_true p108
                        replace q108 := eq_true q108
                        go_wp2
                        repeat (go_quiet (fail); try go_wp2)
                        go_ret
                        exact ⟨by first | rfl | (simp; done) | (simp [*]; done), by repeat (first | exact Drawn0.refl _ | apply Drawn0.step)⟩
                      · rw [if_neg c18] at H
                        have c18b0 : decide ((rd l0 x4_2) < 128) = false := decide_eq_false c18
                        clear c18
                        by_cases c19 : (rd l0 x4_2) > 191
                        · rw [if_pos c19] at H
                          have c19b0 : decide (191 < (rd l0 x4_2)) = true := decide_eq_true c19
                          clear c19
                          obtain rfl := Option.some.inj H
                          have p108 : 0 ≤ (x4_2 : Int) := of_decide_eq_true (by first | (with_reducible assumption) | assumption)
                          have q108 : x4_2 < (l0.length : Int) := of_decide_eq_true (by first | (with_reducible assumption) | assumption)
                          obtain ⟨ad108, e108, hx108_0⟩ := Kd.at_int HR0.out x4_2 p108 q108
                          obtain rfl : ad101 = ad108 := (by injection e108)
                          replace p108 := eq_true p108
                          replace q108 := eq_true q108
                          have p109 : 0 ≤ (x4_2 : Int) := of_decide_eq_true (by first | (with_reducible assumption) | assumption)
                          have q109 : x4_2 < (l0.length : Int) := of_decide_eq_true (by first | (with_reducible assumption) | assumption)
                          obtain ⟨ad109, e109, hx109_0⟩ := Kd.at_int HR0.out x4_2 p109 q109
                          obtain rfl : ad101 = ad109 := (by injection e109)
                          replace p109 := eq_true p109
                          replace q109 := eq_true q109
                          go_wp2
                          repeat (go_quiet (fail); try go_wp2)
                          go_ret
                          exact ⟨by first | rfl | (simp; done) | (simp [*]; done), by repeat (first | exact Drawn0.refl _ | apply Drawn0.step)⟩
                        · rw [if_neg c19] at H
                          have c19b0 : decide (191 < (rd l0 x4_2)) = false := decide_eq_false c19
                          clear c19
                          have H' := Aside0.mk H
                          clear H
                          have p108 : 0 ≤ (x4_2 : Int) := of_decide_eq_true (by first | (with_reducible assumption) | assumption)
                          have q108 : x4_2 < (l0.length : Int) := of_decide_eq_true (by first | (with_reducible assumption) | assumption)
                          obtain ⟨ad108, e108, hx108_0⟩ := Kd.at_int HR0.out x4_2 p108 q108
                          obtain rfl : ad101 = ad108 := (by injection e108)
                          replace p108 := eq_true p108
                          replace q108 := eq_true q108
                          have p109 : 0 ≤ (x4_2 : Int) := of_decide_eq_true (by first | (with_reducible assumption) | assumption)
                          have q109 : x4_2 < (l0.length : Int) := of_decide_eq_true (by first | (with_reducible assumption) | assumption)
                          obtain ⟨ad109, e109, hx109_0⟩ := Kd.at_int HR0.out x4_2 p109 q109
                          obtain rfl : ad101 = ad109 := (by injection e109)
                          replace p109 := eq_true p109
                          replace q109 := eq_true q109
                          go_wp2
                          repeat (go_quiet (fail); try go_wp2)
                          go_roundg k2
                          case measure => have := HJ1.out; have := HK2.out; omega
                          case rel => exact ⟨(wrap64 (x4_2 + 1)), (by first | rfl | (simp; done) | (simp [*]; done)), H', ⟨by have := HJ1.out; have := HK2.out; omega⟩, by repeat (first | exact Drawn0.refl _ | apply Drawn0.step)⟩
                    · rw [if_neg c17] at H
                      exact absurd H (by simp)
                · rw [if_neg c8] at H
                  have c8b0 : decide (x4_2 < (l0.length : Int)) = false := decide_eq_false c8
                  clear c8
                  by_cases c20 : t102 = (l0.length : Int)
                  · rw [if_pos c20] at H
                    have c20b0 : (t102 == (l0.length : Int)) = true := beq_iff_eq.mpr c20
                    have c20b1 : (t102 != (l0.length : Int)) = false := bne_eq_false_iff_eq.mpr c20
                    clear c20
                    obtain rfl := Option.some.inj H
                    go_wp2
                    repeat (go_quiet (fail); try go_wp2)
                    go_ret
                    exact ⟨by first | rfl | (simp; done) | (simp [*]; done), by repeat (first | exact Drawn0.refl _ | apply Drawn0.step)⟩
                  · rw [if_neg c20] at H
                    have c20b0 : (t102 == (l0.length : Int)) = false := beq_eq_false_iff_ne.mpr c20
                    have c20b1 : (t102 != (l0.length : Int)) = true := bne_iff_ne.mpr c20
                    obtain rfl := Option.some.inj H
                    go_wp2
                    repeat (go_quiet (fail); try go_wp2)
                    go_ret
                    exact ⟨by first | rfl | (simp; done) | (simp [*]; done), by repeat (first | exact Drawn0.refl _ | apply Drawn0.step)⟩
        · rw [if_neg c5] at H
          exact absurd H (by simp)

end Go.Proofs.Ytajinnlaajhoeaa.PAll
