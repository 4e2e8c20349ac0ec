-- The machine's side of laws, written by a program of this session (wip/gen/pp.sh). Lean checks it.
import Derived.Test.YtkpeblpgfngjcaaPAllx0
import Derived.Test.YtkpeblpgfngjcaaPAllx3
namespace Go.Proofs.Ytkpeblpgfngjcaa.PAll
open Go.RowKit Go.Proofs.YtkpeblpgfngjcaaW.PrintWords Go.Proofs.YtkpeblpgfngjcaaW.PrintLast
set_option linter.unusedVariables false
set_option linter.unusedSimpArgs false

/-! ### orthoepyref02_How: function 65 -/
mutual
def orthoepyref02_How.j0 : Nat → List Int → Bool → Option (Int)
  | 0, _, _ => none
  | k + 1, x0, x12 => if x12 = true then (some 0) else (if 0 < (x0.length : Int) then ((orthoepyref02_long.f k (rd x0 0)).bind fun t146 => (if t146 < (x0.length : Int) then (some 0) else (orthoepyref02_How.l0 k x0 t146 1))) else (none))
def orthoepyref02_How.l0 : Nat → List Int → Int → Int → Option (Int)
  | 0, _, _, _ => none
  | k + 1, x0, x3, x4 => if x4 < (x0.length : Int) then (if x4 = 1 then (if 0 < (x0.length : Int) then (if 1 < (x0.length : Int) then ((orthoepyref02_second.f (rd x0 0) (rd x0 1)).bind fun t149 => (if t149 = true then (if 0 ≤ x4 then (if (rd x0 x4) < 128 then (some 0) else (if (rd x0 x4) > 191 then (some 0) else (orthoepyref02_How.l0 k x0 x3 (wrap64 (x4 + 1))))) else (none)) else (some 0))) else (none)) else (none)) else (if 0 ≤ x4 then (if (rd x0 x4) < 128 then (some 0) else (if (rd x0 x4) > 191 then (some 0) else (orthoepyref02_How.l0 k x0 x3 (wrap64 (x4 + 1))))) else (none))) else (if x3 = (x0.length : Int) then (some 2) else (some 1))
end
def orthoepyref02_How.f (k : Nat) (l0 : List Int) : Option (Int) := if (l0.length : Int) = 0 then (orthoepyref02_How.j0 k l0 true) else (orthoepyref02_How.j0 k l0 (decide ((l0.length : Int) > 4)))
theorem orthoepyref02_How.mono_l : ∀ k, (∀ y0 y1, LeO (orthoepyref02_How.j0 k y0 y1) (orthoepyref02_How.j0 (k + 1) y0 y1)) ∧ (∀ y0 y1 y2, LeO (orthoepyref02_How.l0 k y0 y1 y2) (orthoepyref02_How.l0 (k + 1) y0 y1 y2))
  | 0 => ⟨fun _ _ r h => by simp [orthoepyref02_How.j0] at h, fun _ _ _ r h => by simp [orthoepyref02_How.l0] at h⟩
  | k + 1 => by
    obtain ⟨ih0, ih1⟩ := orthoepyref02_How.mono_l k
    refine ⟨?_, ?_⟩
    · intro y0 y1
      unfold orthoepyref02_How.j0
      repeat' first
      | (with_reducible exact ih0 _ _)
      | (with_reducible exact ih1 _ _ _)
      | (with_reducible exact orthoepyref02_long.mono _ _)
      | (with_reducible exact LeO.refl _)
      | (with_reducible exact LeO.none _)
      | (with_reducible refine LeO.ite ?_ ?_)
      | (with_reducible refine LeO.bind ?_ (fun _ => ?_))
      | exact ih0 _ _
      | exact ih1 _ _ _
      | exact orthoepyref02_long.mono _ _
      | exact LeO.none _
      | refine LeO.ite ?_ ?_
      | refine LeO.bind ?_ (fun _ => ?_)
    · intro y0 y1 y2
      unfold orthoepyref02_How.l0
      repeat' first
      | (with_reducible exact ih0 _ _)
      | (with_reducible exact ih1 _ _ _)
      | (with_reducible exact orthoepyref02_long.mono _ _)
      | (with_reducible exact LeO.refl _)
      | (with_reducible exact LeO.none _)
      | (with_reducible refine LeO.ite ?_ ?_)
      | (with_reducible refine LeO.bind ?_ (fun _ => ?_))
      | exact ih0 _ _
      | exact ih1 _ _ _
      | exact orthoepyref02_long.mono _ _
      | exact LeO.none _
      | refine LeO.ite ?_ ?_
      | refine LeO.bind ?_ (fun _ => ?_)
theorem orthoepyref02_How.mono : ∀ a0 k, LeO (orthoepyref02_How.f k a0) (orthoepyref02_How.f (k + 1) a0) := by
  intro a0 k
  obtain ⟨ih0, ih1⟩ := orthoepyref02_How.mono_l k
  unfold orthoepyref02_How.f
  repeat' first
      | (with_reducible exact ih0 _ _)
      | (with_reducible exact ih1 _ _ _)
      | (with_reducible exact orthoepyref02_long.mono _ _)
      | (with_reducible exact LeO.refl _)
      | (with_reducible exact LeO.none _)
      | (with_reducible refine LeO.ite ?_ ?_)
      | (with_reducible refine LeO.bind ?_ (fun _ => ?_))
      | exact ih0 _ _
      | exact ih1 _ _ _
      | exact orthoepyref02_long.mono _ _
      | exact LeO.none _
      | refine LeO.ite ?_ ?_
      | refine LeO.bind ?_ (fun _ => ?_)
set_option maxHeartbeats 8000000 in
set_option maxRecDepth 100000 in
theorem orthoepyref02_How.calls (k : Nat) (A0 : Option Addr) (c0 : Nat) (l0 : List Int) (r : Int) (w : World) (hr0 : Kd.C (Kd.int .u8) w A0 l0.length l0) (hc0 : l0.length ≤ c0) (h : orthoepyref02_How.f k l0 = some r) :
    Calls Try.prog 65 #[.slice A0 l0.length c0] w fun e w' => e = .returned (.int .i64 r) ∧ Drawn0 w w' := by
  have HR0 := Aside0.mk hr0
  have HC0 := Aside0.mk hc0
  clear hr0 hc0
  have H : (if (l0.length : Int) = 0 then (orthoepyref02_How.j0 k l0 true) else (orthoepyref02_How.j0 k l0 (decide ((l0.length : Int) > 4)))) = some r := h
  clear h
  have HC2 := Aside0.mk H
  clear H
  go_enter Try.func65, Try.ntmps65
  go_upto_region 1 with (fail)
  repeat (go_quiet (fail); go_upto_region 1 with (fail))
  go_cut [12] (fun v12 wc => ∃ (kq : Nat) (x12_1 : Bool), v12 = .bool x12_1 ∧ Aside0 (orthoepyref02_How.j0 kq l0 x12_1 = some r) ∧ Aside0 (kq ≤ k) ∧ Drawn0 w wc)
  case first =>
    have H := HC2.out
    clear HC2
    by_cases c3 : (l0.length : Int) = 0
    · rw [if_pos c3] at H
      have c3b0 : ((l0.length : Int) == 0) = true := beq_iff_eq.mpr c3
      have c3b1 : ((l0.length : Int) != 0) = false := bne_eq_false_iff_eq.mpr c3
      clear c3
      (first | rw [c3b0] | (simp only [i64_w, i32_w]; rw [c3b0]) | skip)
      have H' := Aside0.mk H
      clear H
      go_wp2
      repeat (go_quiet (fail); try go_wp2)
      go_meet
      case rel => exact ⟨_, (true), (by first | rfl | (simp; done) | (simp [*]; done)), H', ⟨by first | omega | exact Nat.le_refl _⟩, by repeat (first | exact Drawn0.refl _ | apply Drawn0.step)⟩
    · rw [if_neg c3] at H
      have c3b0 : ((l0.length : Int) == 0) = false := beq_eq_false_iff_ne.mpr c3
      have c3b1 : ((l0.length : Int) != 0) = true := bne_iff_ne.mpr c3
      have c3b2 : ¬ (l0 = []) := fun h_ => c3 (by rw [h_]; rfl)
      (first | rw [c3b0] | (simp only [i64_w, i32_w]; rw [c3b0]) | skip)
      have H' := Aside0.mk H
      clear H
      go_wp2
      repeat (go_quiet (fail); try go_wp2)
      go_meet
      case rel => exact ⟨_, (decide ((l0.length : Int) > 4)), (by first | rfl | (simp; done) | (simp [*]; done)), H', ⟨by first | omega | exact Nat.le_refl _⟩, by repeat (first | exact Drawn0.refl _ | apply Drawn0.step)⟩
  case rest =>
    clear HC2
    try clear p2
    try clear c3
    try clear c3b0
    try clear c3b1
    try clear c3b2
    obtain ⟨kq, x12_1, rfl, HA, HJ1, ⟨mc1, rfl⟩⟩ := hcut
    cases kq with
    | zero => exact absurd HA.out (by simp [orthoepyref02_How.j0])
    | succ kj1 =>
      have H := HA.out
      clear HA
      simp only [orthoepyref02_How.j0] at H
      by_cases c4 : x12_1 = true
      · subst c4
        have H1 : (some 0) = some r := by rw [if_pos rfl] at H; exact H
        clear H
        have H := H1
        clear H1
        obtain rfl := Option.some.inj H
        go_wp2
        repeat (go_quiet (fail); try go_wp2)
        go_ret
        exact ⟨by first | rfl | (simp; done) | (simp [*]; done), by repeat (first | exact Drawn0.refl _ | apply Drawn0.step)⟩
      · replace c4 := Bool.eq_false_iff.mpr c4
        subst c4
        have H1 : (if 0 < (l0.length : Int) then ((orthoepyref02_long.f kj1 (rd l0 0)).bind fun t146 => (if t146 < (l0.length : Int) then (some 0) else (orthoepyref02_How.l0 kj1 l0 t146 1))) else (none)) = some r := by rw [if_neg (show ¬ (false = true) by decide)] at H; exact H
        clear H
        have H := H1
        clear H1
        by_cases c5 : 0 < (l0.length : Int)
        · rw [if_pos c5] at H
          have c5b0 : decide (0 < (l0.length : Int)) = true := decide_eq_true c5
          have c5b1 : decide (0 < l0.length) = true := decide_eq_true (by omega)
          clear c5
          replace H := Option.bind_eq_some_iff.mp H
          obtain ⟨t146, A60, H⟩ := H
          replace H : (if t146 < (l0.length : Int) then (some 0) else (orthoepyref02_How.l0 kj1 l0 t146 1)) = some r := H
          have A6 := Aside0.mk A60
          clear A60
          by_cases c7 : t146 < (l0.length : Int)
          · rw [if_pos c7] at H
            have c7b0 : decide (t146 < (l0.length : Int)) = true := decide_eq_true c7
            clear c7
            obtain rfl := Option.some.inj H
            have p145 : 0 ≤ (0 : Int) := (by omega)
            have q145 : 0 < (l0.length : Int) := of_decide_eq_true (by first | (with_reducible assumption) | assumption)
            obtain ⟨ad145, e145, hx145_0⟩ := Kd.at_int HR0.out 0 p145 q145
            cases e145
            have qi145 : (0 < l0.length) = True := eq_true (by omega)
            (try rw [show ((0 : Int)).toNat = 0 from rfl] at hx145_0)
            (try rw [Addr.add_zero'] at hx145_0)
            replace p145 := eq_true p145
            replace q145 := eq_true q145
            go_wp2_with (first | (go_at_call 81; (with_reducible refine (orthoepyref02_long.calls kj1 (rd l0 0) t146 _ A6.out).mono ?_); rintro e w' ⟨rfl, ⟨nd, rfl⟩⟩; (try first | exact ⟨rfl, _, World.drewN_drewN _ _ _⟩ | exact ⟨rfl, _, Eq.trans (World.drewN_drewN _ _ _) (congrArg (World.drewN _) (Nat.add_assoc _ _ _))⟩)))
            repeat (go_quiet (first | (go_at_call 81; (with_reducible refine (orthoepyref02_long.calls kj1 (rd l0 0) t146 _ A6.out).mono ?_); rintro e w' ⟨rfl, ⟨nd, rfl⟩⟩; (try first | exact ⟨rfl, _, World.drewN_drewN _ _ _⟩ | exact ⟨rfl, _, Eq.trans (World.drewN_drewN _ _ _) (congrArg (World.drewN _) (Nat.add_assoc _ _ _))⟩))); try go_wp2_with (first | (go_at_call 81; (with_reducible refine (orthoepyref02_long.calls kj1 (rd l0 0) t146 _ A6.out).mono ?_); rintro e w' ⟨rfl, ⟨nd, rfl⟩⟩; (try first | exact ⟨rfl, _, World.drewN_drewN _ _ _⟩ | exact ⟨rfl, _, Eq.trans (World.drewN_drewN _ _ _) (congrArg (World.drewN _) (Nat.add_assoc _ _ _))⟩))))
            go_ret
            exact ⟨by first | rfl | (simp; done) | (simp [*]; done), by repeat (first | exact Drawn0.refl _ | apply Drawn0.step)⟩
          · rw [if_neg c7] at H
            have c7b0 : decide (t146 < (l0.length : Int)) = false := decide_eq_false c7
            clear c7
            have H' := Aside0.mk H
            clear H
            have p145 : 0 ≤ (0 : Int) := (by omega)
            have q145 : 0 < (l0.length : Int) := of_decide_eq_true (by first | (with_reducible assumption) | assumption)
            obtain ⟨ad145, e145, hx145_0⟩ := Kd.at_int HR0.out 0 p145 q145
            cases e145
            have qi145 : (0 < l0.length) = True := eq_true (by omega)
            (try rw [show ((0 : Int)).toNat = 0 from rfl] at hx145_0)
            (try rw [Addr.add_zero'] at hx145_0)
            replace p145 := eq_true p145
            replace q145 := eq_true q145
            go_wp2_with (first | (go_at_call 81; (with_reducible refine (orthoepyref02_long.calls kj1 (rd l0 0) t146 _ A6.out).mono ?_); rintro e w' ⟨rfl, ⟨nd, rfl⟩⟩; (try first | exact ⟨rfl, _, World.drewN_drewN _ _ _⟩ | exact ⟨rfl, _, Eq.trans (World.drewN_drewN _ _ _) (congrArg (World.drewN _) (Nat.add_assoc _ _ _))⟩)))
            repeat (go_quiet (first | (go_at_call 81; (with_reducible refine (orthoepyref02_long.calls kj1 (rd l0 0) t146 _ A6.out).mono ?_); rintro e w' ⟨rfl, ⟨nd, rfl⟩⟩; (try first | exact ⟨rfl, _, World.drewN_drewN _ _ _⟩ | exact ⟨rfl, _, Eq.trans (World.drewN_drewN _ _ _) (congrArg (World.drewN _) (Nat.add_assoc _ _ _))⟩))); try go_wp2_with (first | (go_at_call 81; (with_reducible refine (orthoepyref02_long.calls kj1 (rd l0 0) t146 _ A6.out).mono ?_); rintro e w' ⟨rfl, ⟨nd, rfl⟩⟩; (try first | exact ⟨rfl, _, World.drewN_drewN _ _ _⟩ | exact ⟨rfl, _, Eq.trans (World.drewN_drewN _ _ _) (congrArg (World.drewN _) (Nat.add_assoc _ _ _))⟩))))
            go_loopg [4] kj1 (fun kq v4 w' => ∃ (x4_2 : Int), v4 = .int .i64 x4_2 ∧ Aside0 (orthoepyref02_How.l0 kq l0 t146 x4_2 = some r) ∧ Aside0 (kq ≤ kj1) ∧ Drawn0 w w')
            case atStart => exact ⟨(1), (by first | rfl | (simp; done) | (simp [*]; done)), H', ⟨Nat.le_refl _⟩, by repeat (first | exact Drawn0.refl _ | apply Drawn0.step)⟩
            case round =>
              clear H'
              try clear c1
              try clear p1
              try clear q1
              try clear hx1
              try clear qi1
              try clear p2
              try clear c3
              try clear c3b0
              try clear c3b1
              try clear c3b2
              try clear c4
              try clear c5
              try clear c5b0
              try clear c5b1
              try clear c6
              try clear c7
              try clear c7b0
              try clear hx145_0
              try clear p145
              try clear p2
              try clear q145
              obtain ⟨x4_2, rfl, HA, HK2, ⟨m2, rfl⟩⟩ := hrel
              cases gk with
              | zero => exact absurd HA.out (by simp [orthoepyref02_How.l0])
              | succ k2 =>
                have H := HA.out
                clear HA
                simp only [orthoepyref02_How.l0] at H
                by_cases c8 : x4_2 < (l0.length : Int)
                · rw [if_pos c8] at H
                  have c8b0 : decide (x4_2 < (l0.length : Int)) = true := decide_eq_true c8
                  clear c8
                  by_cases c9 : x4_2 = 1
                  · rw [if_pos c9] at H
                    have c9b0 : (x4_2 == 1) = true := beq_iff_eq.mpr c9
                    have c9b1 : (x4_2 != 1) = false := bne_eq_false_iff_eq.mpr c9
                    clear c9
                    by_cases c10 : 0 < (l0.length : Int)
                    · rw [if_pos c10] at H
                      have c10b0 : decide (0 < (l0.length : Int)) = true := decide_eq_true c10
                      have c10b1 : decide (0 < l0.length) = true := decide_eq_true (by omega)
                      clear c10
                      by_cases c11 : 1 < (l0.length : Int)
                      · rw [if_pos c11] at H
                        have c11b0 : decide (1 < (l0.length : Int)) = true := decide_eq_true c11
                        have c11b1 : decide (1 < l0.length) = true := decide_eq_true (by omega)
                        clear c11
                        replace H := Option.bind_eq_some_iff.mp H
                        obtain ⟨t149, A120, H⟩ := H
                        replace H : (if t149 = true then (if 0 ≤ x4_2 then (if (rd l0 x4_2) < 128 then (some 0) else (if (rd l0 x4_2) > 191 then (some 0) else (orthoepyref02_How.l0 k2 l0 t146 (wrap64 (x4_2 + 1))))) else (none)) else (some 0)) = some r := H
                        have A12 := Aside0.mk A120
                        clear A120
                        by_cases c13 : t149 = true
                        · subst c13
                          have H1 : (if 0 ≤ x4_2 then (if (rd l0 x4_2) < 128 then (some 0) else (if (rd l0 x4_2) > 191 then (some 0) else (orthoepyref02_How.l0 k2 l0 t146 (wrap64 (x4_2 + 1))))) else (none)) = some r := by rw [if_pos rfl] at H; exact H
                          clear H
                          have H := H1
                          clear H1
                          by_cases c14 : 0 ≤ x4_2
                          · rw [if_pos c14] at H
                            have c14b0 : decide (0 ≤ x4_2) = true := decide_eq_true c14
                            clear c14
                            by_cases c15 : (rd l0 x4_2) < 128
                            · rw [if_pos c15] at H
                              have c15b0 : decide ((rd l0 x4_2) < 128) = true := decide_eq_true c15
                              clear c15
                              obtain rfl := Option.some.inj H
                              have p147 : 0 ≤ (0 : Int) := (by omega)
                              have q147 : 0 < (l0.length : Int) := of_decide_eq_true (by first | (with_reducible assumption) | assumption)
                              obtain ⟨ad147, e147, hx147_0⟩ := Kd.at_int HR0.out 0 p147 q147
                              obtain rfl : ad145 = ad147 := (by injection e147)
                              have qi147 : (0 < l0.length) = True := eq_true (by omega)
                              (try rw [show ((0 : Int)).toNat = 0 from rfl] at hx147_0)
                              (try rw [Addr.add_zero'] at hx147_0)
                              replace p147 := eq_true p147
                              replace q147 := eq_true q147
                              have p148 : 0 ≤ (1 : Int) := (by omega)
                              have q148 : 1 < (l0.length : Int) := of_decide_eq_true (by first | (with_reducible assumption) | assumption)
                              obtain ⟨ad148, e148, hx148_0⟩ := Kd.at_int HR0.out 1 p148 q148
                              obtain rfl : ad145 = ad148 := (by injection e148)
                              (try simp only [show (1 : Int).toNat = 1 from rfl, Nat.reduceMul, Nat.reduceEqDiff, Go.Addr.add, ↓reduceIte] at hx148_0)
                              have qi148 : (1 < l0.length) = True := eq_true (by omega)
                              (try rw [show ((1 : Int)).toNat = 1 from rfl] at hx148_0)
                              replace p148 := eq_true p148
                              replace q148 := eq_true q148
                              go_wp2_with (first | (go_at_call 82; (with_reducible refine (orthoepyref02_second.calls (rd l0 0) (rd l0 1) true _ A12.out).mono ?_); rintro e w' ⟨rfl, ⟨nd, rfl⟩⟩; (try first | exact ⟨rfl, _, World.drewN_drewN _ _ _⟩ | exact ⟨rfl, _, Eq.trans (World.drewN_drewN _ _ _) (congrArg (World.drewN _) (Nat.add_assoc _ _ _))⟩); have p150 : 0 ≤ (x4_2 : Int) := of_decide_eq_true (by first | (with_reducible assumption) | assumption); have q150 : x4_2 < (l0.length : Int) := of_decide_eq_true (by first | (with_reducible assumption) | assumption); obtain ⟨ad150, e150, hx150_0⟩ := Kd.at_int HR0.out x4_2 p150 q150; obtain rfl : ad145 = ad150 := (by injection e150); replace p150 := eq_true p150; replace q150 := eq_true q150))
                              repeat (go_quiet (first | (go_at_call 82; (with_reducible refine (orthoepyref02_second.calls (rd l0 0) (rd l0 1) true _ A12.out).mono ?_); rintro e w' ⟨rfl, ⟨nd, rfl⟩⟩; (try first | exact ⟨rfl, _, World.drewN_drewN _ _ _⟩ | exact ⟨rfl, _, Eq.trans (World.drewN_drewN _ _ _) (congrArg (World.drewN _) (Nat.add_assoc _ _ _))⟩); have p150 : 0 ≤ (x4_2 : Int) := of_decide_eq_true (by first | (with_reducible assumption) | assumption); have q150 : x4_2 < (l0.length : Int) := of_decide_eq_true (by first | (with_reducible assumption) | assumption); obtain ⟨ad150, e150, hx150_0⟩ := Kd.at_int HR0.out x4_2 p150 q150; obtain rfl : ad145 = ad150 := (by injection e150); replace p150 := eq_true p150; replace q150 := eq_true q150)); try go_wp2_with (first | (go_at_call 82; (with_reducible refine (orthoepyref02_second.calls (rd l0 0) (rd l0 1) true _ A12.out).mono ?_); rintro e w' ⟨rfl, ⟨nd, rfl⟩⟩; (try first | exact ⟨rfl, _, World.drewN_drewN _ _ _⟩ | exact ⟨rfl, _, Eq.trans (World.drewN_drewN _ _ _) (congrArg (World.drewN _) (Nat.add_assoc _ _ _))⟩); have p150 : 0 ≤ (x4_2 : Int) := of_decide_eq_true (by first | (with_reducible assumption) | assumption); have q150 : x4_2 < (l0.length : Int) := of_decide_eq_true (by first | (with_reducible assumption) | assumption); obtain ⟨ad150, e150, hx150_0⟩ := Kd.at_int HR0.out x4_2 p150 q150; obtain rfl : ad145 = ad150 := (by injection e150); replace p150 := eq_true p150; replace q150 := eq_true q150)))
                              go_ret
                              exact ⟨by first | rfl | (simp; done) | (simp [*]; done), by repeat (first | exact Drawn0.refl _ | apply Drawn0.step)⟩
                            · rw [if_neg c15] at H
                              have c15b0 : decide ((rd l0 x4_2) < 128) = false := decide_eq_false c15
                              clear c15
                              by_cases c16 : (rd l0 x4_2) > 191
                              · rw [if_pos c16] at H
                                have c16b0 : decide (191 < (rd l0 x4_2)) = true := decide_eq_true c16
                                clear c16
                                obtain rfl := Option.some.inj H
                                have p147 : 0 ≤ (0 : Int) := (by omega)
                                have q147 : 0 < (l0.length : Int) := of_decide_eq_true (by first | (with_reducible assumption) | assumption)
                                obtain ⟨ad147, e147, hx147_0⟩ := Kd.at_int HR0.out 0 p147 q147
                                obtain rfl : ad145 = ad147 := (by injection e147)
                                have qi147 : (0 < l0.length) = True := eq_true (by omega)
                                (try rw [show ((0 : Int)).toNat = 0 from rfl] at hx147_0)
                                (try rw [Addr.add_zero'] at hx147_0)
                                replace p147 := eq_true p147
                                replace q147 := eq_true q147
                                have p148 : 0 ≤ (1 : Int) := (by omega)
                                have q148 : 1 < (l0.length : Int) := of_decide_eq_true (by first | (with_reducible assumption) | assumption)
                                obtain ⟨ad148, e148, hx148_0⟩ := Kd.at_int HR0.out 1 p148 q148
                                obtain rfl : ad145 = ad148 := (by injection e148)
                                (try simp only [show (1 : Int).toNat = 1 from rfl, Nat.reduceMul, Nat.reduceEqDiff, Go.Addr.add, ↓reduceIte] at hx148_0)
                                have qi148 : (1 < l0.length) = True := eq_true (by omega)
                                (try rw [show ((1 : Int)).toNat = 1 from rfl] at hx148_0)
                                replace p148 := eq_true p148
                                replace q148 := eq_true q148
                                go_wp2_with (first | (go_at_call 82; (with_reducible refine (orthoepyref02_second.calls (rd l0 0) (rd l0 1) true _ A12.out).mono ?_); rintro e w' ⟨rfl, ⟨nd, rfl⟩⟩; (try first | exact ⟨rfl, _, World.drewN_drewN _ _ _⟩ | exact ⟨rfl, _, Eq.trans (World.drewN_drewN _ _ _) (congrArg (World.drewN _) (Nat.add_assoc _ _ _))⟩); have p150 : 0 ≤ (x4_2 : Int) := of_decide_eq_true (by first | (with_reducible assumption) | assumption); have q150 : x4_2 < (l0.length : Int) := of_decide_eq_true (by first | (with_reducible assumption) | assumption); obtain ⟨ad150, e150, hx150_0⟩ := Kd.at_int HR0.out x4_2 p150 q150; obtain rfl : ad145 = ad150 := (by injection e150); replace p150 := eq_true p150; replace q150 := eq_true q150; have p151 : 0 ≤ (x4_2 : Int) := of_decide_eq_true (by first | (with_reducible assumption) | assumption); have q151 : x4_2 < (l0.length : Int) := of_decide_eq_true (by first | (with_reducible assumption) | assumption); obtain ⟨ad151, e151, hx151_0⟩ := Kd.at_int HR0.out x4_2 p151 q151; obtain rfl : ad145 = ad151 := (by injection e151); replace p151 := eq_true p151; replace q151 := eq_true q151))
                                repeat (go_quiet (first | (go_at_call 82; (with_reducible refine (orthoepyref02_second.calls (rd l0 0) (rd l0 1) true _ A12.out).mono ?_); rintro e w' ⟨rfl, ⟨nd, rfl⟩⟩; (try first | exact ⟨rfl, _, World.drewN_drewN _ _ _⟩ | exact ⟨rfl, _, Eq.trans (World.drewN_drewN _ _ _) (congrArg (World.drewN _) (Nat.add_assoc _ _ _))⟩); have p150 : 0 ≤ (x4_2 : Int) := of_decide_eq_true (by first | (with_reducible assumption) | assumption); have q150 : x4_2 < (l0.length : Int) := of_decide_eq_true (by first | (with_reducible assumption) | assumption); obtain ⟨ad150, e150, hx150_0⟩ := Kd.at_int HR0.out x4_2 p150 q150; obtain rfl : ad145 = ad150 := (by injection e150); replace p150 := eq_true p150; replace q150 := eq_true q150; have p151 : 0 ≤ (x4_2 : Int) := of_decide_eq_true (by first | (with_reducible assumption) | assumption); have q151 : x4_2 < (l0.length : Int) := of_decide_eq_true (by first | (with_reducible assumption) | assumption); obtain ⟨ad151, e151, hx151_0⟩ := Kd.at_int HR0.out x4_2 p151 q151; obtain rfl : ad145 = ad151 := (by injection e151); replace p151 := eq_true p151; replace q151 := eq_true q151)); try go_wp2_with (first | (go_at_call 82; (with_reducible refine (orthoepyref02_second.calls (rd l0 0) (rd l0 1) true _ A12.out).mono ?_); rintro e w' ⟨rfl, ⟨nd, rfl⟩⟩; (try first | exact ⟨rfl, _, World.drewN_drewN _ _ _⟩ | exact ⟨rfl, _, Eq.trans (World.drewN_drewN _ _ _) (congrArg (World.drewN _) (Nat.add_assoc _ _ _))⟩); have p150 : 0 ≤ (x4_2 : Int) := of_decide_eq_true (by first | (with_reducible assumption) | assumption); have q150 : x4_2 < (l0.length : Int) := of_decide_eq_true (by first | (with_reducible assumption) | assumption); obtain ⟨ad150, e150, hx150_0⟩ := Kd.at_int HR0.out x4_2 p150 q150; obtain rfl : ad145 = ad150 := (by injection e150); replace p150 := eq_true p150; replace q150 := eq_true q150; have p151 : 0 ≤ (x4_2 : Int) := of_decide_eq_true (by first | (with_reducible assumption) | assumption); have q151 : x4_2 < (l0.length : Int) := of_decide_eq_true (by first | (with_reducible assumption) | assumption); obtain ⟨ad151, e151, hx151_0⟩ := Kd.at_int HR0.out x4_2 p151 q151; obtain rfl : ad145 = ad151 := (by injection e151); replace p151 := eq_true p151; replace q151 := eq_true q151)))
                                go_ret
                                exact ⟨by first | rfl | (simp; done) | (simp [*]; done), by repeat (first | exact Drawn0.refl _ | apply Drawn0.step)⟩
                              · rw [if_neg c16] at H
                                have c16b0 : decide (191 < (rd l0 x4_2)) = false := decide_eq_false c16
                                clear c16
                                have H' := Aside0.mk H
                                clear H
                                have p147 : 0 ≤ (0 : Int) := (by omega)
                                have q147 : 0 < (l0.length : Int) := of_decide_eq_true (by first | (with_reducible assumption) | assumption)
                                obtain ⟨ad147, e147, hx147_0⟩ := Kd.at_int HR0.out 0 p147 q147
                                obtain rfl : ad145 = ad147 := (by injection e147)
                                have qi147 : (0 < l0.length) = True := eq_true (by omega)
                                (try rw [show ((0 : Int)).toNat = 0 from rfl] at hx147_0)
                                (try rw [Addr.add_zero'] at hx147_0)
                                replace p147 := eq_true p147
                                replace q147 := eq_true q147
                                have p148 : 0 ≤ (1 : Int) := (by omega)
                                have q148 : 1 < (l0.length : Int) := of_decide_eq_true (by first | (with_reducible assumption) | assumption)
                                obtain ⟨ad148, e148, hx148_0⟩ := Kd.at_int HR0.out 1 p148 q148
                                obtain rfl : ad145 = ad148 := (by injection e148)
                                (try simp only [show (1 : Int).toNat = 1 from rfl, Nat.reduceMul, Nat.reduceEqDiff, Go.Addr.add, ↓reduceIte] at hx148_0)
                                have qi148 : (1 < l0.length) = True := eq_true (by omega)
                                (try rw [show ((1 : Int)).toNat = 1 from rfl] at hx148_0)
                                replace p148 := eq_true p148
                                replace q148 := eq_true q148
                                go_wp2_with (first | (go_at_call 82; (with_reducible refine (orthoepyref02_second.calls (rd l0 0) (rd l0 1) true _ A12.out).mono ?_); rintro e w' ⟨rfl, ⟨nd, rfl⟩⟩; (try first | exact ⟨rfl, _, World.drewN_drewN _ _ _⟩ | exact ⟨rfl, _, Eq.trans (World.drewN_drewN _ _ _) (congrArg (World.drewN _) (Nat.add_assoc _ _ _))⟩); have p150 : 0 ≤ (x4_2 : Int) := of_decide_eq_true (by first | (with_reducible assumption) | assumption); have q150 : x4_2 < (l0.length : Int) := of_decide_eq_true (by first | (with_reducible assumption) | assumption); obtain ⟨ad150, e150, hx150_0⟩ := Kd.at_int HR0.out x4_2 p150 q150; obtain rfl : ad145 = ad150 := (by injection e150); replace p150 := eq_true p150; replace q150 := eq_true q150; have p151 : 0 ≤ (x4_2 : Int) := of_decide_eq_true (by first | (with_reducible assumption) | assumption); have q151 : x4_2 < (l0.length : Int) := of_decide_eq_true (by first | (with_reducible assumption) | assumption); obtain ⟨ad151, e151, hx151_0⟩ := Kd.at_int HR0.out x4_2 p151 q151; obtain rfl : ad145 = ad151 := (by injection e151); replace p151 := eq_true p151; replace q151 := eq_true q151))
                                repeat (go_quiet (first | (go_at_call 82; (with_reducible refine (orthoepyref02_second.calls (rd l0 0) (rd l0 1) true _ A12.out).mono ?_); rintro e w' ⟨rfl, ⟨nd, rfl⟩⟩; (try first | exact ⟨rfl, _, World.drewN_drewN _ _ _⟩ | exact ⟨rfl, _, Eq.trans (World.drewN_drewN _ _ _) (congrArg (World.drewN _) (Nat.add_assoc _ _ _))⟩); have p150 : 0 ≤ (x4_2 : Int) := of_decide_eq_true (by first | (with_reducible assumption) | assumption); have q150 : x4_2 < (l0.length : Int) := of_decide_eq_true (by first | (with_reducible assumption) | assumption); obtain ⟨ad150, e150, hx150_0⟩ := Kd.at_int HR0.out x4_2 p150 q150; obtain rfl : ad145 = ad150 := (by injection e150); replace p150 := eq_true p150; replace q150 := eq_true q150; have p151 : 0 ≤ (x4_2 : Int) := of_decide_eq_true (by first | (with_reducible assumption) | assumption); have q151 : x4_2 < (l0.length : Int) := of_decide_eq_true (by first | (with_reducible assumption) | assumption); obtain ⟨ad151, e151, hx151_0⟩ := Kd.at_int HR0.out x4_2 p151 q151; obtain rfl : ad145 = ad151 := (by injection e151); replace p151 := eq_true p151; replace q151 := eq_true q151)); try go_wp2_with (first | (go_at_call 82; (with_reducible refine (orthoepyref02_second.calls (rd l0 0) (rd l0 1) true _ A12.out).mono ?_); rintro e w' ⟨rfl, ⟨nd, rfl⟩⟩; (try first | exact ⟨rfl, _, World.drewN_drewN _ _ _⟩ | exact ⟨rfl, _, Eq.trans (World.drewN_drewN _ _ _) (congrArg (World.drewN _) (Nat.add_assoc _ _ _))⟩); have p150 : 0 ≤ (x4_2 : Int) := of_decide_eq_true (by first | (with_reducible assumption) | assumption); have q150 : x4_2 < (l0.length : Int) := of_decide_eq_true (by first | (with_reducible assumption) | assumption); obtain ⟨ad150, e150, hx150_0⟩ := Kd.at_int HR0.out x4_2 p150 q150; obtain rfl : ad145 = ad150 := (by injection e150); replace p150 := eq_true p150; replace q150 := eq_true q150; have p151 : 0 ≤ (x4_2 : Int) := of_decide_eq_true (by first | (with_reducible assumption) | assumption); have q151 : x4_2 < (l0.length : Int) := of_decide_eq_true (by first | (with_reducible assumption) | assumption); obtain ⟨ad151, e151, hx151_0⟩ := Kd.at_int HR0.out x4_2 p151 q151; obtain rfl : ad145 = ad151 := (by injection e151); replace p151 := eq_true p151; replace q151 := eq_true q151)))
                                go_roundg k2
                                case measure => have := HJ1.out; have := HK2.out; omega
                                case rel => exact ⟨(wrap64 (x4_2 + 1)), (by first | rfl | (simp; done) | (simp [*]; done)), H', ⟨by have := HJ1.out; have := HK2.out; omega⟩, by repeat (first | exact Drawn0.refl _ | apply Drawn0.step)⟩
                          · rw [if_neg c14] at H
                            exact absurd H (by simp)
                        · replace c13 := Bool.eq_false_iff.mpr c13
                          subst c13
                          have H1 : (some 0) = some r := by rw [if_neg (show ¬ (false = true) by decide)] at H; exact H
                          clear H
                          have H := H1
                          clear H1
                          obtain rfl := Option.some.inj H
                          have p147 : 0 ≤ (0 : Int) := (by omega)
                          have q147 : 0 < (l0.length : Int) := of_decide_eq_true (by first | (with_reducible assumption) | assumption)
                          obtain ⟨ad147, e147, hx147_0⟩ := Kd.at_int HR0.out 0 p147 q147
                          obtain rfl : ad145 = ad147 := (by injection e147)
                          have qi147 : (0 < l0.length) = True := eq_true (by omega)
                          (try rw [show ((0 : Int)).toNat = 0 from rfl] at hx147_0)
                          (try rw [Addr.add_zero'] at hx147_0)
                          replace p147 := eq_true p147
                          replace q147 := eq_true q147
                          have p148 : 0 ≤ (1 : Int) := (by omega)
                          have q148 : 1 < (l0.length : Int) := of_decide_eq_true (by first | (with_reducible assumption) | assumption)
                          obtain ⟨ad148, e148, hx148_0⟩ := Kd.at_int HR0.out 1 p148 q148
                          obtain rfl : ad145 = ad148 := (by injection e148)
                          (try simp only [show (1 : Int).toNat = 1 from rfl, Nat.reduceMul, Nat.reduceEqDiff, Go.Addr.add, ↓reduceIte] at hx148_0)
                          have qi148 : (1 < l0.length) = True := eq_true (by omega)
                          (try rw [show ((1 : Int)).toNat = 1 from rfl] at hx148_0)
                          replace p148 := eq_true p148
                          replace q148 := eq_true q148
                          go_wp2_with (first | (go_at_call 82; (with_reducible refine (orthoepyref02_second.calls (rd l0 0) (rd l0 1) false _ A12.out).mono ?_); rintro e w' ⟨rfl, ⟨nd, rfl⟩⟩; (try first | exact ⟨rfl, _, World.drewN_drewN _ _ _⟩ | exact ⟨rfl, _, Eq.trans (World.drewN_drewN _ _ _) (congrArg (World.drewN _) (Nat.add_assoc _ _ _))⟩)))
                          repeat (go_quiet (first | (go_at_call 82; (with_reducible refine (orthoepyref02_second.calls (rd l0 0) (rd l0 1) false _ A12.out).mono ?_); rintro e w' ⟨rfl, ⟨nd, rfl⟩⟩; (try first | exact ⟨rfl, _, World.drewN_drewN _ _ _⟩ | exact ⟨rfl, _, Eq.trans (World.drewN_drewN _ _ _) (congrArg (World.drewN _) (Nat.add_assoc _ _ _))⟩))); try go_wp2_with (first | (go_at_call 82; (with_reducible refine (orthoepyref02_second.calls (rd l0 0) (rd l0 1) false _ A12.out).mono ?_); rintro e w' ⟨rfl, ⟨nd, rfl⟩⟩; (try first | exact ⟨rfl, _, World.drewN_drewN _ _ _⟩ | exact ⟨rfl, _, Eq.trans (World.drewN_drewN _ _ _) (congrArg (World.drewN _) (Nat.add_assoc _ _ _))⟩))))
                          go_ret
                          exact ⟨by first | rfl | (simp; done) | (simp [*]; done), by repeat (first | exact Drawn0.refl _ | apply Drawn0.step)⟩
                      · rw [if_neg c11] at H
                        exact absurd H (by simp)
                    · rw [if_neg c10] at H
                      exact absurd H (by simp)
                  · rw [if_neg c9] at H
                    have c9b0 : (x4_2 == 1) = false := beq_eq_false_iff_ne.mpr c9
                    have c9b1 : (x4_2 != 1) = true := bne_iff_ne.mpr c9
                    by_cases c17 : 0 ≤ x4_2
                    · rw [if_pos c17] at H
                      have c17b0 : decide (0 ≤ x4_2) = true := decide_eq_true c17
                      clear c17
                      by_cases c18 : (rd l0 x4_2) < 128
                      · rw [if_pos c18] at H
                        have c18b0 : decide ((rd l0 x4_2) < 128) = true := decide_eq_true c18
                        clear c18
                        obtain rfl := Option.some.inj H
                        have p152 : 0 ≤ (x4_2 : Int) := of_decide_eq_true (by first | (with_reducible assumption) | assumption)
                        have q152 : x4_2 < (l0.length : Int) := of_decide_eq_true (by first | (with_reducible assumption) | assumption)
                        obtain ⟨ad152, e152, hx152_0⟩ := Kd.at_int HR0.out x4_2 p152 q152
                        obtain rfl : ad145 = ad152 := (by injection e152)
                        replace p152 := eq_true p152
                        replace q152 := eq_true q152
                        go_wp2
                        repeat (go_quiet (fail); try go_wp2)
                        go_ret
                        exact ⟨by first | rfl | (simp; done) | (simp [*]; done), by repeat (first | exact Drawn0.refl _ | apply Drawn0.step)⟩
                      · rw [if_neg c18] at H
                        have c18b0 : decide ((rd l0 x4_2) < 128) = false := decide_eq_false c18
                        clear c18
                        by_cases c19 : (rd l0 x4_2) > 191
                        · rw [if_pos c19] at H
                          have c19b0 : decide (191 < (rd l0 x4_2)) = true := decide_eq_true c19
                          clear c19
                          obtain rfl := Option.some.inj H
                          have p152 : 0 ≤ (x4_2 : Int) := of_decide_eq_true (by first | (with_reducible assumption) | assumption)
                          have q152 : x4_2 < (l0.length : Int) := of_decide_eq_true (by first | (with_reducible assumption) | assumption)
                          obtain ⟨ad152, e152, hx152_0⟩ := Kd.at_int HR0.out x4_2 p152 q152
                          obtain rfl : ad145 = ad152 := (by injection e152)
                          replace p152 := eq_true p152
                          replace q152 := eq_true q152
                          have p153 : 0 ≤ (x4_2 : Int) := of_decide_eq_true (by first | (with_reducible assumption) | assumption)
                          have q153 : x4_2 < (l0.length : Int) := of_decide_eq_true (by first | (with_reducible assumption) | assumption)
                          obtain ⟨ad153, e153, hx153_0⟩ := Kd.at_int HR0.out x4_2 p153 q153
                          obtain rfl : ad145 = ad153 := (by injection e153)
                          replace p153 := eq_true p153
                          replace q153 := eq_true q153
                          go_wp2
                          repeat (go_quiet (fail); try go_wp2)
                          go_ret
                          exact ⟨by first | rfl | (simp; done) | (simp [*]; done), by repeat (first | exact Drawn0.refl _ | apply Drawn0.step)⟩
                        · rw [if_neg c19] at H
                          have c19b0 : decide (191 < (rd l0 x4_2)) = false := decide_eq_false c19
                          clear c19
                          have H' := Aside0.mk H
                          clear H
                          have p152 : 0 ≤ (x4_2 : Int) := of_decide_eq_true (by first | (with_reducible assumption) | assumption)
                          have q152 : x4_2 < (l0.length : Int) := of_decide_eq_true (by first | (with_reducible assumption) | assumption)
                          obtain ⟨ad152, e152, hx152_0⟩ := Kd.at_int HR0.out x4_2 p152 q152
                          obtain rfl : ad145 = ad152 := (by injection e152)
                          replace p152 := eq_true p152
                          replace q152 := eq_true q152
                          have p153 : 0 ≤ (x4_2 : Int) := of_decide_eq_true (by first | (with_reducible assumption) | assumption)
                          have q153 : x4_2 < (l0.length : Int) := of_decide_eq_true (by first | (with_reducible assumption) | assumption)
                          obtain ⟨ad153, e153, hx153_0⟩ := Kd.at_int HR0.out x4_2 p153 q153
                          obtain rfl : ad145 = ad153 := (by injection e153)
                          replace p153 := eq_true p153
                          replace q153 := eq_true q153
                          go_wp2
                          repeat (go_quiet (fail); try go_wp2)
                          go_roundg k2
                          case measure => have := HJ1.out; have := HK2.out; omega
                          case rel => exact ⟨(wrap64 (x4_2 + 1)), (by first | rfl | (simp; done) | (simp [*]; done)), H', ⟨by have := HJ1.out; have := HK2.out; omega⟩, by repeat (first | exact Drawn0.refl _ | apply Drawn0.step)⟩
                    · rw [if_neg c17] at H
                      exact absurd H (by simp)
                · rw [if_neg c8] at H
                  have c8b0 : decide (x4_2 < (l0.length : Int)) = false := decide_eq_false c8
                  clear c8
                  by_cases c20 : t146 = (l0.length : Int)
                  · rw [if_pos c20] at H
                    have c20b0 : (t146 == (l0.length : Int)) = true := beq_iff_eq.mpr c20
                    have c20b1 : (t146 != (l0.length : Int)) = false := bne_eq_false_iff_eq.mpr c20
                    clear c20
                    obtain rfl := Option.some.inj H
                    go_wp2
                    repeat (go_quiet (fail); try go_wp2)
                    go_ret
                    exact ⟨by first | rfl | (simp; done) | (simp [*]; done), by repeat (first | exact Drawn0.refl _ | apply Drawn0.step)⟩
                  · rw [if_neg c20] at H
                    have c20b0 : (t146 == (l0.length : Int)) = false := beq_eq_false_iff_ne.mpr c20
                    have c20b1 : (t146 != (l0.length : Int)) = true := bne_iff_ne.mpr c20
                    obtain rfl := Option.some.inj H
                    go_wp2
                    repeat (go_quiet (fail); try go_wp2)
                    go_ret
                    exact ⟨by first | rfl | (simp; done) | (simp [*]; done), by repeat (first | exact Drawn0.refl _ | apply Drawn0.step)⟩
        · rw [if_neg c5] at H
          exact absurd H (by simp)

/-! ### orthoepyref02_of: function 66 -/
mutual
def orthoepyref02_of.j0 : Nat → List Int → Int → Option (Int)
  | 0, _, _ => none
  | k + 1, x0, x3 => orthoepyref02_of.l0 k x0 x3 1
def orthoepyref02_of.l0 : Nat → List Int → Int → Int → Option (Int)
  | 0, _, _, _ => none
  | k + 1, x0, x3, x4 => if x4 < (x0.length : Int) then (if 0 ≤ x4 then (orthoepyref02_of.l0 k x0 (wrap32 ((wrap32 ((wrap32 (x3 * 64)) + (wrap32 (rd x0 x4)))) - 128)) (wrap64 (x4 + 1))) else (none)) else (some x3)
end
def orthoepyref02_of.f (k : Nat) (l0 : List Int) : Option (Int) := if 0 < (l0.length : Int) then (if (l0.length : Int) = 2 then (orthoepyref02_of.j0 k l0 (wrap32 ((wrap32 (rd l0 0)) - 192))) else (if (l0.length : Int) = 3 then (orthoepyref02_of.j0 k l0 (wrap32 ((wrap32 (rd l0 0)) - 224))) else (if (l0.length : Int) = 4 then (orthoepyref02_of.j0 k l0 (wrap32 ((wrap32 (rd l0 0)) - 240))) else (orthoepyref02_of.j0 k l0 (wrap32 (rd l0 0)))))) else (none)
theorem orthoepyref02_of.mono_l : ∀ k, (∀ y0 y1, LeO (orthoepyref02_of.j0 k y0 y1) (orthoepyref02_of.j0 (k + 1) y0 y1)) ∧ (∀ y0 y1 y2, LeO (orthoepyref02_of.l0 k y0 y1 y2) (orthoepyref02_of.l0 (k + 1) y0 y1 y2))
  | 0 => ⟨fun _ _ r h => by simp [orthoepyref02_of.j0] at h, fun _ _ _ r h => by simp [orthoepyref02_of.l0] at h⟩
  | k + 1 => by
    obtain ⟨ih0, ih1⟩ := orthoepyref02_of.mono_l k
    refine ⟨?_, ?_⟩
    · intro y0 y1
      unfold orthoepyref02_of.j0
      repeat' first
      | (with_reducible exact ih0 _ _)
      | (with_reducible exact ih1 _ _ _)
      | (with_reducible exact LeO.refl _)
      | (with_reducible exact LeO.none _)
      | (with_reducible refine LeO.ite ?_ ?_)
      | (with_reducible refine LeO.bind ?_ (fun _ => ?_))
      | exact ih0 _ _
      | exact ih1 _ _ _
      | exact LeO.none _
      | refine LeO.ite ?_ ?_
      | refine LeO.bind ?_ (fun _ => ?_)
    · intro y0 y1 y2
      unfold orthoepyref02_of.l0
      repeat' first
      | (with_reducible exact ih0 _ _)
      | (with_reducible exact ih1 _ _ _)
      | (with_reducible exact LeO.refl _)
      | (with_reducible exact LeO.none _)
      | (with_reducible refine LeO.ite ?_ ?_)
      | (with_reducible refine LeO.bind ?_ (fun _ => ?_))
      | exact ih0 _ _
      | exact ih1 _ _ _
      | exact LeO.none _
      | refine LeO.ite ?_ ?_
      | refine LeO.bind ?_ (fun _ => ?_)
theorem orthoepyref02_of.mono : ∀ a0 k, LeO (orthoepyref02_of.f k a0) (orthoepyref02_of.f (k + 1) a0) := by
  intro a0 k
  obtain ⟨ih0, ih1⟩ := orthoepyref02_of.mono_l k
  unfold orthoepyref02_of.f
  repeat' first
      | (with_reducible exact ih0 _ _)
      | (with_reducible exact ih1 _ _ _)
      | (with_reducible exact LeO.refl _)
      | (with_reducible exact LeO.none _)
      | (with_reducible refine LeO.ite ?_ ?_)
      | (with_reducible refine LeO.bind ?_ (fun _ => ?_))
      | exact ih0 _ _
      | exact ih1 _ _ _
      | exact LeO.none _
      | refine LeO.ite ?_ ?_
      | refine LeO.bind ?_ (fun _ => ?_)
set_option maxHeartbeats 8000000 in
set_option maxRecDepth 100000 in
theorem orthoepyref02_of.calls (k : Nat) (A0 : Option Addr) (c0 : Nat) (l0 : List Int) (r : Int) (w : World) (hr0 : Kd.C (Kd.int .u8) w A0 l0.length l0) (hc0 : l0.length ≤ c0) (h : orthoepyref02_of.f k l0 = some r) :
    Calls Try.prog 66 #[.slice A0 l0.length c0] w fun e w' => e = .returned (.int .i32 r) ∧ Drawn0 w w' := by
  have HR0 := Aside0.mk hr0
  have HC0 := Aside0.mk hc0
  clear hr0 hc0
  have H : (if 0 < (l0.length : Int) then (if (l0.length : Int) = 2 then (orthoepyref02_of.j0 k l0 (wrap32 ((wrap32 (rd l0 0)) - 192))) else (if (l0.length : Int) = 3 then (orthoepyref02_of.j0 k l0 (wrap32 ((wrap32 (rd l0 0)) - 224))) else (if (l0.length : Int) = 4 then (orthoepyref02_of.j0 k l0 (wrap32 ((wrap32 (rd l0 0)) - 240))) else (orthoepyref02_of.j0 k l0 (wrap32 (rd l0 0)))))) else (none)) = some r := h
  clear h
  by_cases c2 : 0 < (l0.length : Int)
  · rw [if_pos c2] at H
    have c2b0 : decide (0 < (l0.length : Int)) = true := decide_eq_true c2
    have c2b1 : decide (0 < l0.length) = true := decide_eq_true (by omega)
    clear c2
    have HC3 := Aside0.mk H
    clear H
    have p154 : 0 ≤ (0 : Int) := (by omega)
    have q154 : 0 < (l0.length : Int) := of_decide_eq_true (by first | (with_reducible assumption) | assumption)
    obtain ⟨ad154, e154, hx154_0⟩ := Kd.at_int HR0.out 0 p154 q154
    cases e154
    have qi154 : (0 < l0.length) = True := eq_true (by omega)
    (try rw [show ((0 : Int)).toNat = 0 from rfl] at hx154_0)
    (try rw [Addr.add_zero'] at hx154_0)
    replace p154 := eq_true p154
    replace q154 := eq_true q154
    go_enter Try.func66, Try.ntmps66
    go_upto_block 0 with (fail)
    go_cut [3] (fun v3 wc => ∃ (kq : Nat) (x3_2 : Int), v3 = .int .i32 x3_2 ∧ Aside0 (orthoepyref02_of.j0 kq l0 x3_2 = some r) ∧ Aside0 (kq ≤ k) ∧ Drawn0 w wc)
    case first =>
      have H := HC3.out
      clear HC3
      by_cases c4 : (l0.length : Int) = 2
      · rw [if_pos c4] at H
        have c4b0 : ((l0.length : Int) == 2) = true := beq_iff_eq.mpr c4
        have c4b1 : ((l0.length : Int) != 2) = false := bne_eq_false_iff_eq.mpr c4
        clear c4
        (first | rw [c4b0] | (simp only [i64_w, i32_w]; rw [c4b0]) | skip)
        have H' := Aside0.mk H
        clear H
        go_wp2
        go_meet
        case rel => exact ⟨_, (wrap32 ((wrap32 (rd l0 0)) - 192)), (by first | rfl | (simp; done) | (simp [*]; done)), H', ⟨by first | omega | exact Nat.le_refl _⟩, by repeat (first | exact Drawn0.refl _ | apply Drawn0.step)⟩
      · rw [if_neg c4] at H
        have c4b0 : ((l0.length : Int) == 2) = false := beq_eq_false_iff_ne.mpr c4
        have c4b1 : ((l0.length : Int) != 2) = true := bne_iff_ne.mpr c4
        (first | rw [c4b0] | (simp only [i64_w, i32_w]; rw [c4b0]) | skip)
        by_cases c5 : (l0.length : Int) = 3
        · rw [if_pos c5] at H
          have c5b0 : ((l0.length : Int) == 3) = true := beq_iff_eq.mpr c5
          have c5b1 : ((l0.length : Int) != 3) = false := bne_eq_false_iff_eq.mpr c5
          clear c5
          have H' := Aside0.mk H
          clear H
          go_wp2
          go_meet
          case rel => exact ⟨_, (wrap32 ((wrap32 (rd l0 0)) - 224)), (by first | rfl | (simp; done) | (simp [*]; done)), H', ⟨by first | omega | exact Nat.le_refl _⟩, by repeat (first | exact Drawn0.refl _ | apply Drawn0.step)⟩
        · rw [if_neg c5] at H
          have c5b0 : ((l0.length : Int) == 3) = false := beq_eq_false_iff_ne.mpr c5
          have c5b1 : ((l0.length : Int) != 3) = true := bne_iff_ne.mpr c5
          by_cases c6 : (l0.length : Int) = 4
          · rw [if_pos c6] at H
            have c6b0 : ((l0.length : Int) == 4) = true := beq_iff_eq.mpr c6
            have c6b1 : ((l0.length : Int) != 4) = false := bne_eq_false_iff_eq.mpr c6
            clear c6
            have H' := Aside0.mk H
            clear H
            go_wp2
            go_meet
            case rel => exact ⟨_, (wrap32 ((wrap32 (rd l0 0)) - 240)), (by first | rfl | (simp; done) | (simp [*]; done)), H', ⟨by first | omega | exact Nat.le_refl _⟩, by repeat (first | exact Drawn0.refl _ | apply Drawn0.step)⟩
          · rw [if_neg c6] at H
            have c6b0 : ((l0.length : Int) == 4) = false := beq_eq_false_iff_ne.mpr c6
            have c6b1 : ((l0.length : Int) != 4) = true := bne_iff_ne.mpr c6
            have H' := Aside0.mk H
            clear H
            go_wp2
            go_meet
            case rel => exact ⟨_, (wrap32 (rd l0 0)), (by first | rfl | (simp; done) | (simp [*]; done)), H', ⟨by first | omega | exact Nat.le_refl _⟩, by repeat (first | exact Drawn0.refl _ | apply Drawn0.step)⟩
    case rest =>
      clear HC3
      try clear p1
      try clear q1
      try clear hx1
      try clear qi1
      try clear c2
      try clear c2b0
      try clear c2b1
      try clear p2
      try clear p3
      try clear c4
      try clear c4b0
      try clear c4b1
      try clear c5
      try clear c5b0
      try clear c5b1
      try clear c6
      try clear c6b0
      try clear c6b1
      try clear hx154_0
      try clear p154
      try clear q154
      obtain ⟨kq, x3_2, rfl, HA, HJ2, ⟨mc2, rfl⟩⟩ := hcut
      cases kq with
      | zero => exact absurd HA.out (by simp [orthoepyref02_of.j0])
      | succ kj2 =>
        have H := HA.out
        clear HA
        simp only [orthoepyref02_of.j0] at H
        have H' := Aside0.mk H
        clear H
        go_wp2
        go_loopg [3, 4] kj2 (fun kq v3 v4 w' => ∃ (x3_2 : Int) (x4_2 : Int), v3 = .int .i32 x3_2 ∧ v4 = .int .i64 x4_2 ∧ Aside0 (orthoepyref02_of.l0 kq l0 x3_2 x4_2 = some r) ∧ Aside0 (kq ≤ kj2) ∧ Drawn0 w w')
        case atStart => exact ⟨(x3_2), (1), (by first | rfl | (simp; done) | (simp [*]; done)), (by first | rfl | (simp; done) | (simp [*]; done)), H', ⟨Nat.le_refl _⟩, by repeat (first | exact Drawn0.refl _ | apply Drawn0.step)⟩
        case round =>
          clear H'
          try clear p1
          try clear q1
          try clear hx1
          try clear qi1
          try clear c2
          try clear c2b0
          try clear c2b1
          try clear p2
          try clear p3
          try clear c4
          try clear c4b0
          try clear c4b1
          try clear c5
          try clear c5b0
          try clear c5b1
          try clear c6
          try clear c6b0
          try clear c6b1
          try clear hx154_0
          try clear p1
          try clear p154
          try clear p2
          try clear p3
          try clear q1
          try clear q154
          obtain ⟨x3_2, x4_2, rfl, rfl, HA, HK2, ⟨m2, rfl⟩⟩ := hrel
          cases gk with
          | zero => exact absurd HA.out (by simp [orthoepyref02_of.l0])
          | succ k2 =>
            have H := HA.out
            clear HA
            simp only [orthoepyref02_of.l0] at H
            by_cases c7 : x4_2 < (l0.length : Int)
            · rw [if_pos c7] at H
              have c7b0 : decide (x4_2 < (l0.length : Int)) = true := decide_eq_true c7
              clear c7
              by_cases c8 : 0 ≤ x4_2
              · rw [if_pos c8] at H
                have c8b0 : decide (0 ≤ x4_2) = true := decide_eq_true c8
                clear c8
                have H' := Aside0.mk H
                clear H
                have p155 : 0 ≤ (x4_2 : Int) := of_decide_eq_true (by first | (with_reducible assumption) | assumption)
                have q155 : x4_2 < (l0.length : Int) := of_decide_eq_true (by first | (with_reducible assumption) | assumption)
                obtain ⟨ad155, e155, hx155_0⟩ := Kd.at_int HR0.out x4_2 p155 q155
                obtain rfl : ad154 = ad155 := (by injection e155)
                replace p155 := eq_true p155
                replace q155 := eq_true q155
                go_wp2
                go_roundg k2
                case measure => have := HJ2.out; have := HK2.out; omega
                case rel => exact ⟨(wrap32 ((wrap32 ((wrap32 (x3_2 * 64)) + (wrap32 (rd l0 x4_2)))) - 128)), (wrap64 (x4_2 + 1)), (by first | rfl | (simp; done) | (simp [*]; done)), (by first | rfl | (simp; done) | (simp [*]; done)), H', ⟨by have := HJ2.out; have := HK2.out; omega⟩, by repeat (first | exact Drawn0.refl _ | apply Drawn0.step)⟩
              · rw [if_neg c8] at H
                exact absurd H (by simp)
            · rw [if_neg c7] at H
              have c7b0 : decide (x4_2 < (l0.length : Int)) = false := decide_eq_false c7
              clear c7
              obtain rfl := Option.some.inj H
              go_wp2
              go_ret
              exact ⟨by first | rfl | (simp; done) | (simp [*]; done), by repeat (first | exact Drawn0.refl _ | apply Drawn0.step)⟩
  · rw [if_neg c2] at H
    exact absurd H (by simp)

end Go.Proofs.Ytkpeblpgfngjcaa.PAll
