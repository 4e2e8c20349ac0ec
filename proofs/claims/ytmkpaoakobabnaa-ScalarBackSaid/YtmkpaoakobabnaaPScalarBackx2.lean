-- PRINTED BY print.sh 35421559b90ae4d0a3588c463048766b98c2df88dd9212a6774a882060cdf62d: not written by this session
import Derived.Test.YtmkpaoakobabnaaPScalarBackx0
import Derived.Test.YtmkpaoakobabnaaPScalarBackx1
namespace Go.Proofs.Ytmkpaoakobabnaa.PScalarBack
open Go.RowKit Go.Proofs.YtmkpaoakobabnaaW.PrintWords Go.Proofs.YtmkpaoakobabnaaW.PrintLast Go.Proofs.YtmkpaoakobabnaaW.PrintMore
attribute [local go_sem] max2_int min2_int max_two min_two max_three min_three max_four min_four   -- for this text's walks alone
set_option linter.unusedVariables false
set_option linter.unusedSimpArgs false

/-! ### orthoepylaw01_ScalarBack: function 4 -/
mutual
def orthoepylaw01_ScalarBack.j0 : Nat → Int → Int → Int → Option (Bool)
  | 0, _, _, _ => none
  | k + 1, x1, x2, x7 => (scalar_Split.f (wrap32 (wrap64 (65536 + x7)))).bind fun bt119 => ((scalar_Join.f bt119.1 bt119.2.1).bind fun bt122 => (if bt119.2.2 = true then (if bt122.2 = true then (if bt122.1 = (wrap32 (wrap64 (65536 + x7))) then ((scalar_High.f bt119.1).bind fun t124 => (if t124 = true then ((scalar_Low.f bt119.1).bind fun t125 => (if t125 = true then (orthoepylaw01_ScalarBack.j1 k x1 x2 true) else ((scalar_Low.f bt119.2.1).bind fun t126 => (if t126 = true then ((scalar_High.f bt119.2.1).bind fun t127 => (if t127 = true then (orthoepylaw01_ScalarBack.j1 k x1 x2 true) else ((scalar_Is.f (wrap32 (wrap64 (65536 + x7)))).bind fun t128 => (orthoepylaw01_ScalarBack.j1 k x1 x2 (!t128))))) else (orthoepylaw01_ScalarBack.j1 k x1 x2 true))))) else (orthoepylaw01_ScalarBack.j1 k x1 x2 true))) else (orthoepylaw01_ScalarBack.j1 k x1 x2 true)) else (orthoepylaw01_ScalarBack.j1 k x1 x2 true)) else (orthoepylaw01_ScalarBack.j1 k x1 x2 true)))
def orthoepylaw01_ScalarBack.j1 : Nat → Int → Int → Bool → Option (Bool)
  | 0, _, _, _ => none
  | k + 1, x1, x2, x73 => if x73 = true then (some false) else ((scalar_Join.f x1 x2).bind fun bt129 => (if bt129.2 = true then ((scalar_Split.f bt129.1).bind fun bt131 => (if bt131.2.2 = true then (if bt131.1 = x1 then (if bt131.2.1 = x2 then ((orthoepylaw01_awake.f).bind fun t134 => (some t134)) else (some false)) else (some false)) else (some false))) else (if bt129.1 = 0 then ((scalar_High.f x1).bind fun t135 => (if t135 = true then ((scalar_Low.f x2).bind fun t136 => (if t136 = true then (some false) else ((orthoepylaw01_awake.f).bind fun t137 => (some t137)))) else ((orthoepylaw01_awake.f).bind fun t138 => (some t138)))) else (some false))))
end
def orthoepylaw01_ScalarBack.f (k : Nat) (a0 : Int) (a1 : Int) (a2 : Int) : Option (Bool) := if (Int.tmod a0 1048576) < 0 then (orthoepylaw01_ScalarBack.j0 k a1 a2 (wrap64 (-(Int.tmod a0 1048576)))) else (orthoepylaw01_ScalarBack.j0 k a1 a2 (Int.tmod a0 1048576))
theorem orthoepylaw01_ScalarBack.mono_l : ∀ k, (∀ y0 y1 y2, LeO (orthoepylaw01_ScalarBack.j0 k y0 y1 y2) (orthoepylaw01_ScalarBack.j0 (k + 1) y0 y1 y2)) ∧ (∀ y0 y1 y2, LeO (orthoepylaw01_ScalarBack.j1 k y0 y1 y2) (orthoepylaw01_ScalarBack.j1 (k + 1) y0 y1 y2))
  | 0 => ⟨fun _ _ _ r h => by simp [orthoepylaw01_ScalarBack.j0] at h, fun _ _ _ r h => by simp [orthoepylaw01_ScalarBack.j1] at h⟩
  | k + 1 => by
    obtain ⟨ih0, ih1⟩ := orthoepylaw01_ScalarBack.mono_l k
    refine ⟨?_, ?_⟩
    · intro y0 y1 y2
      unfold orthoepylaw01_ScalarBack.j0
      repeat' first
      | (with_reducible exact ih0 _ _ _)
      | (with_reducible exact ih1 _ _ _)
      | (with_reducible exact LeO.refl _)
      | (with_reducible exact LeO.none _)
      | (with_reducible refine LeO.ite ?_ ?_)
      | (with_reducible refine LeO.bind ?_ (fun _ => ?_))
      | exact ih0 _ _ _
      | exact ih1 _ _ _
      | exact LeO.none _
      | refine LeO.ite ?_ ?_
      | refine LeO.bind ?_ (fun _ => ?_)
    · intro y0 y1 y2
      unfold orthoepylaw01_ScalarBack.j1
      repeat' first
      | (with_reducible exact ih0 _ _ _)
      | (with_reducible exact ih1 _ _ _)
      | (with_reducible exact LeO.refl _)
      | (with_reducible exact LeO.none _)
      | (with_reducible refine LeO.ite ?_ ?_)
      | (with_reducible refine LeO.bind ?_ (fun _ => ?_))
      | exact ih0 _ _ _
      | exact ih1 _ _ _
      | exact LeO.none _
      | refine LeO.ite ?_ ?_
      | refine LeO.bind ?_ (fun _ => ?_)
theorem orthoepylaw01_ScalarBack.mono : ∀ a0 a1 a2 k, LeO (orthoepylaw01_ScalarBack.f k a0 a1 a2) (orthoepylaw01_ScalarBack.f (k + 1) a0 a1 a2) := by
  intro a0 a1 a2 k
  obtain ⟨ih0, ih1⟩ := orthoepylaw01_ScalarBack.mono_l k
  unfold orthoepylaw01_ScalarBack.f
  repeat' first
      | (with_reducible exact ih0 _ _ _)
      | (with_reducible exact ih1 _ _ _)
      | (with_reducible exact LeO.refl _)
      | (with_reducible exact LeO.none _)
      | (with_reducible refine LeO.ite ?_ ?_)
      | (with_reducible refine LeO.bind ?_ (fun _ => ?_))
      | exact ih0 _ _ _
      | exact ih1 _ _ _
      | exact LeO.none _
      | refine LeO.ite ?_ ?_
      | refine LeO.bind ?_ (fun _ => ?_)
set_option maxHeartbeats 8000000 in
set_option maxRecDepth 100000 in
theorem orthoepylaw01_ScalarBack.calls (k : Nat) (a0 : Int) (a1 : Int) (a2 : Int) (r : Bool) (w : World) (h : orthoepylaw01_ScalarBack.f k a0 a1 a2 = some r) :
    Calls Try.prog 4 #[.int .i64 a0, .int .u16 a1, .int .u16 a2] w fun e w' => e = .returned (.bool r) ∧ Drawn0 w w' := by
  have H : (if (Int.tmod a0 1048576) < 0 then (orthoepylaw01_ScalarBack.j0 k a1 a2 (wrap64 (-(Int.tmod a0 1048576)))) else (orthoepylaw01_ScalarBack.j0 k a1 a2 (Int.tmod a0 1048576))) = some r := h
  clear h
  have HC4 := Aside0.mk H
  clear H
  go_enter Try.func4, Try.ntmps4
  go_upto_if 22 with (fail)
  go_cut [7] (fun v7 wc => ∃ (kq : Nat) (x7_3 : Int), v7 = .int .i64 x7_3 ∧ Aside0 (orthoepylaw01_ScalarBack.j0 kq a1 a2 x7_3 = some r) ∧ Aside0 (kq ≤ k) ∧ Drawn0 w wc)
  case first =>
    have H := HC4.out
    clear HC4
    by_cases c5 : (Int.tmod a0 1048576) < 0
    · rw [if_pos c5] at H
      have c5b0 : decide ((Int.tmod a0 1048576) < 0) = true := decide_eq_true c5
      clear c5
      (first | rw [c5b0] | (simp only [i64_w, i32_w]; rw [c5b0]) | skip)
      have H' := Aside0.mk H
      clear H
      go_wp2
      go_meet
      case rel => exact ⟨_, (wrap64 (-(Int.tmod a0 1048576))), (by first | rfl | (simp; done) | (simp [*]; done)), H', ⟨by first | omega | exact Nat.le_refl _⟩, by repeat (first | exact Drawn0.refl _ | apply Drawn0.step)⟩
    · rw [if_neg c5] at H
      have c5b0 : decide ((Int.tmod a0 1048576) < 0) = false := decide_eq_false c5
      clear c5
      (first | rw [c5b0] | (simp only [i64_w, i32_w]; rw [c5b0]) | skip)
      have H' := Aside0.mk H
      clear H
      go_wp2
      go_meet
      case rel => exact ⟨_, (Int.tmod a0 1048576), (by first | rfl | (simp; done) | (simp [*]; done)), H', ⟨by first | omega | exact Nat.le_refl _⟩, by repeat (first | exact Drawn0.refl _ | apply Drawn0.step)⟩
  case rest =>
    clear HC4
    try clear p2
    try clear c4
    try clear c5
    try clear c5b0
    obtain ⟨kq, x7_3, rfl, HA, HJ3, ⟨mc3, rfl⟩⟩ := hcut
    cases kq with
    | zero => exact absurd HA.out (by simp [orthoepylaw01_ScalarBack.j0])
    | succ kj3 =>
      have H := HA.out
      clear HA
      simp only [orthoepylaw01_ScalarBack.j0] at H
      replace H := Option.bind_eq_some_iff.mp H
      obtain ⟨⟨t119, t120, t121⟩, A60, H⟩ := H
      replace H : ((scalar_Join.f t119 t120).bind fun bt122 => (if t121 = true then (if bt122.2 = true then (if bt122.1 = (wrap32 (wrap64 (65536 + x7_3))) then ((scalar_High.f t119).bind fun t124 => (if t124 = true then ((scalar_Low.f t119).bind fun t125 => (if t125 = true then (orthoepylaw01_ScalarBack.j1 kj3 a1 a2 true) else ((scalar_Low.f t120).bind fun t126 => (if t126 = true then ((scalar_High.f t120).bind fun t127 => (if t127 = true then (orthoepylaw01_ScalarBack.j1 kj3 a1 a2 true) else ((scalar_Is.f (wrap32 (wrap64 (65536 + x7_3)))).bind fun t128 => (orthoepylaw01_ScalarBack.j1 kj3 a1 a2 (!t128))))) else (orthoepylaw01_ScalarBack.j1 kj3 a1 a2 true))))) else (orthoepylaw01_ScalarBack.j1 kj3 a1 a2 true))) else (orthoepylaw01_ScalarBack.j1 kj3 a1 a2 true)) else (orthoepylaw01_ScalarBack.j1 kj3 a1 a2 true)) else (orthoepylaw01_ScalarBack.j1 kj3 a1 a2 true))) = some r := H
      have A6 := Aside0.mk A60
      clear A60
      replace H := Option.bind_eq_some_iff.mp H
      obtain ⟨⟨t122, t123⟩, A70, H⟩ := H
      replace H : (if t121 = true then (if t123 = true then (if t122 = (wrap32 (wrap64 (65536 + x7_3))) then ((scalar_High.f t119).bind fun t124 => (if t124 = true then ((scalar_Low.f t119).bind fun t125 => (if t125 = true then (orthoepylaw01_ScalarBack.j1 kj3 a1 a2 true) else ((scalar_Low.f t120).bind fun t126 => (if t126 = true then ((scalar_High.f t120).bind fun t127 => (if t127 = true then (orthoepylaw01_ScalarBack.j1 kj3 a1 a2 true) else ((scalar_Is.f (wrap32 (wrap64 (65536 + x7_3)))).bind fun t128 => (orthoepylaw01_ScalarBack.j1 kj3 a1 a2 (!t128))))) else (orthoepylaw01_ScalarBack.j1 kj3 a1 a2 true))))) else (orthoepylaw01_ScalarBack.j1 kj3 a1 a2 true))) else (orthoepylaw01_ScalarBack.j1 kj3 a1 a2 true)) else (orthoepylaw01_ScalarBack.j1 kj3 a1 a2 true)) else (orthoepylaw01_ScalarBack.j1 kj3 a1 a2 true)) = some r := H
      have A7 := Aside0.mk A70
      clear A70
      have HC8 := Aside0.mk H
      clear H
      go_upto_region 7 with (first | ((with_reducible refine gate_callee (f := 7) rfl ?_); refine goesL_ (some 30) rfl rfl Try.func7 (by kernel_rfl) rfl #[.int .i32 (wrap32 (wrap64 (65536 + x7_3)))] rfl (by (try simp only [List.map_toArray, List.map_cons, List.map_nil]); first | done | rfl | (simp only [List.length_drop, List.length_take]; rfl)) ?_; (with_reducible refine (scalar_Split.calls (wrap32 (wrap64 (65536 + x7_3))) t119 t120 t121 _ A6.out).mono ?_); rintro e w' ⟨rfl, ⟨nd, rfl⟩⟩; refine ⟨_, rfl, ?_⟩) | ((with_reducible refine gate_callee (f := 9) rfl ?_); refine goesL_ (some 37) rfl rfl Try.func9 (by kernel_rfl) rfl #[.int .u16 t119, .int .u16 t120] rfl (by (try simp only [List.map_toArray, List.map_cons, List.map_nil]); first | done | rfl | (simp only [List.length_drop, List.length_take]; rfl)) ?_; (with_reducible refine (scalar_Join.calls t119 t120 t122 t123 _ A7.out).mono ?_); rintro e w' ⟨rfl, ⟨nd, rfl⟩⟩; refine ⟨_, rfl, ?_⟩))
      (try simp only [Act.put, List.setIfInBounds_toArray, List.set_cons_zero, List.set_cons_succ])
      go_cut [73] (fun v73 wc => ∃ (kq : Nat) (x73_7 : Bool), v73 = .bool x73_7 ∧ Aside0 (orthoepylaw01_ScalarBack.j1 kq a1 a2 x73_7 = some r) ∧ Aside0 (kq ≤ kj3) ∧ Drawn0 w wc)
      case first =>
        have H := HC8.out
        clear HC8
        by_cases c9 : t121 = true
        · subst c9
          have H1 : (if t123 = true then (if t122 = (wrap32 (wrap64 (65536 + x7_3))) then ((scalar_High.f t119).bind fun t124 => (if t124 = true then ((scalar_Low.f t119).bind fun t125 => (if t125 = true then (orthoepylaw01_ScalarBack.j1 kj3 a1 a2 true) else ((scalar_Low.f t120).bind fun t126 => (if t126 = true then ((scalar_High.f t120).bind fun t127 => (if t127 = true then (orthoepylaw01_ScalarBack.j1 kj3 a1 a2 true) else ((scalar_Is.f (wrap32 (wrap64 (65536 + x7_3)))).bind fun t128 => (orthoepylaw01_ScalarBack.j1 kj3 a1 a2 (!t128))))) else (orthoepylaw01_ScalarBack.j1 kj3 a1 a2 true))))) else (orthoepylaw01_ScalarBack.j1 kj3 a1 a2 true))) else (orthoepylaw01_ScalarBack.j1 kj3 a1 a2 true)) else (orthoepylaw01_ScalarBack.j1 kj3 a1 a2 true)) = some r := by rw [if_pos rfl] at H; exact H
          clear H
          have H := H1
          clear H1
          by_cases c10 : t123 = true
          · subst c10
            have H1 : (if t122 = (wrap32 (wrap64 (65536 + x7_3))) then ((scalar_High.f t119).bind fun t124 => (if t124 = true then ((scalar_Low.f t119).bind fun t125 => (if t125 = true then (orthoepylaw01_ScalarBack.j1 kj3 a1 a2 true) else ((scalar_Low.f t120).bind fun t126 => (if t126 = true then ((scalar_High.f t120).bind fun t127 => (if t127 = true then (orthoepylaw01_ScalarBack.j1 kj3 a1 a2 true) else ((scalar_Is.f (wrap32 (wrap64 (65536 + x7_3)))).bind fun t128 => (orthoepylaw01_ScalarBack.j1 kj3 a1 a2 (!t128))))) else (orthoepylaw01_ScalarBack.j1 kj3 a1 a2 true))))) else (orthoepylaw01_ScalarBack.j1 kj3 a1 a2 true))) else (orthoepylaw01_ScalarBack.j1 kj3 a1 a2 true)) = some r := by rw [if_pos rfl] at H; exact H
            clear H
            have H := H1
            clear H1
            by_cases c11 : t122 = (wrap32 (wrap64 (65536 + x7_3)))
            · rw [if_pos c11] at H
              have c11b0 : (t122 == (wrap32 (wrap64 (65536 + x7_3)))) = true := beq_iff_eq.mpr c11
              have c11b1 : (t122 != (wrap32 (wrap64 (65536 + x7_3)))) = false := bne_eq_false_iff_eq.mpr c11
              clear c11
              (first | rw [c11b0] | (simp only [i64_w, i32_w]; rw [c11b0]) | skip)
              replace H := Option.bind_eq_some_iff.mp H
              obtain ⟨t124, A120, H⟩ := H
              replace H : (if t124 = true then ((scalar_Low.f t119).bind fun t125 => (if t125 = true then (orthoepylaw01_ScalarBack.j1 kj3 a1 a2 true) else ((scalar_Low.f t120).bind fun t126 => (if t126 = true then ((scalar_High.f t120).bind fun t127 => (if t127 = true then (orthoepylaw01_ScalarBack.j1 kj3 a1 a2 true) else ((scalar_Is.f (wrap32 (wrap64 (65536 + x7_3)))).bind fun t128 => (orthoepylaw01_ScalarBack.j1 kj3 a1 a2 (!t128))))) else (orthoepylaw01_ScalarBack.j1 kj3 a1 a2 true))))) else (orthoepylaw01_ScalarBack.j1 kj3 a1 a2 true)) = some r := H
              have A12 := Aside0.mk A120
              clear A120
              by_cases c13 : t124 = true
              · subst c13
                have H1 : ((scalar_Low.f t119).bind fun t125 => (if t125 = true then (orthoepylaw01_ScalarBack.j1 kj3 a1 a2 true) else ((scalar_Low.f t120).bind fun t126 => (if t126 = true then ((scalar_High.f t120).bind fun t127 => (if t127 = true then (orthoepylaw01_ScalarBack.j1 kj3 a1 a2 true) else ((scalar_Is.f (wrap32 (wrap64 (65536 + x7_3)))).bind fun t128 => (orthoepylaw01_ScalarBack.j1 kj3 a1 a2 (!t128))))) else (orthoepylaw01_ScalarBack.j1 kj3 a1 a2 true))))) = some r := by rw [if_pos rfl] at H; exact H
                clear H
                have H := H1
                clear H1
                replace H := Option.bind_eq_some_iff.mp H
                obtain ⟨t125, A140, H⟩ := H
                replace H : (if t125 = true then (orthoepylaw01_ScalarBack.j1 kj3 a1 a2 true) else ((scalar_Low.f t120).bind fun t126 => (if t126 = true then ((scalar_High.f t120).bind fun t127 => (if t127 = true then (orthoepylaw01_ScalarBack.j1 kj3 a1 a2 true) else ((scalar_Is.f (wrap32 (wrap64 (65536 + x7_3)))).bind fun t128 => (orthoepylaw01_ScalarBack.j1 kj3 a1 a2 (!t128))))) else (orthoepylaw01_ScalarBack.j1 kj3 a1 a2 true)))) = some r := H
                have A14 := Aside0.mk A140
                clear A140
                by_cases c15 : t125 = true
                · subst c15
                  have H1 : (orthoepylaw01_ScalarBack.j1 kj3 a1 a2 true) = some r := by rw [if_pos rfl] at H; exact H
                  clear H
                  have H := H1
                  clear H1
                  have H' := Aside0.mk H
                  clear H
                  go_wp2_with (first | (go_at_call 17; (with_reducible refine (scalar_High.calls t119 true _ A12.out).mono ?_); rintro e w' ⟨rfl, ⟨nd, rfl⟩⟩) | (go_at_call 19; (with_reducible refine (scalar_Low.calls t119 true _ A14.out).mono ?_); rintro e w' ⟨rfl, ⟨nd, rfl⟩⟩))
                  go_meet
                  case rel => exact ⟨_, (true), (by first | rfl | (simp; done) | (simp [*]; done)), H', ⟨by have := HJ3.out; first | omega | exact Nat.le_refl _⟩, by repeat (first | exact Drawn0.refl _ | apply Drawn0.step)⟩
                · replace c15 := Bool.eq_false_iff.mpr c15
                  subst c15
                  have H1 : ((scalar_Low.f t120).bind fun t126 => (if t126 = true then ((scalar_High.f t120).bind fun t127 => (if t127 = true then (orthoepylaw01_ScalarBack.j1 kj3 a1 a2 true) else ((scalar_Is.f (wrap32 (wrap64 (65536 + x7_3)))).bind fun t128 => (orthoepylaw01_ScalarBack.j1 kj3 a1 a2 (!t128))))) else (orthoepylaw01_ScalarBack.j1 kj3 a1 a2 true))) = some r := by rw [if_neg (show ¬ (false = true) by decide)] at H; exact H
                  clear H
                  have H := H1
                  clear H1
                  replace H := Option.bind_eq_some_iff.mp H
                  obtain ⟨t126, A160, H⟩ := H
                  replace H : (if t126 = true then ((scalar_High.f t120).bind fun t127 => (if t127 = true then (orthoepylaw01_ScalarBack.j1 kj3 a1 a2 true) else ((scalar_Is.f (wrap32 (wrap64 (65536 + x7_3)))).bind fun t128 => (orthoepylaw01_ScalarBack.j1 kj3 a1 a2 (!t128))))) else (orthoepylaw01_ScalarBack.j1 kj3 a1 a2 true)) = some r := H
                  have A16 := Aside0.mk A160
                  clear A160
                  by_cases c17 : t126 = true
                  · subst c17
                    have H1 : ((scalar_High.f t120).bind fun t127 => (if t127 = true then (orthoepylaw01_ScalarBack.j1 kj3 a1 a2 true) else ((scalar_Is.f (wrap32 (wrap64 (65536 + x7_3)))).bind fun t128 => (orthoepylaw01_ScalarBack.j1 kj3 a1 a2 (!t128))))) = some r := by rw [if_pos rfl] at H; exact H
                    clear H
                    have H := H1
                    clear H1
                    replace H := Option.bind_eq_some_iff.mp H
                    obtain ⟨t127, A180, H⟩ := H
                    replace H : (if t127 = true then (orthoepylaw01_ScalarBack.j1 kj3 a1 a2 true) else ((scalar_Is.f (wrap32 (wrap64 (65536 + x7_3)))).bind fun t128 => (orthoepylaw01_ScalarBack.j1 kj3 a1 a2 (!t128)))) = some r := H
                    have A18 := Aside0.mk A180
                    clear A180
                    by_cases c19 : t127 = true
                    · subst c19
                      have H1 : (orthoepylaw01_ScalarBack.j1 kj3 a1 a2 true) = some r := by rw [if_pos rfl] at H; exact H
                      clear H
                      have H := H1
                      clear H1
                      have H' := Aside0.mk H
                      clear H
                      go_wp2_with (first | (go_at_call 17; (with_reducible refine (scalar_High.calls t119 true _ A12.out).mono ?_); rintro e w' ⟨rfl, ⟨nd, rfl⟩⟩) | (go_at_call 19; (with_reducible refine (scalar_Low.calls t119 false _ A14.out).mono ?_); rintro e w' ⟨rfl, ⟨nd, rfl⟩⟩) | (go_at_call 19; (with_reducible refine (scalar_Low.calls t120 true _ A16.out).mono ?_); rintro e w' ⟨rfl, ⟨nd, rfl⟩⟩) | (go_at_call 17; (with_reducible refine (scalar_High.calls t120 true _ A18.out).mono ?_); rintro e w' ⟨rfl, ⟨nd, rfl⟩⟩))
                      go_meet
                      case rel => exact ⟨_, (true), (by first | rfl | (simp; done) | (simp [*]; done)), H', ⟨by have := HJ3.out; first | omega | exact Nat.le_refl _⟩, by repeat (first | exact Drawn0.refl _ | apply Drawn0.step)⟩
                    · replace c19 := Bool.eq_false_iff.mpr c19
                      subst c19
                      have H1 : ((scalar_Is.f (wrap32 (wrap64 (65536 + x7_3)))).bind fun t128 => (orthoepylaw01_ScalarBack.j1 kj3 a1 a2 (!t128))) = some r := by rw [if_neg (show ¬ (false = true) by decide)] at H; exact H
                      clear H
                      have H := H1
                      clear H1
                      replace H := Option.bind_eq_some_iff.mp H
                      obtain ⟨t128, A200, H⟩ := H
                      replace H : (orthoepylaw01_ScalarBack.j1 kj3 a1 a2 (!t128)) = some r := H
                      have A20 := Aside0.mk A200
                      clear A200
                      have H' := Aside0.mk H
                      clear H
                      go_wp2_with (first | (go_at_call 17; (with_reducible refine (scalar_High.calls t119 true _ A12.out).mono ?_); rintro e w' ⟨rfl, ⟨nd, rfl⟩⟩) | (go_at_call 19; (with_reducible refine (scalar_Low.calls t119 false _ A14.out).mono ?_); rintro e w' ⟨rfl, ⟨nd, rfl⟩⟩) | (go_at_call 19; (with_reducible refine (scalar_Low.calls t120 true _ A16.out).mono ?_); rintro e w' ⟨rfl, ⟨nd, rfl⟩⟩) | (go_at_call 17; (with_reducible refine (scalar_High.calls t120 false _ A18.out).mono ?_); rintro e w' ⟨rfl, ⟨nd, rfl⟩⟩) | (go_at_call 11; (with_reducible refine (scalar_Is.calls (wrap32 (wrap64 (65536 + x7_3))) t128 _ A20.out).mono ?_); rintro e w' ⟨rfl, ⟨nd, rfl⟩⟩))
                      go_meet
                      case rel => exact ⟨_, (!t128), (by first | rfl | (simp; done) | (simp [*]; done)), H', ⟨by have := HJ3.out; first | omega | exact Nat.le_refl _⟩, by repeat (first | exact Drawn0.refl _ | apply Drawn0.step)⟩
                  · replace c17 := Bool.eq_false_iff.mpr c17
                    subst c17
                    have H1 : (orthoepylaw01_ScalarBack.j1 kj3 a1 a2 true) = some r := by rw [if_neg (show ¬ (false = true) by decide)] at H; exact H
                    clear H
                    have H := H1
                    clear H1
                    have H' := Aside0.mk H
                    clear H
                    go_wp2_with (first | (go_at_call 17; (with_reducible refine (scalar_High.calls t119 true _ A12.out).mono ?_); rintro e w' ⟨rfl, ⟨nd, rfl⟩⟩) | (go_at_call 19; (with_reducible refine (scalar_Low.calls t119 false _ A14.out).mono ?_); rintro e w' ⟨rfl, ⟨nd, rfl⟩⟩) | (go_at_call 19; (with_reducible refine (scalar_Low.calls t120 false _ A16.out).mono ?_); rintro e w' ⟨rfl, ⟨nd, rfl⟩⟩))
                    go_meet
                    case rel => exact ⟨_, (true), (by first | rfl | (simp; done) | (simp [*]; done)), H', ⟨by have := HJ3.out; first | omega | exact Nat.le_refl _⟩, by repeat (first | exact Drawn0.refl _ | apply Drawn0.step)⟩
              · replace c13 := Bool.eq_false_iff.mpr c13
                subst c13
                have H1 : (orthoepylaw01_ScalarBack.j1 kj3 a1 a2 true) = some r := by rw [if_neg (show ¬ (false = true) by decide)] at H; exact H
                clear H
                have H := H1
                clear H1
                have H' := Aside0.mk H
                clear H
                go_wp2_with (first | (go_at_call 17; (with_reducible refine (scalar_High.calls t119 false _ A12.out).mono ?_); rintro e w' ⟨rfl, ⟨nd, rfl⟩⟩))
                go_meet
                case rel => exact ⟨_, (true), (by first | rfl | (simp; done) | (simp [*]; done)), H', ⟨by have := HJ3.out; first | omega | exact Nat.le_refl _⟩, by repeat (first | exact Drawn0.refl _ | apply Drawn0.step)⟩
            · rw [if_neg c11] at H
              have c11b0 : (t122 == (wrap32 (wrap64 (65536 + x7_3)))) = false := beq_eq_false_iff_ne.mpr c11
              have c11b1 : (t122 != (wrap32 (wrap64 (65536 + x7_3)))) = true := bne_iff_ne.mpr c11
              (first | rw [c11b0] | (simp only [i64_w, i32_w]; rw [c11b0]) | skip)
              have H' := Aside0.mk H
              clear H
              go_wp2
              go_meet
              case rel => exact ⟨_, (true), (by first | rfl | (simp; done) | (simp [*]; done)), H', ⟨by have := HJ3.out; first | omega | exact Nat.le_refl _⟩, by repeat (first | exact Drawn0.refl _ | apply Drawn0.step)⟩
          · replace c10 := Bool.eq_false_iff.mpr c10
            subst c10
            have H1 : (orthoepylaw01_ScalarBack.j1 kj3 a1 a2 true) = some r := by rw [if_neg (show ¬ (false = true) by decide)] at H; exact H
            clear H
            have H := H1
            clear H1
            have H' := Aside0.mk H
            clear H
            go_wp2
            go_meet
            case rel => exact ⟨_, (true), (by first | rfl | (simp; done) | (simp [*]; done)), H', ⟨by have := HJ3.out; first | omega | exact Nat.le_refl _⟩, by repeat (first | exact Drawn0.refl _ | apply Drawn0.step)⟩
        · replace c9 := Bool.eq_false_iff.mpr c9
          subst c9
          have H1 : (orthoepylaw01_ScalarBack.j1 kj3 a1 a2 true) = some r := by rw [if_neg (show ¬ (false = true) by decide)] at H; exact H
          clear H
          have H := H1
          clear H1
          have H' := Aside0.mk H
          clear H
          go_wp2
          go_meet
          case rel => exact ⟨_, (true), (by first | rfl | (simp; done) | (simp [*]; done)), H', ⟨by have := HJ3.out; first | omega | exact Nat.le_refl _⟩, by repeat (first | exact Drawn0.refl _ | apply Drawn0.step)⟩
      case rest =>
        clear HC8
        try clear c1
        try clear p2
        try clear c3
        try clear p3
        try clear c4
        try clear c5
        try clear c5b0
        try clear p6
        try clear c7
        try clear c9
        try clear c10
        try clear c11
        try clear c11b0
        try clear c11b1
        try clear c13
        try clear c15
        try clear c17
        try clear c19
        try clear p2
        obtain ⟨kq, x73_7, rfl, HA, HJ7, ⟨mc7, rfl⟩⟩ := hcut
        cases kq with
        | zero => exact absurd HA.out (by simp [orthoepylaw01_ScalarBack.j1])
        | succ kj7 =>
          have H := HA.out
          clear HA
          simp only [orthoepylaw01_ScalarBack.j1] at H
          by_cases c21 : x73_7 = true
          · subst c21
            have H1 : (some false) = some r := by rw [if_pos rfl] at H; exact H
            clear H
            have H := H1
            clear H1
            obtain rfl := Option.some.inj H
            go_wp2
            go_ret
            exact ⟨by first | rfl | (simp; done) | (simp [*]; done), by repeat (first | exact Drawn0.refl _ | apply Drawn0.step)⟩
          · replace c21 := Bool.eq_false_iff.mpr c21
            subst c21
            have H1 : ((scalar_Join.f a1 a2).bind fun bt129 => (if bt129.2 = true then ((scalar_Split.f bt129.1).bind fun bt131 => (if bt131.2.2 = true then (if bt131.1 = a1 then (if bt131.2.1 = a2 then ((orthoepylaw01_awake.f).bind fun t134 => (some t134)) else (some false)) else (some false)) else (some false))) else (if bt129.1 = 0 then ((scalar_High.f a1).bind fun t135 => (if t135 = true then ((scalar_Low.f a2).bind fun t136 => (if t136 = true then (some false) else ((orthoepylaw01_awake.f).bind fun t137 => (some t137)))) else ((orthoepylaw01_awake.f).bind fun t138 => (some t138)))) else (some false)))) = some r := by rw [if_neg (show ¬ (false = true) by decide)] at H; exact H
            clear H
            have H := H1
            clear H1
            replace H := Option.bind_eq_some_iff.mp H
            obtain ⟨⟨t129, t130⟩, A220, H⟩ := H
            replace H : (if t130 = true then ((scalar_Split.f t129).bind fun bt131 => (if bt131.2.2 = true then (if bt131.1 = a1 then (if bt131.2.1 = a2 then ((orthoepylaw01_awake.f).bind fun t134 => (some t134)) else (some false)) else (some false)) else (some false))) else (if t129 = 0 then ((scalar_High.f a1).bind fun t135 => (if t135 = true then ((scalar_Low.f a2).bind fun t136 => (if t136 = true then (some false) else ((orthoepylaw01_awake.f).bind fun t137 => (some t137)))) else ((orthoepylaw01_awake.f).bind fun t138 => (some t138)))) else (some false))) = some r := H
            have A22 := Aside0.mk A220
            clear A220
            by_cases c23 : t130 = true
            · subst c23
              have H1 : ((scalar_Split.f t129).bind fun bt131 => (if bt131.2.2 = true then (if bt131.1 = a1 then (if bt131.2.1 = a2 then ((orthoepylaw01_awake.f).bind fun t134 => (some t134)) else (some false)) else (some false)) else (some false))) = some r := by rw [if_pos rfl] at H; exact H
              clear H
              have H := H1
              clear H1
              replace H := Option.bind_eq_some_iff.mp H
              obtain ⟨⟨t131, t132, t133⟩, A240, H⟩ := H
              replace H : (if t133 = true then (if t131 = a1 then (if t132 = a2 then ((orthoepylaw01_awake.f).bind fun t134 => (some t134)) else (some false)) else (some false)) else (some false)) = some r := H
              have A24 := Aside0.mk A240
              clear A240
              by_cases c25 : t133 = true
              · subst c25
                have H1 : (if t131 = a1 then (if t132 = a2 then ((orthoepylaw01_awake.f).bind fun t134 => (some t134)) else (some false)) else (some false)) = some r := by rw [if_pos rfl] at H; exact H
                clear H
                have H := H1
                clear H1
                by_cases c26 : t131 = a1
                · rw [if_pos c26] at H
                  have c26b0 : (t131 == a1) = true := beq_iff_eq.mpr c26
                  have c26b1 : (t131 != a1) = false := bne_eq_false_iff_eq.mpr c26
                  clear c26
                  by_cases c27 : t132 = a2
                  · rw [if_pos c27] at H
                    have c27b0 : (t132 == a2) = true := beq_iff_eq.mpr c27
                    have c27b1 : (t132 != a2) = false := bne_eq_false_iff_eq.mpr c27
                    clear c27
                    replace H := Option.bind_eq_some_iff.mp H
                    obtain ⟨t134, A280, H⟩ := H
                    replace H : (some t134) = some r := H
                    have A28 := Aside0.mk A280
                    clear A280
                    obtain rfl := Option.some.inj H
                    go_wp2_with (first | ((with_reducible refine gate_callee (f := 9) rfl ?_); refine goesL_ (some 77) rfl rfl Try.func9 (by kernel_rfl) rfl #[.int .u16 a1, .int .u16 a2] rfl (by (try simp only [List.map_toArray, List.map_cons, List.map_nil]); first | done | rfl | (simp only [List.length_drop, List.length_take]; rfl)) ?_; (with_reducible refine (scalar_Join.calls a1 a2 t129 true _ A22.out).mono ?_); rintro e w' ⟨rfl, ⟨nd, rfl⟩⟩; refine ⟨_, rfl, ?_⟩) | ((with_reducible refine gate_callee (f := 7) rfl ?_); refine goesL_ (some 98) rfl rfl Try.func7 (by kernel_rfl) rfl #[.int .i32 t129] rfl (by (try simp only [List.map_toArray, List.map_cons, List.map_nil]); first | done | rfl | (simp only [List.length_drop, List.length_take]; rfl)) ?_; (with_reducible refine (scalar_Split.calls t129 t131 t132 true _ A24.out).mono ?_); rintro e w' ⟨rfl, ⟨nd, rfl⟩⟩; refine ⟨_, rfl, ?_⟩) | (go_at_call 21; (with_reducible refine (orthoepylaw01_awake.calls  t134 _ A28.out).mono ?_); rintro e w' ⟨rfl, ⟨nd, rfl⟩⟩))
                    go_ret
                    exact ⟨by first | rfl | (simp; done) | (simp [*]; done), by repeat (first | exact Drawn0.refl _ | apply Drawn0.step)⟩
                  · rw [if_neg c27] at H
                    have c27b0 : (t132 == a2) = false := beq_eq_false_iff_ne.mpr c27
                    have c27b1 : (t132 != a2) = true := bne_iff_ne.mpr c27
                    obtain rfl := Option.some.inj H
                    go_wp2_with (first | ((with_reducible refine gate_callee (f := 9) rfl ?_); refine goesL_ (some 77) rfl rfl Try.func9 (by kernel_rfl) rfl #[.int .u16 a1, .int .u16 a2] rfl (by (try simp only [List.map_toArray, List.map_cons, List.map_nil]); first | done | rfl | (simp only [List.length_drop, List.length_take]; rfl)) ?_; (with_reducible refine (scalar_Join.calls a1 a2 t129 true _ A22.out).mono ?_); rintro e w' ⟨rfl, ⟨nd, rfl⟩⟩; refine ⟨_, rfl, ?_⟩) | ((with_reducible refine gate_callee (f := 7) rfl ?_); refine goesL_ (some 98) rfl rfl Try.func7 (by kernel_rfl) rfl #[.int .i32 t129] rfl (by (try simp only [List.map_toArray, List.map_cons, List.map_nil]); first | done | rfl | (simp only [List.length_drop, List.length_take]; rfl)) ?_; (with_reducible refine (scalar_Split.calls t129 t131 t132 true _ A24.out).mono ?_); rintro e w' ⟨rfl, ⟨nd, rfl⟩⟩; refine ⟨_, rfl, ?_⟩))
                    go_ret
                    exact ⟨by first | rfl | (simp; done) | (simp [*]; done), by repeat (first | exact Drawn0.refl _ | apply Drawn0.step)⟩
                · rw [if_neg c26] at H
                  have c26b0 : (t131 == a1) = false := beq_eq_false_iff_ne.mpr c26
                  have c26b1 : (t131 != a1) = true := bne_iff_ne.mpr c26
                  obtain rfl := Option.some.inj H
                  go_wp2_with (first | ((with_reducible refine gate_callee (f := 9) rfl ?_); refine goesL_ (some 77) rfl rfl Try.func9 (by kernel_rfl) rfl #[.int .u16 a1, .int .u16 a2] rfl (by (try simp only [List.map_toArray, List.map_cons, List.map_nil]); first | done | rfl | (simp only [List.length_drop, List.length_take]; rfl)) ?_; (with_reducible refine (scalar_Join.calls a1 a2 t129 true _ A22.out).mono ?_); rintro e w' ⟨rfl, ⟨nd, rfl⟩⟩; refine ⟨_, rfl, ?_⟩) | ((with_reducible refine gate_callee (f := 7) rfl ?_); refine goesL_ (some 98) rfl rfl Try.func7 (by kernel_rfl) rfl #[.int .i32 t129] rfl (by (try simp only [List.map_toArray, List.map_cons, List.map_nil]); first | done | rfl | (simp only [List.length_drop, List.length_take]; rfl)) ?_; (with_reducible refine (scalar_Split.calls t129 t131 t132 true _ A24.out).mono ?_); rintro e w' ⟨rfl, ⟨nd, rfl⟩⟩; refine ⟨_, rfl, ?_⟩))
                  go_ret
                  exact ⟨by first | rfl | (simp; done) | (simp [*]; done), by repeat (first | exact Drawn0.refl _ | apply Drawn0.step)⟩
              · replace c25 := Bool.eq_false_iff.mpr c25
                subst c25
                have H1 : (some false) = some r := by rw [if_neg (show ¬ (false = true) by decide)] at H; exact H
                clear H
                have H := H1
                clear H1
                obtain rfl := Option.some.inj H
                go_wp2_with (first | ((with_reducible refine gate_callee (f := 9) rfl ?_); refine goesL_ (some 77) rfl rfl Try.func9 (by kernel_rfl) rfl #[.int .u16 a1, .int .u16 a2] rfl (by (try simp only [List.map_toArray, List.map_cons, List.map_nil]); first | done | rfl | (simp only [List.length_drop, List.length_take]; rfl)) ?_; (with_reducible refine (scalar_Join.calls a1 a2 t129 true _ A22.out).mono ?_); rintro e w' ⟨rfl, ⟨nd, rfl⟩⟩; refine ⟨_, rfl, ?_⟩) | ((with_reducible refine gate_callee (f := 7) rfl ?_); refine goesL_ (some 98) rfl rfl Try.func7 (by kernel_rfl) rfl #[.int .i32 t129] rfl (by (try simp only [List.map_toArray, List.map_cons, List.map_nil]); first | done | rfl | (simp only [List.length_drop, List.length_take]; rfl)) ?_; (with_reducible refine (scalar_Split.calls t129 t131 t132 false _ A24.out).mono ?_); rintro e w' ⟨rfl, ⟨nd, rfl⟩⟩; refine ⟨_, rfl, ?_⟩))
                go_ret
                exact ⟨by first | rfl | (simp; done) | (simp [*]; done), by repeat (first | exact Drawn0.refl _ | apply Drawn0.step)⟩
            · replace c23 := Bool.eq_false_iff.mpr c23
              subst c23
              have H1 : (if t129 = 0 then ((scalar_High.f a1).bind fun t135 => (if t135 = true then ((scalar_Low.f a2).bind fun t136 => (if t136 = true then (some false) else ((orthoepylaw01_awake.f).bind fun t137 => (some t137)))) else ((orthoepylaw01_awake.f).bind fun t138 => (some t138)))) else (some false)) = some r := by rw [if_neg (show ¬ (false = true) by decide)] at H; exact H
              clear H
              have H := H1
              clear H1
              by_cases c29 : t129 = 0
              · rw [if_pos c29] at H
                have c29b0 : (t129 == 0) = true := beq_iff_eq.mpr c29
                have c29b1 : (t129 != 0) = false := bne_eq_false_iff_eq.mpr c29
                clear c29
                replace H := Option.bind_eq_some_iff.mp H
                obtain ⟨t135, A300, H⟩ := H
                replace H : (if t135 = true then ((scalar_Low.f a2).bind fun t136 => (if t136 = true then (some false) else ((orthoepylaw01_awake.f).bind fun t137 => (some t137)))) else ((orthoepylaw01_awake.f).bind fun t138 => (some t138))) = some r := H
                have A30 := Aside0.mk A300
                clear A300
                by_cases c31 : t135 = true
                · subst c31
                  have H1 : ((scalar_Low.f a2).bind fun t136 => (if t136 = true then (some false) else ((orthoepylaw01_awake.f).bind fun t137 => (some t137)))) = some r := by rw [if_pos rfl] at H; exact H
                  clear H
                  have H := H1
                  clear H1
                  replace H := Option.bind_eq_some_iff.mp H
                  obtain ⟨t136, A320, H⟩ := H
                  replace H : (if t136 = true then (some false) else ((orthoepylaw01_awake.f).bind fun t137 => (some t137))) = some r := H
                  have A32 := Aside0.mk A320
                  clear A320
                  by_cases c33 : t136 = true
                  · subst c33
                    have H1 : (some false) = some r := by rw [if_pos rfl] at H; exact H
                    clear H
                    have H := H1
                    clear H1
                    obtain rfl := Option.some.inj H
                    go_wp2_with (first | ((with_reducible refine gate_callee (f := 9) rfl ?_); refine goesL_ (some 77) rfl rfl Try.func9 (by kernel_rfl) rfl #[.int .u16 a1, .int .u16 a2] rfl (by (try simp only [List.map_toArray, List.map_cons, List.map_nil]); first | done | rfl | (simp only [List.length_drop, List.length_take]; rfl)) ?_; (with_reducible refine (scalar_Join.calls a1 a2 t129 false _ A22.out).mono ?_); rintro e w' ⟨rfl, ⟨nd, rfl⟩⟩; refine ⟨_, rfl, ?_⟩) | (go_at_call 17; (with_reducible refine (scalar_High.calls a1 true _ A30.out).mono ?_); rintro e w' ⟨rfl, ⟨nd, rfl⟩⟩) | (go_at_call 19; (with_reducible refine (scalar_Low.calls a2 true _ A32.out).mono ?_); rintro e w' ⟨rfl, ⟨nd, rfl⟩⟩))
                    go_ret
                    exact ⟨by first | rfl | (simp; done) | (simp [*]; done), by repeat (first | exact Drawn0.refl _ | apply Drawn0.step)⟩
                  · replace c33 := Bool.eq_false_iff.mpr c33
                    subst c33
                    have H1 : ((orthoepylaw01_awake.f).bind fun t137 => (some t137)) = some r := by rw [if_neg (show ¬ (false = true) by decide)] at H; exact H
                    clear H
                    have H := H1
                    clear H1
                    replace H := Option.bind_eq_some_iff.mp H
                    obtain ⟨t137, A340, H⟩ := H
                    replace H : (some t137) = some r := H
                    have A34 := Aside0.mk A340
                    clear A340
                    obtain rfl := Option.some.inj H
                    go_wp2_with (first | ((with_reducible refine gate_callee (f := 9) rfl ?_); refine goesL_ (some 77) rfl rfl Try.func9 (by kernel_rfl) rfl #[.int .u16 a1, .int .u16 a2] rfl (by (try simp only [List.map_toArray, List.map_cons, List.map_nil]); first | done | rfl | (simp only [List.length_drop, List.length_take]; rfl)) ?_; (with_reducible refine (scalar_Join.calls a1 a2 t129 false _ A22.out).mono ?_); rintro e w' ⟨rfl, ⟨nd, rfl⟩⟩; refine ⟨_, rfl, ?_⟩) | (go_at_call 17; (with_reducible refine (scalar_High.calls a1 true _ A30.out).mono ?_); rintro e w' ⟨rfl, ⟨nd, rfl⟩⟩) | (go_at_call 19; (with_reducible refine (scalar_Low.calls a2 false _ A32.out).mono ?_); rintro e w' ⟨rfl, ⟨nd, rfl⟩⟩) | (go_at_call 21; (with_reducible refine (orthoepylaw01_awake.calls  t137 _ A34.out).mono ?_); rintro e w' ⟨rfl, ⟨nd, rfl⟩⟩))
                    go_ret
                    exact ⟨by first | rfl | (simp; done) | (simp [*]; done), by repeat (first | exact Drawn0.refl _ | apply Drawn0.step)⟩
                · replace c31 := Bool.eq_false_iff.mpr c31
                  subst c31
                  have H1 : ((orthoepylaw01_awake.f).bind fun t138 => (some t138)) = some r := by rw [if_neg (show ¬ (false = true) by decide)] at H; exact H
                  clear H
                  have H := H1
                  clear H1
                  replace H := Option.bind_eq_some_iff.mp H
                  obtain ⟨t138, A350, H⟩ := H
                  replace H : (some t138) = some r := H
                  have A35 := Aside0.mk A350
                  clear A350
                  obtain rfl := Option.some.inj H
                  go_wp2_with (first | ((with_reducible refine gate_callee (f := 9) rfl ?_); refine goesL_ (some 77) rfl rfl Try.func9 (by kernel_rfl) rfl #[.int .u16 a1, .int .u16 a2] rfl (by (try simp only [List.map_toArray, List.map_cons, List.map_nil]); first | done | rfl | (simp only [List.length_drop, List.length_take]; rfl)) ?_; (with_reducible refine (scalar_Join.calls a1 a2 t129 false _ A22.out).mono ?_); rintro e w' ⟨rfl, ⟨nd, rfl⟩⟩; refine ⟨_, rfl, ?_⟩) | (go_at_call 17; (with_reducible refine (scalar_High.calls a1 false _ A30.out).mono ?_); rintro e w' ⟨rfl, ⟨nd, rfl⟩⟩) | (go_at_call 21; (with_reducible refine (orthoepylaw01_awake.calls  t138 _ A35.out).mono ?_); rintro e w' ⟨rfl, ⟨nd, rfl⟩⟩))
                  go_ret
                  exact ⟨by first | rfl | (simp; done) | (simp [*]; done), by repeat (first | exact Drawn0.refl _ | apply Drawn0.step)⟩
              · rw [if_neg c29] at H
                have c29b0 : (t129 == 0) = false := beq_eq_false_iff_ne.mpr c29
                have c29b1 : (t129 != 0) = true := bne_iff_ne.mpr c29
                obtain rfl := Option.some.inj H
                go_wp2_with (first | ((with_reducible refine gate_callee (f := 9) rfl ?_); refine goesL_ (some 77) rfl rfl Try.func9 (by kernel_rfl) rfl #[.int .u16 a1, .int .u16 a2] rfl (by (try simp only [List.map_toArray, List.map_cons, List.map_nil]); first | done | rfl | (simp only [List.length_drop, List.length_take]; rfl)) ?_; (with_reducible refine (scalar_Join.calls a1 a2 t129 false _ A22.out).mono ?_); rintro e w' ⟨rfl, ⟨nd, rfl⟩⟩; refine ⟨_, rfl, ?_⟩))
                go_ret
                exact ⟨by first | rfl | (simp; done) | (simp [*]; done), by repeat (first | exact Drawn0.refl _ | apply Drawn0.step)⟩

/-- THE ONE PURE STATEMENT of orthoepylaw01_ScalarBack: yours. -/
def orthoepylaw01_ScalarBack.Pure : Prop := ∀ (a0 : Int) (a1 : Int) (a2 : Int), (Lit.int .i64 a0).wf = true → (Lit.int .u16 a1).wf = true → (Lit.int .u16 a2).wf = true → ∃ k, orthoepylaw01_ScalarBack.f k a0 a1 a2 = some true
theorem orthoepylaw01_ScalarBack.walk (P : orthoepylaw01_ScalarBack.Pure) (a0 : Int) (a1 : Int) (a2 : Int) (w : World) (w0 : (Lit.int .i64 a0).wf = true) (w1 : (Lit.int .u16 a1).wf = true) (w2 : (Lit.int .u16 a2).wf = true) :
    Calls Try.prog 4 #[.int .i64 a0, .int .u16 a1, .int .u16 a2] w fun e w' => e = .returned (.bool true) ∧ Below w.heap.size w w' := by
  obtain ⟨k, h⟩ := P a0 a1 a2 w0 w1 w2
  refine (orthoepylaw01_ScalarBack.calls k a0 a1 a2 true w h).mono ?_
  rintro e w' ⟨rfl, hd⟩
  exact ⟨rfl, hd.below⟩

end Go.Proofs.Ytmkpaoakobabnaa.PScalarBack
