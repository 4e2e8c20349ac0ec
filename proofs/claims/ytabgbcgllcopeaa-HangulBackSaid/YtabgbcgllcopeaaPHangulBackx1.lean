-- PRINTED BY print.sh 35421559b90ae4d0a3588c463048766b98c2df88dd9212a6774a882060cdf62d: not written by this session
import Derived.Test.YtabgbcgllcopeaaPHangulBackx0
namespace Go.Proofs.Ytabgbcgllcopeaa.PHangulBack
open Go.RowKit Go.Proofs.YtabgbcgllcopeaaW.PrintWords Go.Proofs.YtabgbcgllcopeaaW.PrintLast Go.Proofs.YtabgbcgllcopeaaW.PrintMore
attribute [local go_sem] max2_int min2_int max_two min_two max_three min_three max_four min_four   -- for this text's walks alone
set_option linter.unusedVariables false
set_option linter.unusedSimpArgs false

/-! ### hangul_in: function 16 -/
def hangul_in.f (a0 : Int) (a1 : Int) (a2 : Int) : Option (Bool) := if a0 ≥ a1 then (some (decide ((wrap32 (a0 - a1)) < a2))) else (some false)
set_option maxHeartbeats 8000000 in
set_option maxRecDepth 100000 in
theorem hangul_in.calls (a0 : Int) (a1 : Int) (a2 : Int) (r : Bool) (w : World) (h : hangul_in.f a0 a1 a2 = some r) :
    Calls Try.prog 16 #[.int .i32 a0, .int .i32 a1, .int .i32 a2] w fun e w' => e = .returned (.bool r) ∧ Drawn0 w w' := by
  have H : (if a0 ≥ a1 then (some (decide ((wrap32 (a0 - a1)) < a2))) else (some false)) = some r := h
  clear h
  by_cases c4 : a0 ≥ a1
  · rw [if_pos c4] at H
    have c4b0 : decide (a1 ≤ a0) = true := decide_eq_true c4
    clear c4
    obtain rfl := Option.some.inj H
    go_enter Try.func16, Try.ntmps16
    go_wp2
    go_ret
    exact ⟨by first | rfl | (simp; done) | (simp [*]; done), by repeat (first | exact Drawn0.refl _ | apply Drawn0.step)⟩
  · rw [if_neg c4] at H
    have c4b0 : decide (a1 ≤ a0) = false := decide_eq_false c4
    clear c4
    obtain rfl := Option.some.inj H
    go_enter Try.func16, Try.ntmps16
    go_wp2
    go_ret
    exact ⟨by first | rfl | (simp; done) | (simp [*]; done), by repeat (first | exact Drawn0.refl _ | apply Drawn0.step)⟩

/-! ### hangul_of: function 15 -/
def hangul_of.j0 : Nat → Int → Bool → Option (Int)
  | 0, _, _ => none
  | k + 1, x0, x12 => if x12 = true then (some 0) else (if (Int.tmod (wrap32 (x0 - 44032)) 28) = 0 then (some 4) else (some 5))
def hangul_of.f (k : Nat) (a0 : Int) : Option (Int) := (hangul_in.f a0 4352 19).bind fun t101 => (if t101 = true then (some 1) else ((hangul_in.f a0 4449 21).bind fun t102 => (if t102 = true then (some 2) else ((hangul_in.f a0 4520 27).bind fun t103 => (if t103 = true then (some 3) else (if a0 < 44032 then (hangul_of.j0 k a0 true) else (hangul_of.j0 k a0 (decide (a0 > 55203)))))))))
theorem hangul_of.mono_l : ∀ k, (∀ y0 y1, LeO (hangul_of.j0 k y0 y1) (hangul_of.j0 (k + 1) y0 y1))
  | 0 => fun _ _ r h => by simp [hangul_of.j0] at h
  | k + 1 => by
    have ih0 := hangul_of.mono_l k
    · intro y0 y1
      unfold hangul_of.j0
      repeat' first
      | (with_reducible exact ih0 _ _)
      | (with_reducible exact LeO.refl _)
      | (with_reducible exact LeO.none _)
      | (with_reducible refine LeO.ite ?_ ?_)
      | (with_reducible refine LeO.bind ?_ (fun _ => ?_))
      | exact ih0 _ _
      | exact LeO.none _
      | refine LeO.ite ?_ ?_
      | refine LeO.bind ?_ (fun _ => ?_)
theorem hangul_of.mono : ∀ a0 k, LeO (hangul_of.f k a0) (hangul_of.f (k + 1) a0) := by
  intro a0 k
  have ih0 := hangul_of.mono_l k
  unfold hangul_of.f
  repeat' first
      | (with_reducible exact ih0 _ _)
      | (with_reducible exact LeO.refl _)
      | (with_reducible exact LeO.none _)
      | (with_reducible refine LeO.ite ?_ ?_)
      | (with_reducible refine LeO.bind ?_ (fun _ => ?_))
      | exact ih0 _ _
      | exact LeO.none _
      | refine LeO.ite ?_ ?_
      | refine LeO.bind ?_ (fun _ => ?_)
set_option maxHeartbeats 8000000 in
set_option maxRecDepth 100000 in
theorem hangul_of.calls (k : Nat) (a0 : Int) (r : Int) (w : World) (h : hangul_of.f k a0 = some r) :
    Calls Try.prog 15 #[.int .i32 a0] w fun e w' => e = .returned (.int .i64 r) ∧ Drawn0 w w' := by
  have H : ((hangul_in.f a0 4352 19).bind fun t101 => (if t101 = true then (some 1) else ((hangul_in.f a0 4449 21).bind fun t102 => (if t102 = true then (some 2) else ((hangul_in.f a0 4520 27).bind fun t103 => (if t103 = true then (some 3) else (if a0 < 44032 then (hangul_of.j0 k a0 true) else (hangul_of.j0 k a0 (decide (a0 > 55203)))))))))) = some r := h
  clear h
  replace H := Option.bind_eq_some_iff.mp H
  obtain ⟨t101, A20, H⟩ := H
  replace H : (if t101 = true then (some 1) else ((hangul_in.f a0 4449 21).bind fun t102 => (if t102 = true then (some 2) else ((hangul_in.f a0 4520 27).bind fun t103 => (if t103 = true then (some 3) else (if a0 < 44032 then (hangul_of.j0 k a0 true) else (hangul_of.j0 k a0 (decide (a0 > 55203))))))))) = some r := H
  have A2 := Aside0.mk A20
  clear A20
  by_cases c3 : t101 = true
  · subst c3
    have H1 : (some 1) = some r := by rw [if_pos rfl] at H; exact H
    clear H
    have H := H1
    clear H1
    obtain rfl := Option.some.inj H
    go_enter Try.func15, Try.ntmps15
    go_wp2_with (first | ((with_reducible refine gate_callee (f := 16) rfl ?_); refine goesL_ (some 5) rfl rfl Try.func16 (by kernel_rfl) rfl #[.int .i32 a0, .int .i32 4352, .int .i32 19] rfl (by (try simp only [List.map_toArray, List.map_cons, List.map_nil]); first | done | rfl | (simp only [List.length_drop, List.length_take]; rfl)) ?_; (with_reducible refine (hangul_in.calls a0 4352 19 true _ A2.out).mono ?_); rintro e w' ⟨rfl, ⟨nd, rfl⟩⟩; refine ⟨_, rfl, ?_⟩))
    go_ret
    exact ⟨by first | rfl | (simp; done) | (simp [*]; done), by repeat (first | exact Drawn0.refl _ | apply Drawn0.step)⟩
  · replace c3 := Bool.eq_false_iff.mpr c3
    subst c3
    have H1 : ((hangul_in.f a0 4449 21).bind fun t102 => (if t102 = true then (some 2) else ((hangul_in.f a0 4520 27).bind fun t103 => (if t103 = true then (some 3) else (if a0 < 44032 then (hangul_of.j0 k a0 true) else (hangul_of.j0 k a0 (decide (a0 > 55203)))))))) = some r := by rw [if_neg (show ¬ (false = true) by decide)] at H; exact H
    clear H
    have H := H1
    clear H1
    replace H := Option.bind_eq_some_iff.mp H
    obtain ⟨t102, A40, H⟩ := H
    replace H : (if t102 = true then (some 2) else ((hangul_in.f a0 4520 27).bind fun t103 => (if t103 = true then (some 3) else (if a0 < 44032 then (hangul_of.j0 k a0 true) else (hangul_of.j0 k a0 (decide (a0 > 55203))))))) = some r := H
    have A4 := Aside0.mk A40
    clear A40
    by_cases c5 : t102 = true
    · subst c5
      have H1 : (some 2) = some r := by rw [if_pos rfl] at H; exact H
      clear H
      have H := H1
      clear H1
      obtain rfl := Option.some.inj H
      go_enter Try.func15, Try.ntmps15
      go_wp2_with (first | ((with_reducible refine gate_callee (f := 16) rfl ?_); refine goesL_ (some 5) rfl rfl Try.func16 (by kernel_rfl) rfl #[.int .i32 a0, .int .i32 4352, .int .i32 19] rfl (by (try simp only [List.map_toArray, List.map_cons, List.map_nil]); first | done | rfl | (simp only [List.length_drop, List.length_take]; rfl)) ?_; (with_reducible refine (hangul_in.calls a0 4352 19 false _ A2.out).mono ?_); rintro e w' ⟨rfl, ⟨nd, rfl⟩⟩; refine ⟨_, rfl, ?_⟩) | ((with_reducible refine gate_callee (f := 16) rfl ?_); refine goesL_ (some 8) rfl rfl Try.func16 (by kernel_rfl) rfl #[.int .i32 a0, .int .i32 4449, .int .i32 21] rfl (by (try simp only [List.map_toArray, List.map_cons, List.map_nil]); first | done | rfl | (simp only [List.length_drop, List.length_take]; rfl)) ?_; (with_reducible refine (hangul_in.calls a0 4449 21 true _ A4.out).mono ?_); rintro e w' ⟨rfl, ⟨nd, rfl⟩⟩; refine ⟨_, rfl, ?_⟩))
      go_ret
      exact ⟨by first | rfl | (simp; done) | (simp [*]; done), by repeat (first | exact Drawn0.refl _ | apply Drawn0.step)⟩
    · replace c5 := Bool.eq_false_iff.mpr c5
      subst c5
      have H1 : ((hangul_in.f a0 4520 27).bind fun t103 => (if t103 = true then (some 3) else (if a0 < 44032 then (hangul_of.j0 k a0 true) else (hangul_of.j0 k a0 (decide (a0 > 55203)))))) = some r := by rw [if_neg (show ¬ (false = true) by decide)] at H; exact H
      clear H
      have H := H1
      clear H1
      replace H := Option.bind_eq_some_iff.mp H
      obtain ⟨t103, A60, H⟩ := H
      replace H : (if t103 = true then (some 3) else (if a0 < 44032 then (hangul_of.j0 k a0 true) else (hangul_of.j0 k a0 (decide (a0 > 55203))))) = some r := H
      have A6 := Aside0.mk A60
      clear A60
      by_cases c7 : t103 = true
      · subst c7
        have H1 : (some 3) = some r := by rw [if_pos rfl] at H; exact H
        clear H
        have H := H1
        clear H1
        obtain rfl := Option.some.inj H
        go_enter Try.func15, Try.ntmps15
        go_wp2_with (first | ((with_reducible refine gate_callee (f := 16) rfl ?_); refine goesL_ (some 5) rfl rfl Try.func16 (by kernel_rfl) rfl #[.int .i32 a0, .int .i32 4352, .int .i32 19] rfl (by (try simp only [List.map_toArray, List.map_cons, List.map_nil]); first | done | rfl | (simp only [List.length_drop, List.length_take]; rfl)) ?_; (with_reducible refine (hangul_in.calls a0 4352 19 false _ A2.out).mono ?_); rintro e w' ⟨rfl, ⟨nd, rfl⟩⟩; refine ⟨_, rfl, ?_⟩) | ((with_reducible refine gate_callee (f := 16) rfl ?_); refine goesL_ (some 8) rfl rfl Try.func16 (by kernel_rfl) rfl #[.int .i32 a0, .int .i32 4449, .int .i32 21] rfl (by (try simp only [List.map_toArray, List.map_cons, List.map_nil]); first | done | rfl | (simp only [List.length_drop, List.length_take]; rfl)) ?_; (with_reducible refine (hangul_in.calls a0 4449 21 false _ A4.out).mono ?_); rintro e w' ⟨rfl, ⟨nd, rfl⟩⟩; refine ⟨_, rfl, ?_⟩) | ((with_reducible refine gate_callee (f := 16) rfl ?_); refine goesL_ (some 11) rfl rfl Try.func16 (by kernel_rfl) rfl #[.int .i32 a0, .int .i32 4520, .int .i32 27] rfl (by (try simp only [List.map_toArray, List.map_cons, List.map_nil]); first | done | rfl | (simp only [List.length_drop, List.length_take]; rfl)) ?_; (with_reducible refine (hangul_in.calls a0 4520 27 true _ A6.out).mono ?_); rintro e w' ⟨rfl, ⟨nd, rfl⟩⟩; refine ⟨_, rfl, ?_⟩))
        go_ret
        exact ⟨by first | rfl | (simp; done) | (simp [*]; done), by repeat (first | exact Drawn0.refl _ | apply Drawn0.step)⟩
      · replace c7 := Bool.eq_false_iff.mpr c7
        subst c7
        have H1 : (if a0 < 44032 then (hangul_of.j0 k a0 true) else (hangul_of.j0 k a0 (decide (a0 > 55203)))) = some r := by rw [if_neg (show ¬ (false = true) by decide)] at H; exact H
        clear H
        have H := H1
        clear H1
        have HC8 := Aside0.mk H
        clear H
        go_enter Try.func15, Try.ntmps15
        go_upto_region 7 with (first | ((with_reducible refine gate_callee (f := 16) rfl ?_); refine goesL_ (some 5) rfl rfl Try.func16 (by kernel_rfl) rfl #[.int .i32 a0, .int .i32 4352, .int .i32 19] rfl (by (try simp only [List.map_toArray, List.map_cons, List.map_nil]); first | done | rfl | (simp only [List.length_drop, List.length_take]; rfl)) ?_; (with_reducible refine (hangul_in.calls a0 4352 19 false _ A2.out).mono ?_); rintro e w' ⟨rfl, ⟨nd, rfl⟩⟩; refine ⟨_, rfl, ?_⟩) | ((with_reducible refine gate_callee (f := 16) rfl ?_); refine goesL_ (some 8) rfl rfl Try.func16 (by kernel_rfl) rfl #[.int .i32 a0, .int .i32 4449, .int .i32 21] rfl (by (try simp only [List.map_toArray, List.map_cons, List.map_nil]); first | done | rfl | (simp only [List.length_drop, List.length_take]; rfl)) ?_; (with_reducible refine (hangul_in.calls a0 4449 21 false _ A4.out).mono ?_); rintro e w' ⟨rfl, ⟨nd, rfl⟩⟩; refine ⟨_, rfl, ?_⟩) | ((with_reducible refine gate_callee (f := 16) rfl ?_); refine goesL_ (some 11) rfl rfl Try.func16 (by kernel_rfl) rfl #[.int .i32 a0, .int .i32 4520, .int .i32 27] rfl (by (try simp only [List.map_toArray, List.map_cons, List.map_nil]); first | done | rfl | (simp only [List.length_drop, List.length_take]; rfl)) ?_; (with_reducible refine (hangul_in.calls a0 4520 27 false _ A6.out).mono ?_); rintro e w' ⟨rfl, ⟨nd, rfl⟩⟩; refine ⟨_, rfl, ?_⟩))
        (try simp only [Act.put, List.setIfInBounds_toArray, List.set_cons_zero, List.set_cons_succ])
        go_cut [12] (fun v12 wc => ∃ (kq : Nat) (x12_7 : Bool), v12 = .bool x12_7 ∧ Aside0 (hangul_of.j0 kq a0 x12_7 = some r) ∧ Aside0 (kq ≤ k) ∧ Drawn0 w wc)
        case first =>
          have H := HC8.out
          clear HC8
          by_cases c9 : a0 < 44032
          · rw [if_pos c9] at H
            have c9b0 : decide (a0 < 44032) = true := decide_eq_true c9
            clear c9
            (first | rw [c9b0] | (simp only [i64_w, i32_w]; rw [c9b0]) | skip)
            have H' := Aside0.mk H
            clear H
            go_wp2
            go_meet
            case rel => exact ⟨_, (true), (by first | rfl | (simp; done) | (simp [*]; done)), H', ⟨by first | omega | exact Nat.le_refl _⟩, by repeat (first | exact Drawn0.refl _ | apply Drawn0.step)⟩
          · rw [if_neg c9] at H
            have c9b0 : decide (a0 < 44032) = false := decide_eq_false c9
            clear c9
            (first | rw [c9b0] | (simp only [i64_w, i32_w]; rw [c9b0]) | skip)
            have H' := Aside0.mk H
            clear H
            go_wp2
            go_meet
            case rel => exact ⟨_, (decide (a0 > 55203)), (by first | rfl | (simp; done) | (simp [*]; done)), H', ⟨by first | omega | exact Nat.le_refl _⟩, by repeat (first | exact Drawn0.refl _ | apply Drawn0.step)⟩
        case rest =>
          clear HC8
          try clear c1
          try clear p2
          try clear c3
          try clear c5
          try clear c7
          try clear c9
          try clear c9b0
          obtain ⟨kq, x12_7, rfl, HA, HJ7, ⟨mc7, rfl⟩⟩ := hcut
          cases kq with
          | zero => exact absurd HA.out (by simp [hangul_of.j0])
          | succ kj7 =>
            have H := HA.out
            clear HA
            simp only [hangul_of.j0] at H
            by_cases c10 : x12_7 = true
            · subst c10
              have H1 : (some 0) = some r := by rw [if_pos rfl] at H; exact H
              clear H
              have H := H1
              clear H1
              obtain rfl := Option.some.inj H
              go_wp2
              go_ret
              exact ⟨by first | rfl | (simp; done) | (simp [*]; done), by repeat (first | exact Drawn0.refl _ | apply Drawn0.step)⟩
            · replace c10 := Bool.eq_false_iff.mpr c10
              subst c10
              have H1 : (if (Int.tmod (wrap32 (a0 - 44032)) 28) = 0 then (some 4) else (some 5)) = some r := by rw [if_neg (show ¬ (false = true) by decide)] at H; exact H
              clear H
              have H := H1
              clear H1
              by_cases c11 : (Int.tmod (wrap32 (a0 - 44032)) 28) = 0
              · rw [if_pos c11] at H
                have c11b0 : ((Int.tmod (wrap32 (a0 - 44032)) 28) == 0) = true := beq_iff_eq.mpr c11
                have c11b1 : ((Int.tmod (wrap32 (a0 - 44032)) 28) != 0) = false := bne_eq_false_iff_eq.mpr c11
                clear c11
                obtain rfl := Option.some.inj H
                go_wp2
                go_ret
                exact ⟨by first | rfl | (simp; done) | (simp [*]; done), by repeat (first | exact Drawn0.refl _ | apply Drawn0.step)⟩
              · rw [if_neg c11] at H
                have c11b0 : ((Int.tmod (wrap32 (a0 - 44032)) 28) == 0) = false := beq_eq_false_iff_ne.mpr c11
                have c11b1 : ((Int.tmod (wrap32 (a0 - 44032)) 28) != 0) = true := bne_iff_ne.mpr c11
                obtain rfl := Option.some.inj H
                go_wp2
                go_ret
                exact ⟨by first | rfl | (simp; done) | (simp [*]; done), by repeat (first | exact Drawn0.refl _ | apply Drawn0.step)⟩

/-! ### hangul_Join: function 6 -/
def hangul_Join.j0 : Nat → Int → Int → Int → Int → Bool → Option (Int × Bool)
  | 0, _, _, _, _, _ => none
  | k + 1, x0, x1, x6, x7, x12 => if x12 = true then (some (wrap32 ((wrap32 (44032 + (wrap32 ((wrap32 (x0 - 4352)) * 588)))) + (wrap32 ((wrap32 (x1 - 4449)) * 28))), true)) else (if x6 = 4 then (if x7 = 3 then (some (wrap32 ((wrap32 (x0 + x1)) - 4519), true)) else (some (0, false))) else (some (0, false)))
def hangul_Join.f (k : Nat) (a0 : Int) (a1 : Int) : Option (Int × Bool) := (hangul_of.f k a0).bind fun t104 => ((hangul_of.f k a1).bind fun t105 => (if t104 = 1 then (hangul_Join.j0 k a0 a1 t104 t105 (t105 == 2)) else (hangul_Join.j0 k a0 a1 t104 t105 false)))
theorem hangul_Join.mono_l : ∀ k, (∀ y0 y1 y2 y3 y4, LeO (hangul_Join.j0 k y0 y1 y2 y3 y4) (hangul_Join.j0 (k + 1) y0 y1 y2 y3 y4))
  | 0 => fun _ _ _ _ _ r h => by simp [hangul_Join.j0] at h
  | k + 1 => by
    have ih0 := hangul_Join.mono_l k
    · intro y0 y1 y2 y3 y4
      unfold hangul_Join.j0
      repeat' first
      | (with_reducible exact ih0 _ _ _ _ _)
      | (with_reducible exact hangul_of.mono _ _)
      | (with_reducible exact LeO.refl _)
      | (with_reducible exact LeO.none _)
      | (with_reducible refine LeO.ite ?_ ?_)
      | (with_reducible refine LeO.bind ?_ (fun _ => ?_))
      | exact ih0 _ _ _ _ _
      | exact hangul_of.mono _ _
      | exact LeO.none _
      | refine LeO.ite ?_ ?_
      | refine LeO.bind ?_ (fun _ => ?_)
theorem hangul_Join.mono : ∀ a0 a1 k, LeO (hangul_Join.f k a0 a1) (hangul_Join.f (k + 1) a0 a1) := by
  intro a0 a1 k
  have ih0 := hangul_Join.mono_l k
  unfold hangul_Join.f
  repeat' first
      | (with_reducible exact ih0 _ _ _ _ _)
      | (with_reducible exact hangul_of.mono _ _)
      | (with_reducible exact LeO.refl _)
      | (with_reducible exact LeO.none _)
      | (with_reducible refine LeO.ite ?_ ?_)
      | (with_reducible refine LeO.bind ?_ (fun _ => ?_))
      | exact ih0 _ _ _ _ _
      | exact hangul_of.mono _ _
      | exact LeO.none _
      | refine LeO.ite ?_ ?_
      | refine LeO.bind ?_ (fun _ => ?_)
set_option maxHeartbeats 8000000 in
set_option maxRecDepth 100000 in
theorem hangul_Join.calls (k : Nat) (a0 : Int) (a1 : Int) (r1 : Int) (r2 : Bool) (w : World) (h : hangul_Join.f k a0 a1 = some (r1, r2)) :
    Calls Try.prog 6 #[.int .i32 a0, .int .i32 a1] w fun e w' => e = .returned (.tuple #[.int .i32 r1, .bool r2]) ∧ Drawn0 w w' := by
  have H : ((hangul_of.f k a0).bind fun t104 => ((hangul_of.f k a1).bind fun t105 => (if t104 = 1 then (hangul_Join.j0 k a0 a1 t104 t105 (t105 == 2)) else (hangul_Join.j0 k a0 a1 t104 t105 false)))) = some (r1, r2) := h
  clear h
  replace H := Option.bind_eq_some_iff.mp H
  obtain ⟨t104, A30, H⟩ := H
  replace H : ((hangul_of.f k a1).bind fun t105 => (if t104 = 1 then (hangul_Join.j0 k a0 a1 t104 t105 (t105 == 2)) else (hangul_Join.j0 k a0 a1 t104 t105 false))) = some (r1, r2) := H
  have A3 := Aside0.mk A30
  clear A30
  replace H := Option.bind_eq_some_iff.mp H
  obtain ⟨t105, A40, H⟩ := H
  replace H : (if t104 = 1 then (hangul_Join.j0 k a0 a1 t104 t105 (t105 == 2)) else (hangul_Join.j0 k a0 a1 t104 t105 false)) = some (r1, r2) := H
  have A4 := Aside0.mk A40
  clear A40
  have HC5 := Aside0.mk H
  clear H
  go_enter Try.func6, Try.ntmps6
  go_upto_region 2 with (first | ((with_reducible refine gate_callee (f := 15) rfl ?_); refine goesL_ (some 9) rfl rfl Try.func15 (by kernel_rfl) rfl #[.int .i32 a0] rfl (by (try simp only [List.map_toArray, List.map_cons, List.map_nil]); first | done | rfl | (simp only [List.length_drop, List.length_take]; rfl)) ?_; (with_reducible refine (hangul_of.calls k a0 t104 _ A3.out).mono ?_); rintro e w' ⟨rfl, ⟨nd, rfl⟩⟩; refine ⟨_, rfl, ?_⟩) | ((with_reducible refine gate_callee (f := 15) rfl ?_); refine goesL_ (some 11) rfl rfl Try.func15 (by kernel_rfl) rfl #[.int .i32 a1] rfl (by (try simp only [List.map_toArray, List.map_cons, List.map_nil]); first | done | rfl | (simp only [List.length_drop, List.length_take]; rfl)) ?_; (with_reducible refine (hangul_of.calls k a1 t105 _ A4.out).mono ?_); rintro e w' ⟨rfl, ⟨nd, rfl⟩⟩; refine ⟨_, rfl, ?_⟩))
  (try simp only [Act.put, List.setIfInBounds_toArray, List.set_cons_zero, List.set_cons_succ])
  go_cut [12] (fun v12 wc => ∃ (kq : Nat) (x12_4 : Bool), v12 = .bool x12_4 ∧ Aside0 (hangul_Join.j0 kq a0 a1 t104 t105 x12_4 = some (r1, r2)) ∧ Aside0 (kq ≤ k) ∧ Drawn0 w wc)
  case first =>
    have H := HC5.out
    clear HC5
    by_cases c6 : t104 = 1
    · rw [if_pos c6] at H
      have c6b0 : (t104 == 1) = true := beq_iff_eq.mpr c6
      have c6b1 : (t104 != 1) = false := bne_eq_false_iff_eq.mpr c6
      clear c6
      (first | rw [c6b0] | (simp only [i64_w, i32_w]; rw [c6b0]) | skip)
      have H' := Aside0.mk H
      clear H
      go_wp2
      go_meet
      case rel => exact ⟨_, ((t105 == 2)), (by first | rfl | (simp; done) | (simp [*]; done)), H', ⟨by first | omega | exact Nat.le_refl _⟩, by repeat (first | exact Drawn0.refl _ | apply Drawn0.step)⟩
    · rw [if_neg c6] at H
      have c6b0 : (t104 == 1) = false := beq_eq_false_iff_ne.mpr c6
      have c6b1 : (t104 != 1) = true := bne_iff_ne.mpr c6
      (first | rw [c6b0] | (simp only [i64_w, i32_w]; rw [c6b0]) | skip)
      have H' := Aside0.mk H
      clear H
      go_wp2
      go_meet
      case rel => exact ⟨_, (false), (by first | rfl | (simp; done) | (simp [*]; done)), H', ⟨by first | omega | exact Nat.le_refl _⟩, by repeat (first | exact Drawn0.refl _ | apply Drawn0.step)⟩
  case rest =>
    clear HC5
    try clear c1
    try clear p2
    try clear c6
    try clear c6b0
    try clear c6b1
    obtain ⟨kq, x12_4, rfl, HA, HJ4, ⟨mc4, rfl⟩⟩ := hcut
    cases kq with
    | zero => exact absurd HA.out (by simp [hangul_Join.j0])
    | succ kj4 =>
      have H := HA.out
      clear HA
      simp only [hangul_Join.j0] at H
      by_cases c7 : x12_4 = true
      · subst c7
        have H1 : (some (wrap32 ((wrap32 (44032 + (wrap32 ((wrap32 (a0 - 4352)) * 588)))) + (wrap32 ((wrap32 (a1 - 4449)) * 28))), true)) = some (r1, r2) := by rw [if_pos rfl] at H; exact H
        clear H
        have H := H1
        clear H1
        simp only [Option.some.injEq, Prod.mk.injEq] at H
        obtain ⟨rfl, rfl⟩ := H
        go_wp2
        go_ret2
        exact ⟨by first | rfl | (simp; done) | (simp [*]; done), by repeat (first | exact Drawn0.refl _ | apply Drawn0.step)⟩
      · replace c7 := Bool.eq_false_iff.mpr c7
        subst c7
        have H1 : (if t104 = 4 then (if t105 = 3 then (some (wrap32 ((wrap32 (a0 + a1)) - 4519), true)) else (some (0, false))) else (some (0, false))) = some (r1, r2) := by rw [if_neg (show ¬ (false = true) by decide)] at H; exact H
        clear H
        have H := H1
        clear H1
        by_cases c8 : t104 = 4
        · rw [if_pos c8] at H
          have c8b0 : (t104 == 4) = true := beq_iff_eq.mpr c8
          have c8b1 : (t104 != 4) = false := bne_eq_false_iff_eq.mpr c8
          clear c8
          by_cases c9 : t105 = 3
          · rw [if_pos c9] at H
            have c9b0 : (t105 == 3) = true := beq_iff_eq.mpr c9
            have c9b1 : (t105 != 3) = false := bne_eq_false_iff_eq.mpr c9
            clear c9
            simp only [Option.some.injEq, Prod.mk.injEq] at H
            obtain ⟨rfl, rfl⟩ := H
            go_wp2
            go_ret2
            exact ⟨by first | rfl | (simp; done) | (simp [*]; done), by repeat (first | exact Drawn0.refl _ | apply Drawn0.step)⟩
          · rw [if_neg c9] at H
            have c9b0 : (t105 == 3) = false := beq_eq_false_iff_ne.mpr c9
            have c9b1 : (t105 != 3) = true := bne_iff_ne.mpr c9
            simp only [Option.some.injEq, Prod.mk.injEq] at H
            obtain ⟨rfl, rfl⟩ := H
            go_wp2
            go_ret2
            exact ⟨by first | rfl | (simp; done) | (simp [*]; done), by repeat (first | exact Drawn0.refl _ | apply Drawn0.step)⟩
        · rw [if_neg c8] at H
          have c8b0 : (t104 == 4) = false := beq_eq_false_iff_ne.mpr c8
          have c8b1 : (t104 != 4) = true := bne_iff_ne.mpr c8
          simp only [Option.some.injEq, Prod.mk.injEq] at H
          obtain ⟨rfl, rfl⟩ := H
          go_wp2
          go_ret2
          exact ⟨by first | rfl | (simp; done) | (simp [*]; done), by repeat (first | exact Drawn0.refl _ | apply Drawn0.step)⟩

/-! ### hangul_Kind: function 8 -/
def hangul_Kind.f (k : Nat) (a0 : Int) : Option (Int) := (hangul_of.f k a0).bind fun t106 => (some t106)
theorem hangul_Kind.mono : ∀ a0 k, LeO (hangul_Kind.f k a0) (hangul_Kind.f (k + 1) a0) := by
  intro a0 k
  unfold hangul_Kind.f
  repeat' first
      | (with_reducible exact hangul_of.mono _ _)
      | (with_reducible exact LeO.refl _)
      | (with_reducible exact LeO.none _)
      | (with_reducible refine LeO.ite ?_ ?_)
      | (with_reducible refine LeO.bind ?_ (fun _ => ?_))
      | exact hangul_of.mono _ _
      | exact LeO.none _
      | refine LeO.ite ?_ ?_
      | refine LeO.bind ?_ (fun _ => ?_)
set_option maxHeartbeats 8000000 in
set_option maxRecDepth 100000 in
theorem hangul_Kind.calls (k : Nat) (a0 : Int) (r : Int) (w : World) (h : hangul_Kind.f k a0 = some r) :
    Calls Try.prog 8 #[.int .i32 a0] w fun e w' => e = .returned (.int .i64 r) ∧ Drawn0 w w' := by
  have H : ((hangul_of.f k a0).bind fun t106 => (some t106)) = some r := h
  clear h
  replace H := Option.bind_eq_some_iff.mp H
  obtain ⟨t106, A20, H⟩ := H
  replace H : (some t106) = some r := H
  have A2 := Aside0.mk A20
  clear A20
  obtain rfl := Option.some.inj H
  go_enter Try.func8, Try.ntmps8
  go_wp2_with (first | ((with_reducible refine gate_callee (f := 15) rfl ?_); refine goesL_ (some 4) rfl rfl Try.func15 (by kernel_rfl) rfl #[.int .i32 a0] rfl (by (try simp only [List.map_toArray, List.map_cons, List.map_nil]); first | done | rfl | (simp only [List.length_drop, List.length_take]; rfl)) ?_; (with_reducible refine (hangul_of.calls k a0 t106 _ A2.out).mono ?_); rintro e w' ⟨rfl, ⟨nd, rfl⟩⟩; refine ⟨_, rfl, ?_⟩))
  go_ret
  exact ⟨by first | rfl | (simp; done) | (simp [*]; done), by repeat (first | exact Drawn0.refl _ | apply Drawn0.step)⟩

/-! ### hangul_Split: function 11 -/
def hangul_Split.j0 : Nat → List Int → Int → Int → Bool → Option (List Int)
  | 0, _, _, _, _ => none
  | k + 1, x3, x4, x5, x11 => if x11 = true then ((some (([wrap32 (4352 + (wrap32 (Int.tdiv x4 588))), wrap32 (4449 + (wrap32 (Int.tdiv (Int.tmod x4 588) 28)))] : List Int) : List Int)).bind fun y108 => (if x3.length + y108.length < 35184372088832 then ((some (x3 ++ y108 : List Int)).bind fun y111 => (if x5 = 5 then (if y111.length < 35184372088832 then (some (y111 ++ [wrap32 (4519 + (Int.tmod x4 28))])) else (none)) else (some y111))) else (none))) else (some x3)
def hangul_Split.f (k : Nat) (a0 : Int) : Option (List Int) := (hangul_of.f k a0).bind fun t107 => (if t107 = 4 then (hangul_Split.j0 k ([] : List Int) (wrap32 (a0 - 44032)) t107 (t107 == 4)) else (hangul_Split.j0 k ([] : List Int) (wrap32 (a0 - 44032)) t107 (t107 == 5)))
theorem hangul_Split.mono_l : ∀ k, (∀ y0 y1 y2 y3, LeO (hangul_Split.j0 k y0 y1 y2 y3) (hangul_Split.j0 (k + 1) y0 y1 y2 y3))
  | 0 => fun _ _ _ _ r h => by simp [hangul_Split.j0] at h
  | k + 1 => by
    have ih0 := hangul_Split.mono_l k
    · intro y0 y1 y2 y3
      unfold hangul_Split.j0
      repeat' first
      | (with_reducible exact ih0 _ _ _ _)
      | (with_reducible exact hangul_of.mono _ _)
      | (with_reducible exact LeO.refl _)
      | (with_reducible exact LeO.none _)
      | (with_reducible refine LeO.ite ?_ ?_)
      | (with_reducible refine LeO.bind ?_ (fun _ => ?_))
      | exact ih0 _ _ _ _
      | exact hangul_of.mono _ _
      | exact LeO.none _
      | refine LeO.ite ?_ ?_
      | refine LeO.bind ?_ (fun _ => ?_)
theorem hangul_Split.mono : ∀ a0 k, LeO (hangul_Split.f k a0) (hangul_Split.f (k + 1) a0) := by
  intro a0 k
  have ih0 := hangul_Split.mono_l k
  unfold hangul_Split.f
  repeat' first
      | (with_reducible exact ih0 _ _ _ _)
      | (with_reducible exact hangul_of.mono _ _)
      | (with_reducible exact LeO.refl _)
      | (with_reducible exact LeO.none _)
      | (with_reducible refine LeO.ite ?_ ?_)
      | (with_reducible refine LeO.bind ?_ (fun _ => ?_))
      | exact ih0 _ _ _ _
      | exact hangul_of.mono _ _
      | exact LeO.none _
      | refine LeO.ite ?_ ?_
      | refine LeO.bind ?_ (fun _ => ?_)
set_option maxHeartbeats 8000000 in
set_option maxRecDepth 100000 in
theorem hangul_Split.calls (k : Nat) (a0 : Int) (r : List Int) (w : World) (h : hangul_Split.f k a0 = some r) :
    Calls Try.prog 11 #[.int .i32 a0] w fun e w' => ∃ v0_ : Value, e = .returned (v0_) ∧ Kd.R (Kd.int .i32) 21 w' w.heap.size (fun _ => True) v0_ r ∧ Below w.heap.size w w' := by
  have HB := Aside0.mk (Below.refl w.heap.size w)
  have H : ((hangul_of.f k a0).bind fun t107 => (if t107 = 4 then (hangul_Split.j0 k ([] : List Int) (wrap32 (a0 - 44032)) t107 (t107 == 4)) else (hangul_Split.j0 k ([] : List Int) (wrap32 (a0 - 44032)) t107 (t107 == 5)))) = some r := h
  clear h
  replace H := Option.bind_eq_some_iff.mp H
  obtain ⟨t107, A20, H⟩ := H
  replace H : (if t107 = 4 then (hangul_Split.j0 k ([] : List Int) (wrap32 (a0 - 44032)) t107 (t107 == 4)) else (hangul_Split.j0 k ([] : List Int) (wrap32 (a0 - 44032)) t107 (t107 == 5))) = some r := H
  have A2 := Aside0.mk A20
  clear A20
  have HC3 := Aside0.mk H
  clear H
  go_enter Try.func11, Try.ntmps11
  go_upto_if 11 with (first | ((with_reducible refine gate_callee (f := 15) rfl ?_); refine goesL_ (some 9) rfl rfl Try.func15 (by kernel_rfl) rfl #[.int .i32 a0] rfl (by (try simp only [List.map_toArray, List.map_cons, List.map_nil]); first | done | rfl | (simp only [List.length_drop, List.length_take]; rfl)) ?_; (with_reducible refine (hangul_of.calls k a0 t107 _ A2.out).mono ?_); rintro e w' ⟨rfl, ⟨nd, rfl⟩⟩; refine ⟨_, rfl, ?_⟩))
  (try simp only [Act.put, List.setIfInBounds_toArray, List.set_cons_zero, List.set_cons_succ])
  go_cut [11] (fun v11 wc => ∃ (kq : Nat) (x11_2 : Bool), v11 = .bool x11_2 ∧ Aside0 (hangul_Split.j0 kq ([] : List Int) (wrap32 (a0 - 44032)) t107 x11_2 = some r) ∧ Aside0 (kq ≤ k) ∧ Aside0 (Kd.R (Kd.int .i32) 21 wc w.heap.size (fun _ => True) (.slice none 0 0) ([] : List Int)) ∧ Aside0 (Below w.heap.size w wc))
  case first =>
    have H := HC3.out
    clear HC3
    by_cases c4 : t107 = 4
    · rw [if_pos c4] at H
      have c4b0 : (t107 == 4) = true := beq_iff_eq.mpr c4
      have c4b1 : (t107 != 4) = false := bne_eq_false_iff_eq.mpr c4
      clear c4
      (first | rw [c4b0] | (simp only [i64_w, i32_w]; rw [c4b0]) | skip)
      have H' := Aside0.mk H
      clear H
      go_wp2
      go_meet
      case rel => exact ⟨_, ((t107 == 4)), (by first | rfl | (simp; done) | (simp [*]; done)), H', ⟨by first | omega | exact Nat.le_refl _⟩, ⟨by first | exact Kd.R_nil _ _ _ _ _ | exact Kd.N_nil _ _ _ _ _ | exact Kd.V_nil _ _ _ _ _ | exact Kd.Q_nil _ _ _ _ _ | exact Kd.S_nil _ _ _ _ _⟩, ⟨by repeat (first | (with_reducible first | exact HB.out | apply below_alloc | apply pw_below_drewN | apply below_drew1) | exact HB.out)⟩⟩
    · rw [if_neg c4] at H
      have c4b0 : (t107 == 4) = false := beq_eq_false_iff_ne.mpr c4
      have c4b1 : (t107 != 4) = true := bne_iff_ne.mpr c4
      (first | rw [c4b0] | (simp only [i64_w, i32_w]; rw [c4b0]) | skip)
      have H' := Aside0.mk H
      clear H
      go_wp2
      go_meet
      case rel => exact ⟨_, ((t107 == 5)), (by first | rfl | (simp; done) | (simp [*]; done)), H', ⟨by first | omega | exact Nat.le_refl _⟩, ⟨by first | exact Kd.R_nil _ _ _ _ _ | exact Kd.N_nil _ _ _ _ _ | exact Kd.V_nil _ _ _ _ _ | exact Kd.Q_nil _ _ _ _ _ | exact Kd.S_nil _ _ _ _ _⟩, ⟨by repeat (first | (with_reducible first | exact HB.out | apply below_alloc | apply pw_below_drewN | apply below_drew1) | exact HB.out)⟩⟩
  case rest =>
    clear HC3
    try clear c1
    try clear p2
    try clear p3
    try clear c4
    try clear c4b0
    try clear c4b1
    obtain ⟨kq, x11_2, rfl, HA, HJ2, HO_3, HB⟩ := hcut
    cases kq with
    | zero => exact absurd HA.out (by simp [hangul_Split.j0])
    | succ kj2 =>
      have H := HA.out
      clear HA
      simp only [hangul_Split.j0] at H
      by_cases c5 : x11_2 = true
      · subst c5
        have H1 : ((some (([wrap32 (4352 + (wrap32 (Int.tdiv (wrap32 (a0 - 44032)) 588))), wrap32 (4449 + (wrap32 (Int.tdiv (Int.tmod (wrap32 (a0 - 44032)) 588) 28)))] : List Int) : List Int)).bind fun y108 => (if ([] : List Int).length + y108.length < 35184372088832 then ((some (([] : List Int) ++ y108 : List Int)).bind fun y111 => (if t107 = 5 then (if y111.length < 35184372088832 then (some (y111 ++ [wrap32 (4519 + (Int.tmod (wrap32 (a0 - 44032)) 28))])) else (none)) else (some y111))) else (none))) = some r := by rw [if_pos rfl] at H; exact H
        clear H
        have H := H1
        clear H1
        obtain ⟨y108, hy108⟩ : ∃ y_ : List Int, y_ = (([wrap32 (4352 + (wrap32 (Int.tdiv (wrap32 (a0 - 44032)) 588))), wrap32 (4449 + (wrap32 (Int.tdiv (Int.tmod (wrap32 (a0 - 44032)) 588) 28)))] : List Int)) := ⟨_, rfl⟩
        replace H : (if ([] : List Int).length + y108.length < 35184372088832 then ((some (([] : List Int) ++ y108 : List Int)).bind fun y111 => (if t107 = 5 then (if y111.length < 35184372088832 then (some (y111 ++ [wrap32 (4519 + (Int.tmod (wrap32 (a0 - 44032)) 28))])) else (none)) else (some y111))) else (none)) = some r := by first | (rw [hy108]; with_reducible exact H) | (have H2_ := (Option.bind_some _ _).symm.trans H; rw [hy108]; with_reducible exact H2_) | (have H2_ := (Option.bind_some _ _).symm.trans H; with_reducible exact H2_) | with_reducible exact H | (rw [hy108]; exact H) | exact H
        have Ny108 := Aside0.mk hy108
        clear hy108
        by_cases c6 : ([] : List Int).length + y108.length < 35184372088832
        · rw [if_pos c6] at H
          have LMc6 := Aside0.mk c6
          clear c6
          obtain ⟨y111, hy111⟩ : ∃ y_ : List Int, y_ = (([] : List Int) ++ y108) := ⟨_, rfl⟩
          replace H : (if t107 = 5 then (if y111.length < 35184372088832 then (some (y111 ++ [wrap32 (4519 + (Int.tmod (wrap32 (a0 - 44032)) 28))])) else (none)) else (some y111)) = some r := by first | (rw [hy111]; with_reducible exact H) | (have H2_ := (Option.bind_some _ _).symm.trans H; rw [hy111]; with_reducible exact H2_) | (have H2_ := (Option.bind_some _ _).symm.trans H; with_reducible exact H2_) | with_reducible exact H | (rw [hy111]; exact H) | exact H
          have Ny111 := Aside0.mk hy111
          clear hy111
          by_cases c7 : t107 = 5
          · rw [if_pos c7] at H
            have c7b0 : (t107 == 5) = true := beq_iff_eq.mpr c7
            have c7b1 : (t107 != 5) = false := bne_eq_false_iff_eq.mpr c7
            clear c7
            by_cases c8 : y111.length < 35184372088832
            · rw [if_pos c8] at H
              have LMc8 := Aside0.mk c8
              clear c8
              obtain ⟨y114, hy114⟩ : ∃ y_ : List Int, y_ = (y111 ++ [wrap32 (4519 + (Int.tmod (wrap32 (a0 - 44032)) 28))]) := ⟨_, rfl⟩
              replace H : (some y114) = some r := by first | (rw [hy114]; with_reducible exact H) | (have H2_ := (Option.bind_some _ _).symm.trans H; rw [hy114]; with_reducible exact H2_) | (have H2_ := (Option.bind_some _ _).symm.trans H; with_reducible exact H2_) | with_reducible exact H | (rw [hy114]; exact H) | exact H
              have Ny114 := Aside0.mk hy114
              clear hy114
              obtain rfl := Option.some.inj H
              go_wp2_with (first | ((with_reducible refine gate_dst (N := 22) rfl ?_); refine Kd.R_lit (Kd.int .i32) _ 21 ?hg (N := 22) ?hd (xs := ([wrap32 (4352 + (wrap32 (Int.tdiv (wrap32 (a0 - 44032)) 588))), wrap32 (4449 + (wrap32 (Int.tdiv (Int.tmod (wrap32 (a0 - 44032)) 588) 28)))] : List Int)) (inner := [.int .i32 (wrap32 (4352 + (wrap32 (Int.tdiv (wrap32 (a0 - 44032)) 588)))), .int .i32 (wrap32 (4449 + (wrap32 (Int.tdiv (Int.tmod (wrap32 (a0 - 44032)) 588) 28))))]) (ok := fun _ => True) (okp := fun _ => True) ?hr ?hp (fun _ hk => hk) trivial (Below.refl _ _) (Nat.le_refl _) (by simp) ?_; (case hd => rfl); (case hg => rfl); (case hr => first | (go_simp; done) | (go_simp; rfl)); (case hp => exact (Reps.one (show Kd.M (Kd.int .i32) _ _ _ (wrap32 (4352 + (wrap32 (Int.tdiv (wrap32 (a0 - 44032)) 588)))) [.int .i32 (wrap32 (4352 + (wrap32 (Int.tdiv (wrap32 (a0 - 44032)) 588))))] from rfl) (Reps.one (show Kd.M (Kd.int .i32) _ _ _ (wrap32 (4449 + (wrap32 (Int.tdiv (Int.tmod (wrap32 (a0 - 44032)) 588) 28)))) [.int .i32 (wrap32 (4449 + (wrap32 (Int.tdiv (Int.tmod (wrap32 (a0 - 44032)) 588) 28))))] from rfl) (Reps.none _ _)))); intro v109 w9 ho10 hb hg_ hnew_; clear hg_ hnew_; (first | rw [← Ny108.out] at ho10 | (simp only [Int.reduceToNat] at ho10; rw [← Ny108.out] at ho10)); have n0_ := Aside0.mk (Kd.R_elder' (by (with_reducible repeat (first | apply Kd.R_alloc | apply Kd.R_drewN | apply Kd.R_drew)); exact HO_3.out) (Kd.R_base ho10) hb); have n1_ := Aside0.mk (Kd.R_lower (Kd.R_new' ho10 (Kd.R_lt (by (with_reducible repeat (first | apply Kd.R_alloc | apply Kd.R_drewN | apply Kd.R_drew)); exact HO_3.out))) (below_size (by repeat (first | (with_reducible first | exact HB.out | apply below_alloc | apply pw_below_drewN | apply below_drew1) | exact HB.out)))); have n2_ := Aside0.mk (below_step (by repeat (first | (with_reducible first | exact HB.out | apply below_alloc | apply pw_below_drewN | apply below_drew1) | exact HB.out)) hb); clear HO_3; clear HB; have HO_3 := n0_; have HO110 := n1_; have HB := n2_; clear n0_ n1_ n2_; clear hb ho10; obtain ⟨Ao12, co12, eo12⟩ := Kd.R_slice HO110.out; subst eo12) | ((with_reducible refine gate_builtin (b := .append) (xs := #[.tmp 14, .tmp 22]) rfl ?_); at_builtin; refine Kd.R_append_rows (Kd.int .i32) (w0 := w) w.heap.size rfl (.tmp 14) (.tmp 22) 26 21 (.int .i32 0) 4 rfl Try.underlying26 info21 rfl (by decide) (by omega) (.slice none 0 0) ([] : List Int) y108 _ _ _ (fun k_ => some k_ ≠ (.slice Ao12 y108.length co12 : Value).ownBlock) (fun _ => False) rfl rfl ?aO ?aR (fun _ _ h => h) (fun _ h => h.elim) ?aF ?aB ?aS ?aL ?_; (case aR => repeat (first | exact (Kd.R_reads' HO110.out).2.2 | (with_reducible refine Kd.C_alloc ?_ _) | (with_reducible refine Kd.C_drewN ?_ _) | (with_reducible refine Kd.C_drew ?_))); (case aB => exact (by repeat (first | (with_reducible first | exact HB.out | apply below_alloc | apply pw_below_drewN | apply below_drew1) | exact HB.out))); (case aF => exact (fun k_ hk => Kd.fresh' (Kd.R_lt (by (with_reducible repeat (first | apply Kd.R_alloc | apply Kd.R_drewN | apply Kd.R_drew)); exact HO110.out)) k_ hk)); (case aO => exact (by (with_reducible repeat (first | apply Kd.R_alloc | apply Kd.R_drewN | apply Kd.R_drew)); exact Kd.R_mono HO_3.out (fun _ hk => hk.2))); (case aS => exact (below_size (by repeat (first | (with_reducible first | exact HB.out | apply below_alloc | apply pw_below_drewN | apply below_drew1) | exact HB.out)))); (case aL => have := LMc6.out; omega); intro v112 w11 ho hb hg hat; rw [← Ny111.out] at ho; have n0_ := Aside0.mk (Kd.R_after (ok := (fun _ => True)) (by (with_reducible repeat (first | apply Kd.R_alloc | apply Kd.R_drewN | apply Kd.R_drew)); exact HO110.out) hg hat); have n1_ := Aside0.mk (hb); have n2_ := Aside0.mk (ho); clear HO110; clear HB; clear HO_3; have HO110 := n0_; have HB := n1_; have HO113 := n2_; clear n0_ n1_ n2_; clear ho hb hg hat) | ((with_reducible refine gate_builtin (b := .append) (xs := #[.tmp 26, .tmp 30]) rfl ?_); at_builtin; refine Kd.R_append (Kd.int .i32) (w0 := w) w.heap.size rfl (.tmp 26) (.tmp 30) 26 21 (.int .i32 0) 4 rfl Try.underlying26 info21 rfl (by decide) (by omega) v112 y111 (wrap32 (4519 + (Int.tmod (wrap32 (a0 - 44032)) 28))) [.int .i32 (wrap32 (4519 + (Int.tmod (wrap32 (a0 - 44032)) 28)))] (fun k_ => some k_ ≠ (.slice Ao12 y108.length co12 : Value).ownBlock) (fun _ => False) rfl rfl ?aP (fun _ hk => hk.elim) ?aF ?aO ?aB ?aS ?aL ?_; (case aP => exact rfl); (case aB => exact (by repeat (first | (with_reducible first | exact HB.out | apply below_alloc | apply pw_below_drewN | apply below_drew1) | exact HB.out))); (case aF => exact (fun k_ hk => Kd.fresh' (Kd.R_lt (by (with_reducible repeat (first | apply Kd.R_alloc | apply Kd.R_drewN | apply Kd.R_drew)); exact HO110.out)) k_ hk)); (case aO => exact (by (with_reducible repeat (first | apply Kd.R_alloc | apply Kd.R_drewN | apply Kd.R_drew)); exact HO113.out)); (case aS => exact (below_size (by repeat (first | (with_reducible first | exact HB.out | apply below_alloc | apply pw_below_drewN | apply below_drew1) | exact HB.out)))); (case aL => have := LMc8.out; omega); intro v115 w13 ho hb hg hat; rw [← Ny114.out] at ho; have n0_ := Aside0.mk (Kd.R_after (ok := (fun _ => True)) (by (with_reducible repeat (first | apply Kd.R_alloc | apply Kd.R_drewN | apply Kd.R_drew)); exact HO110.out) hg hat); have n1_ := Aside0.mk (hb); have n2_ := Aside0.mk (ho); clear HO110; clear HB; clear HO113; have HO110 := n0_; have HB := n1_; have HO116 := n2_; clear n0_ n1_ n2_; clear ho hb hg hat))
              go_ret
              exact ⟨_, by first | rfl | (simp [errW_none, errW_some] <;> rfl) | (simp [*, errW_none, errW_some] <;> rfl), by (with_reducible repeat (first | apply Kd.R_alloc | apply Kd.R_drewN | apply Kd.R_drew)); exact Kd.R_mono HO116.out (fun _ hk => trivial), by repeat (first | (with_reducible first | exact HB.out | apply below_alloc | apply pw_below_drewN | apply below_drew1) | exact HB.out)⟩
            · rw [if_neg c8] at H
              exact absurd H (by simp)
          · rw [if_neg c7] at H
            have c7b0 : (t107 == 5) = false := beq_eq_false_iff_ne.mpr c7
            have c7b1 : (t107 != 5) = true := bne_iff_ne.mpr c7
            obtain rfl := Option.some.inj H
            go_wp2_with (first | ((with_reducible refine gate_dst (N := 22) rfl ?_); refine Kd.R_lit (Kd.int .i32) _ 21 ?hg (N := 22) ?hd (xs := ([wrap32 (4352 + (wrap32 (Int.tdiv (wrap32 (a0 - 44032)) 588))), wrap32 (4449 + (wrap32 (Int.tdiv (Int.tmod (wrap32 (a0 - 44032)) 588) 28)))] : List Int)) (inner := [.int .i32 (wrap32 (4352 + (wrap32 (Int.tdiv (wrap32 (a0 - 44032)) 588)))), .int .i32 (wrap32 (4449 + (wrap32 (Int.tdiv (Int.tmod (wrap32 (a0 - 44032)) 588) 28))))]) (ok := fun _ => True) (okp := fun _ => True) ?hr ?hp (fun _ hk => hk) trivial (Below.refl _ _) (Nat.le_refl _) (by simp) ?_; (case hd => rfl); (case hg => rfl); (case hr => first | (go_simp; done) | (go_simp; rfl)); (case hp => exact (Reps.one (show Kd.M (Kd.int .i32) _ _ _ (wrap32 (4352 + (wrap32 (Int.tdiv (wrap32 (a0 - 44032)) 588)))) [.int .i32 (wrap32 (4352 + (wrap32 (Int.tdiv (wrap32 (a0 - 44032)) 588))))] from rfl) (Reps.one (show Kd.M (Kd.int .i32) _ _ _ (wrap32 (4449 + (wrap32 (Int.tdiv (Int.tmod (wrap32 (a0 - 44032)) 588) 28)))) [.int .i32 (wrap32 (4449 + (wrap32 (Int.tdiv (Int.tmod (wrap32 (a0 - 44032)) 588) 28))))] from rfl) (Reps.none _ _)))); intro v109 w14 ho15 hb hg_ hnew_; clear hg_ hnew_; (first | rw [← Ny108.out] at ho15 | (simp only [Int.reduceToNat] at ho15; rw [← Ny108.out] at ho15)); have n0_ := Aside0.mk (Kd.R_elder' (by (with_reducible repeat (first | apply Kd.R_alloc | apply Kd.R_drewN | apply Kd.R_drew)); exact HO_3.out) (Kd.R_base ho15) hb); have n1_ := Aside0.mk (Kd.R_lower (Kd.R_new' ho15 (Kd.R_lt (by (with_reducible repeat (first | apply Kd.R_alloc | apply Kd.R_drewN | apply Kd.R_drew)); exact HO_3.out))) (below_size (by repeat (first | (with_reducible first | exact HB.out | apply below_alloc | apply pw_below_drewN | apply below_drew1) | exact HB.out)))); have n2_ := Aside0.mk (below_step (by repeat (first | (with_reducible first | exact HB.out | apply below_alloc | apply pw_below_drewN | apply below_drew1) | exact HB.out)) hb); clear HO_3; clear HB; have HO_3 := n0_; have HO110 := n1_; have HB := n2_; clear n0_ n1_ n2_; clear hb ho15; obtain ⟨Ao17, co17, eo17⟩ := Kd.R_slice HO110.out; subst eo17) | ((with_reducible refine gate_builtin (b := .append) (xs := #[.tmp 14, .tmp 22]) rfl ?_); at_builtin; refine Kd.R_append_rows (Kd.int .i32) (w0 := w) w.heap.size rfl (.tmp 14) (.tmp 22) 26 21 (.int .i32 0) 4 rfl Try.underlying26 info21 rfl (by decide) (by omega) (.slice none 0 0) ([] : List Int) y108 _ _ _ (fun k_ => some k_ ≠ (.slice Ao17 y108.length co17 : Value).ownBlock) (fun _ => False) rfl rfl ?aO ?aR (fun _ _ h => h) (fun _ h => h.elim) ?aF ?aB ?aS ?aL ?_; (case aR => repeat (first | exact (Kd.R_reads' HO110.out).2.2 | (with_reducible refine Kd.C_alloc ?_ _) | (with_reducible refine Kd.C_drewN ?_ _) | (with_reducible refine Kd.C_drew ?_))); (case aB => exact (by repeat (first | (with_reducible first | exact HB.out | apply below_alloc | apply pw_below_drewN | apply below_drew1) | exact HB.out))); (case aF => exact (fun k_ hk => Kd.fresh' (Kd.R_lt (by (with_reducible repeat (first | apply Kd.R_alloc | apply Kd.R_drewN | apply Kd.R_drew)); exact HO110.out)) k_ hk)); (case aO => exact (by (with_reducible repeat (first | apply Kd.R_alloc | apply Kd.R_drewN | apply Kd.R_drew)); exact Kd.R_mono HO_3.out (fun _ hk => hk.2))); (case aS => exact (below_size (by repeat (first | (with_reducible first | exact HB.out | apply below_alloc | apply pw_below_drewN | apply below_drew1) | exact HB.out)))); (case aL => have := LMc6.out; omega); intro v112 w16 ho hb hg hat; rw [← Ny111.out] at ho; have n0_ := Aside0.mk (Kd.R_after (ok := (fun _ => True)) (by (with_reducible repeat (first | apply Kd.R_alloc | apply Kd.R_drewN | apply Kd.R_drew)); exact HO110.out) hg hat); have n1_ := Aside0.mk (hb); have n2_ := Aside0.mk (ho); clear HO110; clear HB; clear HO_3; have HO110 := n0_; have HB := n1_; have HO113 := n2_; clear n0_ n1_ n2_; clear ho hb hg hat))
            go_ret
            exact ⟨_, by first | rfl | (simp [errW_none, errW_some] <;> rfl) | (simp [*, errW_none, errW_some] <;> rfl), by (with_reducible repeat (first | apply Kd.R_alloc | apply Kd.R_drewN | apply Kd.R_drew)); exact Kd.R_mono HO113.out (fun _ hk => trivial), by repeat (first | (with_reducible first | exact HB.out | apply below_alloc | apply pw_below_drewN | apply below_drew1) | exact HB.out)⟩
        · rw [if_neg c6] at H
          exact absurd H (by simp)
      · replace c5 := Bool.eq_false_iff.mpr c5
        subst c5
        have H1 : (some ([] : List Int)) = some r := by rw [if_neg (show ¬ (false = true) by decide)] at H; exact H
        clear H
        have H := H1
        clear H1
        obtain rfl := Option.some.inj H
        go_wp2
        go_ret
        exact ⟨_, by first | rfl | (simp [errW_none, errW_some] <;> rfl) | (simp [*, errW_none, errW_some] <;> rfl), by (with_reducible repeat (first | apply Kd.R_alloc | apply Kd.R_drewN | apply Kd.R_drew)); exact HO_3.out, by repeat (first | (with_reducible first | exact HB.out | apply below_alloc | apply pw_below_drewN | apply below_drew1) | exact HB.out)⟩

/-! ### orthoepylaw06_awake: function 13 -/
def orthoepylaw06_awake.f (k : Nat)  : Option (Bool) := (hangul_Split.f k 44033).bind fun t117 => ((hangul_Join.f k 4352 4449).bind fun bt120 => ((hangul_Join.f k bt120.1 4520).bind fun bt122 => ((hangul_Join.f k bt122.1 4520).bind fun bt124 => (if (t117.length : Int) = 3 then (if 0 < (t117.length : Int) then (if (rd t117 0) = 4352 then (if 1 < (t117.length : Int) then (if (rd t117 1) = 4449 then (if 2 < (t117.length : Int) then (if (rd t117 2) = 4520 then (if bt120.2 = true then (if bt120.1 = 44032 then (if bt122.2 = true then (if bt122.1 = 44033 then (if bt124.2 = true then (some false) else ((hangul_Kind.f k bt120.1).bind fun t129 => (if t129 = 4 then ((hangul_Kind.f k bt122.1).bind fun t130 => (if t130 = 5 then ((hangul_Kind.f k 97).bind fun t131 => (some (t131 == 0))) else (some false))) else (some false)))) else (some false)) else (some false)) else (some false)) else (some false)) else (some false)) else (none)) else (some false)) else (none)) else (some false)) else (none)) else (some false)))))
theorem orthoepylaw06_awake.mono : ∀ k, LeO (orthoepylaw06_awake.f k ) (orthoepylaw06_awake.f (k + 1) ) := by
  intro  k
  unfold orthoepylaw06_awake.f
  repeat' first
      | (with_reducible exact hangul_Join.mono _ _ _)
      | (with_reducible exact hangul_Kind.mono _ _)
      | (with_reducible exact hangul_Split.mono _ _)
      | (with_reducible exact LeO.refl _)
      | (with_reducible exact LeO.none _)
      | (with_reducible refine LeO.ite ?_ ?_)
      | (with_reducible refine LeO.bind ?_ (fun _ => ?_))
      | exact hangul_Join.mono _ _ _
      | exact hangul_Kind.mono _ _
      | exact hangul_Split.mono _ _
      | exact LeO.none _
      | refine LeO.ite ?_ ?_
      | refine LeO.bind ?_ (fun _ => ?_)
set_option maxHeartbeats 8000000 in
set_option maxRecDepth 100000 in
theorem orthoepylaw06_awake.calls (k : Nat)  (r : Bool) (w : World) (h : orthoepylaw06_awake.f k  = some r) :
    Calls Try.prog 13 #[] w fun e w' => e = .returned (.bool r) ∧ Below w.heap.size w w' := by
  have HB := Aside0.mk (Below.refl w.heap.size w)
  have H : ((hangul_Split.f k 44033).bind fun t117 => ((hangul_Join.f k 4352 4449).bind fun bt120 => ((hangul_Join.f k bt120.1 4520).bind fun bt122 => ((hangul_Join.f k bt122.1 4520).bind fun bt124 => (if (t117.length : Int) = 3 then (if 0 < (t117.length : Int) then (if (rd t117 0) = 4352 then (if 1 < (t117.length : Int) then (if (rd t117 1) = 4449 then (if 2 < (t117.length : Int) then (if (rd t117 2) = 4520 then (if bt120.2 = true then (if bt120.1 = 44032 then (if bt122.2 = true then (if bt122.1 = 44033 then (if bt124.2 = true then (some false) else ((hangul_Kind.f k bt120.1).bind fun t129 => (if t129 = 4 then ((hangul_Kind.f k bt122.1).bind fun t130 => (if t130 = 5 then ((hangul_Kind.f k 97).bind fun t131 => (some (t131 == 0))) else (some false))) else (some false)))) else (some false)) else (some false)) else (some false)) else (some false)) else (some false)) else (none)) else (some false)) else (none)) else (some false)) else (none)) else (some false)))))) = some r := h
  clear h
  replace H := Option.bind_eq_some_iff.mp H
  obtain ⟨t117, A10, H⟩ := H
  replace H : ((hangul_Join.f k 4352 4449).bind fun bt120 => ((hangul_Join.f k bt120.1 4520).bind fun bt122 => ((hangul_Join.f k bt122.1 4520).bind fun bt124 => (if (t117.length : Int) = 3 then (if 0 < (t117.length : Int) then (if (rd t117 0) = 4352 then (if 1 < (t117.length : Int) then (if (rd t117 1) = 4449 then (if 2 < (t117.length : Int) then (if (rd t117 2) = 4520 then (if bt120.2 = true then (if bt120.1 = 44032 then (if bt122.2 = true then (if bt122.1 = 44033 then (if bt124.2 = true then (some false) else ((hangul_Kind.f k bt120.1).bind fun t129 => (if t129 = 4 then ((hangul_Kind.f k bt122.1).bind fun t130 => (if t130 = 5 then ((hangul_Kind.f k 97).bind fun t131 => (some (t131 == 0))) else (some false))) else (some false)))) else (some false)) else (some false)) else (some false)) else (some false)) else (some false)) else (none)) else (some false)) else (none)) else (some false)) else (none)) else (some false))))) = some r := H
  have A1 := Aside0.mk A10
  clear A10
  replace H := Option.bind_eq_some_iff.mp H
  obtain ⟨⟨t120, t121⟩, A20, H⟩ := H
  replace H : ((hangul_Join.f k t120 4520).bind fun bt122 => ((hangul_Join.f k bt122.1 4520).bind fun bt124 => (if (t117.length : Int) = 3 then (if 0 < (t117.length : Int) then (if (rd t117 0) = 4352 then (if 1 < (t117.length : Int) then (if (rd t117 1) = 4449 then (if 2 < (t117.length : Int) then (if (rd t117 2) = 4520 then (if t121 = true then (if t120 = 44032 then (if bt122.2 = true then (if bt122.1 = 44033 then (if bt124.2 = true then (some false) else ((hangul_Kind.f k t120).bind fun t129 => (if t129 = 4 then ((hangul_Kind.f k bt122.1).bind fun t130 => (if t130 = 5 then ((hangul_Kind.f k 97).bind fun t131 => (some (t131 == 0))) else (some false))) else (some false)))) else (some false)) else (some false)) else (some false)) else (some false)) else (some false)) else (none)) else (some false)) else (none)) else (some false)) else (none)) else (some false)))) = some r := H
  have A2 := Aside0.mk A20
  clear A20
  replace H := Option.bind_eq_some_iff.mp H
  obtain ⟨⟨t122, t123⟩, A30, H⟩ := H
  replace H : ((hangul_Join.f k t122 4520).bind fun bt124 => (if (t117.length : Int) = 3 then (if 0 < (t117.length : Int) then (if (rd t117 0) = 4352 then (if 1 < (t117.length : Int) then (if (rd t117 1) = 4449 then (if 2 < (t117.length : Int) then (if (rd t117 2) = 4520 then (if t121 = true then (if t120 = 44032 then (if t123 = true then (if t122 = 44033 then (if bt124.2 = true then (some false) else ((hangul_Kind.f k t120).bind fun t129 => (if t129 = 4 then ((hangul_Kind.f k t122).bind fun t130 => (if t130 = 5 then ((hangul_Kind.f k 97).bind fun t131 => (some (t131 == 0))) else (some false))) else (some false)))) else (some false)) else (some false)) else (some false)) else (some false)) else (some false)) else (none)) else (some false)) else (none)) else (some false)) else (none)) else (some false))) = some r := H
  have A3 := Aside0.mk A30
  clear A30
  replace H := Option.bind_eq_some_iff.mp H
  obtain ⟨⟨t124, t125⟩, A40, H⟩ := H
  replace H : (if (t117.length : Int) = 3 then (if 0 < (t117.length : Int) then (if (rd t117 0) = 4352 then (if 1 < (t117.length : Int) then (if (rd t117 1) = 4449 then (if 2 < (t117.length : Int) then (if (rd t117 2) = 4520 then (if t121 = true then (if t120 = 44032 then (if t123 = true then (if t122 = 44033 then (if t125 = true then (some false) else ((hangul_Kind.f k t120).bind fun t129 => (if t129 = 4 then ((hangul_Kind.f k t122).bind fun t130 => (if t130 = 5 then ((hangul_Kind.f k 97).bind fun t131 => (some (t131 == 0))) else (some false))) else (some false)))) else (some false)) else (some false)) else (some false)) else (some false)) else (some false)) else (none)) else (some false)) else (none)) else (some false)) else (none)) else (some false)) = some r := H
  have A4 := Aside0.mk A40
  clear A40
  by_cases c5 : (t117.length : Int) = 3
  · rw [if_pos c5] at H
    have c5b0 : ((t117.length : Int) == 3) = true := beq_iff_eq.mpr c5
    have c5b1 : ((t117.length : Int) != 3) = false := bne_eq_false_iff_eq.mpr c5
    clear c5
    by_cases c6 : 0 < (t117.length : Int)
    · rw [if_pos c6] at H
      have c6b0 : decide (0 < (t117.length : Int)) = true := decide_eq_true c6
      have c6b1 : decide (0 < t117.length) = true := decide_eq_true (by omega)
      clear c6
      by_cases c7 : (rd t117 0) = 4352
      · rw [if_pos c7] at H
        have c7b0 : ((rd t117 0) == 4352) = true := beq_iff_eq.mpr c7
        have c7b1 : ((rd t117 0) != 4352) = false := bne_eq_false_iff_eq.mpr c7
        clear c7
        by_cases c8 : 1 < (t117.length : Int)
        · rw [if_pos c8] at H
          have c8b0 : decide (1 < (t117.length : Int)) = true := decide_eq_true c8
          have c8b1 : decide (1 < t117.length) = true := decide_eq_true (by omega)
          clear c8
          by_cases c9 : (rd t117 1) = 4449
          · rw [if_pos c9] at H
            have c9b0 : ((rd t117 1) == 4449) = true := beq_iff_eq.mpr c9
            have c9b1 : ((rd t117 1) != 4449) = false := bne_eq_false_iff_eq.mpr c9
            clear c9
            by_cases c10 : 2 < (t117.length : Int)
            · rw [if_pos c10] at H
              have c10b0 : decide (2 < (t117.length : Int)) = true := decide_eq_true c10
              have c10b1 : decide (2 < t117.length) = true := decide_eq_true (by omega)
              clear c10
              by_cases c11 : (rd t117 2) = 4520
              · rw [if_pos c11] at H
                have c11b0 : ((rd t117 2) == 4520) = true := beq_iff_eq.mpr c11
                have c11b1 : ((rd t117 2) != 4520) = false := bne_eq_false_iff_eq.mpr c11
                clear c11
                by_cases c12 : t121 = true
                · subst c12
                  have H1 : (if t120 = 44032 then (if t123 = true then (if t122 = 44033 then (if t125 = true then (some false) else ((hangul_Kind.f k t120).bind fun t129 => (if t129 = 4 then ((hangul_Kind.f k t122).bind fun t130 => (if t130 = 5 then ((hangul_Kind.f k 97).bind fun t131 => (some (t131 == 0))) else (some false))) else (some false)))) else (some false)) else (some false)) else (some false)) = some r := by rw [if_pos rfl] at H; exact H
                  clear H
                  have H := H1
                  clear H1
                  by_cases c13 : t120 = 44032
                  · rw [if_pos c13] at H
                    have c13b0 : (t120 == 44032) = true := beq_iff_eq.mpr c13
                    have c13b1 : (t120 != 44032) = false := bne_eq_false_iff_eq.mpr c13
                    clear c13
                    by_cases c14 : t123 = true
                    · subst c14
                      have H1 : (if t122 = 44033 then (if t125 = true then (some false) else ((hangul_Kind.f k t120).bind fun t129 => (if t129 = 4 then ((hangul_Kind.f k t122).bind fun t130 => (if t130 = 5 then ((hangul_Kind.f k 97).bind fun t131 => (some (t131 == 0))) else (some false))) else (some false)))) else (some false)) = some r := by rw [if_pos rfl] at H; exact H
                      clear H
                      have H := H1
                      clear H1
                      by_cases c15 : t122 = 44033
                      · rw [if_pos c15] at H
                        have c15b0 : (t122 == 44033) = true := beq_iff_eq.mpr c15
                        have c15b1 : (t122 != 44033) = false := bne_eq_false_iff_eq.mpr c15
                        clear c15
                        by_cases c16 : t125 = true
                        · subst c16
                          have H1 : (some false) = some r := by rw [if_pos rfl] at H; exact H
                          clear H
                          have H := H1
                          clear H1
                          obtain rfl := Option.some.inj H
                          go_enter Try.func13, Try.ntmps13
                          go_wp2_with (first | ((with_reducible refine gate_callee (f := 11) rfl ?_); refine goesL_ (some 8) rfl rfl Try.func11 (by kernel_rfl) rfl #[.int .i32 44033] rfl (by (try simp only [List.map_toArray, List.map_cons, List.map_nil]); first | done | rfl | (simp only [List.length_drop, List.length_take]; rfl)) ?_; (with_reducible refine (hangul_Split.calls k 44033 t117 _ A1.out).mono ?_); rintro e w17 ⟨v118, rfl, ho0, hb⟩; refine ⟨_, rfl, ?_⟩; have n0_ := Aside0.mk (Kd.R_lower ho0 (below_size (by repeat (first | (with_reducible first | exact HB.out | apply below_alloc | apply pw_below_drewN | apply below_drew1) | exact HB.out)))); have n1_ := Aside0.mk (below_step (by repeat (first | (with_reducible first | exact HB.out | apply below_alloc | apply pw_below_drewN | apply below_drew1) | exact HB.out)) hb); clear HB; have HO119 := n0_; have HB := n1_; clear n0_ n1_; (try clear hb); (try clear hb2); (try clear hk); (try clear hi); (try clear ho0)) | ((with_reducible refine gate_callee (f := 6) rfl ?_); refine goesL_ (some 10) rfl rfl Try.func6 (by kernel_rfl) rfl #[.int .i32 4352, .int .i32 4449] rfl (by (try simp only [List.map_toArray, List.map_cons, List.map_nil]); first | done | rfl | (simp only [List.length_drop, List.length_take]; rfl)) ?_; (with_reducible refine (hangul_Join.calls k 4352 4449 t120 true _ A2.out).mono ?_); rintro e w' ⟨rfl, ⟨nd, rfl⟩⟩; refine ⟨_, rfl, ?_⟩) | ((with_reducible refine gate_callee (f := 6) rfl ?_); refine goesL_ (some 15) rfl rfl Try.func6 (by kernel_rfl) rfl #[.int .i32 t120, .int .i32 4520] rfl (by (try simp only [List.map_toArray, List.map_cons, List.map_nil]); first | done | rfl | (simp only [List.length_drop, List.length_take]; rfl)) ?_; (with_reducible refine (hangul_Join.calls k t120 4520 t122 true _ A3.out).mono ?_); rintro e w' ⟨rfl, ⟨nd, rfl⟩⟩; refine ⟨_, rfl, ?_⟩) | ((with_reducible refine gate_callee (f := 6) rfl ?_); refine goesL_ (some 20) rfl rfl Try.func6 (by kernel_rfl) rfl #[.int .i32 t122, .int .i32 4520] rfl (by (try simp only [List.map_toArray, List.map_cons, List.map_nil]); first | done | rfl | (simp only [List.length_drop, List.length_take]; rfl)) ?_; (with_reducible refine (hangul_Join.calls k t122 4520 t124 true _ A4.out).mono ?_); rintro e w' ⟨rfl, ⟨nd, rfl⟩⟩; refine ⟨_, rfl, ?_⟩; obtain ⟨Ao18, co18, eo18⟩ := Kd.R_slice HO119.out; subst eo18; have p126 : 0 ≤ (0 : Int) := (by omega); have q126 : 0 < (t117.length : Int) := of_decide_eq_true (by first | (with_reducible assumption) | assumption); obtain ⟨ad126, e126, hx126_0⟩ := Kd.at_int (Kd.R_reads' HO119.out).2.2 0 p126 q126; cases e126; have qi126 : (0 < t117.length) = True := eq_true (by omega); (try rw [show ((0 : Int)).toNat = 0 from rfl] at hx126_0); (try rw [Addr.add_zero'] at hx126_0); replace p126 := eq_true p126; replace q126 := eq_true q126; have p127 : 0 ≤ (1 : Int) := (by omega); have q127 : 1 < (t117.length : Int) := of_decide_eq_true (by first | (with_reducible assumption) | assumption); obtain ⟨ad127, e127, hx127_0⟩ := Kd.at_int (Kd.R_reads' HO119.out).2.2 1 p127 q127; obtain rfl : ad126 = ad127 := (by injection e127); (try simp only [show (1 : Int).toNat = 1 from rfl, Nat.reduceMul, Nat.reduceEqDiff, Go.Addr.add, ↓reduceIte] at hx127_0); have qi127 : (1 < t117.length) = True := eq_true (by omega); (try rw [show ((1 : Int)).toNat = 1 from rfl] at hx127_0); replace p127 := eq_true p127; replace q127 := eq_true q127; have p128 : 0 ≤ (2 : Int) := (by omega); have q128 : 2 < (t117.length : Int) := of_decide_eq_true (by first | (with_reducible assumption) | assumption); obtain ⟨ad128, e128, hx128_0⟩ := Kd.at_int (Kd.R_reads' HO119.out).2.2 2 p128 q128; obtain rfl : ad126 = ad128 := (by injection e128); (try simp only [show (2 : Int).toNat = 2 from rfl, Nat.reduceMul, Nat.reduceEqDiff, Go.Addr.add, ↓reduceIte] at hx128_0); have qi128 : (2 < t117.length) = True := eq_true (by omega); (try rw [show ((2 : Int)).toNat = 2 from rfl] at hx128_0); replace p128 := eq_true p128; replace q128 := eq_true q128))
                          go_ret
                          exact ⟨by first | rfl | (simp [errW_none, errW_some] <;> rfl) | (simp [*, errW_none, errW_some] <;> rfl), by repeat (first | (with_reducible first | exact HB.out | apply below_alloc | apply pw_below_drewN | apply below_drew1) | exact HB.out)⟩
                        · replace c16 := Bool.eq_false_iff.mpr c16
                          subst c16
                          have H1 : ((hangul_Kind.f k t120).bind fun t129 => (if t129 = 4 then ((hangul_Kind.f k t122).bind fun t130 => (if t130 = 5 then ((hangul_Kind.f k 97).bind fun t131 => (some (t131 == 0))) else (some false))) else (some false))) = some r := by rw [if_neg (show ¬ (false = true) by decide)] at H; exact H
                          clear H
                          have H := H1
                          clear H1
                          replace H := Option.bind_eq_some_iff.mp H
                          obtain ⟨t129, A190, H⟩ := H
                          replace H : (if t129 = 4 then ((hangul_Kind.f k t122).bind fun t130 => (if t130 = 5 then ((hangul_Kind.f k 97).bind fun t131 => (some (t131 == 0))) else (some false))) else (some false)) = some r := H
                          have A19 := Aside0.mk A190
                          clear A190
                          by_cases c20 : t129 = 4
                          · rw [if_pos c20] at H
                            have c20b0 : (t129 == 4) = true := beq_iff_eq.mpr c20
                            have c20b1 : (t129 != 4) = false := bne_eq_false_iff_eq.mpr c20
                            clear c20
                            replace H := Option.bind_eq_some_iff.mp H
                            obtain ⟨t130, A210, H⟩ := H
                            replace H : (if t130 = 5 then ((hangul_Kind.f k 97).bind fun t131 => (some (t131 == 0))) else (some false)) = some r := H
                            have A21 := Aside0.mk A210
                            clear A210
                            by_cases c22 : t130 = 5
                            · rw [if_pos c22] at H
                              have c22b0 : (t130 == 5) = true := beq_iff_eq.mpr c22
                              have c22b1 : (t130 != 5) = false := bne_eq_false_iff_eq.mpr c22
                              clear c22
                              replace H := Option.bind_eq_some_iff.mp H
                              obtain ⟨t131, A230, H⟩ := H
                              replace H : (some (t131 == 0)) = some r := H
                              have A23 := Aside0.mk A230
                              clear A230
                              obtain rfl := Option.some.inj H
                              go_enter Try.func13, Try.ntmps13
                              go_wp2_with (first | ((with_reducible refine gate_callee (f := 11) rfl ?_); refine goesL_ (some 8) rfl rfl Try.func11 (by kernel_rfl) rfl #[.int .i32 44033] rfl (by (try simp only [List.map_toArray, List.map_cons, List.map_nil]); first | done | rfl | (simp only [List.length_drop, List.length_take]; rfl)) ?_; (with_reducible refine (hangul_Split.calls k 44033 t117 _ A1.out).mono ?_); rintro e w24 ⟨v118, rfl, ho0, hb⟩; refine ⟨_, rfl, ?_⟩; have n0_ := Aside0.mk (Kd.R_lower ho0 (below_size (by repeat (first | (with_reducible first | exact HB.out | apply below_alloc | apply pw_below_drewN | apply below_drew1) | exact HB.out)))); have n1_ := Aside0.mk (below_step (by repeat (first | (with_reducible first | exact HB.out | apply below_alloc | apply pw_below_drewN | apply below_drew1) | exact HB.out)) hb); clear HB; have HO119 := n0_; have HB := n1_; clear n0_ n1_; (try clear hb); (try clear hb2); (try clear hk); (try clear hi); (try clear ho0)) | ((with_reducible refine gate_callee (f := 6) rfl ?_); refine goesL_ (some 10) rfl rfl Try.func6 (by kernel_rfl) rfl #[.int .i32 4352, .int .i32 4449] rfl (by (try simp only [List.map_toArray, List.map_cons, List.map_nil]); first | done | rfl | (simp only [List.length_drop, List.length_take]; rfl)) ?_; (with_reducible refine (hangul_Join.calls k 4352 4449 t120 true _ A2.out).mono ?_); rintro e w' ⟨rfl, ⟨nd, rfl⟩⟩; refine ⟨_, rfl, ?_⟩) | ((with_reducible refine gate_callee (f := 6) rfl ?_); refine goesL_ (some 15) rfl rfl Try.func6 (by kernel_rfl) rfl #[.int .i32 t120, .int .i32 4520] rfl (by (try simp only [List.map_toArray, List.map_cons, List.map_nil]); first | done | rfl | (simp only [List.length_drop, List.length_take]; rfl)) ?_; (with_reducible refine (hangul_Join.calls k t120 4520 t122 true _ A3.out).mono ?_); rintro e w' ⟨rfl, ⟨nd, rfl⟩⟩; refine ⟨_, rfl, ?_⟩) | ((with_reducible refine gate_callee (f := 6) rfl ?_); refine goesL_ (some 20) rfl rfl Try.func6 (by kernel_rfl) rfl #[.int .i32 t122, .int .i32 4520] rfl (by (try simp only [List.map_toArray, List.map_cons, List.map_nil]); first | done | rfl | (simp only [List.length_drop, List.length_take]; rfl)) ?_; (with_reducible refine (hangul_Join.calls k t122 4520 t124 false _ A4.out).mono ?_); rintro e w' ⟨rfl, ⟨nd, rfl⟩⟩; refine ⟨_, rfl, ?_⟩; obtain ⟨Ao25, co25, eo25⟩ := Kd.R_slice HO119.out; subst eo25; have p126 : 0 ≤ (0 : Int) := (by omega); have q126 : 0 < (t117.length : Int) := of_decide_eq_true (by first | (with_reducible assumption) | assumption); obtain ⟨ad126, e126, hx126_0⟩ := Kd.at_int (Kd.R_reads' HO119.out).2.2 0 p126 q126; cases e126; have qi126 : (0 < t117.length) = True := eq_true (by omega); (try rw [show ((0 : Int)).toNat = 0 from rfl] at hx126_0); (try rw [Addr.add_zero'] at hx126_0); replace p126 := eq_true p126; replace q126 := eq_true q126; have p127 : 0 ≤ (1 : Int) := (by omega); have q127 : 1 < (t117.length : Int) := of_decide_eq_true (by first | (with_reducible assumption) | assumption); obtain ⟨ad127, e127, hx127_0⟩ := Kd.at_int (Kd.R_reads' HO119.out).2.2 1 p127 q127; obtain rfl : ad126 = ad127 := (by injection e127); (try simp only [show (1 : Int).toNat = 1 from rfl, Nat.reduceMul, Nat.reduceEqDiff, Go.Addr.add, ↓reduceIte] at hx127_0); have qi127 : (1 < t117.length) = True := eq_true (by omega); (try rw [show ((1 : Int)).toNat = 1 from rfl] at hx127_0); replace p127 := eq_true p127; replace q127 := eq_true q127; have p128 : 0 ≤ (2 : Int) := (by omega); have q128 : 2 < (t117.length : Int) := of_decide_eq_true (by first | (with_reducible assumption) | assumption); obtain ⟨ad128, e128, hx128_0⟩ := Kd.at_int (Kd.R_reads' HO119.out).2.2 2 p128 q128; obtain rfl : ad126 = ad128 := (by injection e128); (try simp only [show (2 : Int).toNat = 2 from rfl, Nat.reduceMul, Nat.reduceEqDiff, Go.Addr.add, ↓reduceIte] at hx128_0); have qi128 : (2 < t117.length) = True := eq_true (by omega); (try rw [show ((2 : Int)).toNat = 2 from rfl] at hx128_0); replace p128 := eq_true p128; replace q128 := eq_true q128) | (go_at_call 8; (with_reducible refine (hangul_Kind.calls k t120 t129 _ A19.out).mono ?_); rintro e w' ⟨rfl, ⟨nd, rfl⟩⟩) | (go_at_call 8; (with_reducible refine (hangul_Kind.calls k t122 t130 _ A21.out).mono ?_); rintro e w' ⟨rfl, ⟨nd, rfl⟩⟩) | (go_at_call 8; (with_reducible refine (hangul_Kind.calls k 97 t131 _ A23.out).mono ?_); rintro e w' ⟨rfl, ⟨nd, rfl⟩⟩))
                              go_ret
                              exact ⟨by first | rfl | (simp [errW_none, errW_some] <;> rfl) | (simp [*, errW_none, errW_some] <;> rfl), by repeat (first | (with_reducible first | exact HB.out | apply below_alloc | apply pw_below_drewN | apply below_drew1) | exact HB.out)⟩
                            · rw [if_neg c22] at H
                              have c22b0 : (t130 == 5) = false := beq_eq_false_iff_ne.mpr c22
                              have c22b1 : (t130 != 5) = true := bne_iff_ne.mpr c22
                              obtain rfl := Option.some.inj H
                              go_enter Try.func13, Try.ntmps13
                              go_wp2_with (first | ((with_reducible refine gate_callee (f := 11) rfl ?_); refine goesL_ (some 8) rfl rfl Try.func11 (by kernel_rfl) rfl #[.int .i32 44033] rfl (by (try simp only [List.map_toArray, List.map_cons, List.map_nil]); first | done | rfl | (simp only [List.length_drop, List.length_take]; rfl)) ?_; (with_reducible refine (hangul_Split.calls k 44033 t117 _ A1.out).mono ?_); rintro e w26 ⟨v118, rfl, ho0, hb⟩; refine ⟨_, rfl, ?_⟩; have n0_ := Aside0.mk (Kd.R_lower ho0 (below_size (by repeat (first | (with_reducible first | exact HB.out | apply below_alloc | apply pw_below_drewN | apply below_drew1) | exact HB.out)))); have n1_ := Aside0.mk (below_step (by repeat (first | (with_reducible first | exact HB.out | apply below_alloc | apply pw_below_drewN | apply below_drew1) | exact HB.out)) hb); clear HB; have HO119 := n0_; have HB := n1_; clear n0_ n1_; (try clear hb); (try clear hb2); (try clear hk); (try clear hi); (try clear ho0)) | ((with_reducible refine gate_callee (f := 6) rfl ?_); refine goesL_ (some 10) rfl rfl Try.func6 (by kernel_rfl) rfl #[.int .i32 4352, .int .i32 4449] rfl (by (try simp only [List.map_toArray, List.map_cons, List.map_nil]); first | done | rfl | (simp only [List.length_drop, List.length_take]; rfl)) ?_; (with_reducible refine (hangul_Join.calls k 4352 4449 t120 true _ A2.out).mono ?_); rintro e w' ⟨rfl, ⟨nd, rfl⟩⟩; refine ⟨_, rfl, ?_⟩) | ((with_reducible refine gate_callee (f := 6) rfl ?_); refine goesL_ (some 15) rfl rfl Try.func6 (by kernel_rfl) rfl #[.int .i32 t120, .int .i32 4520] rfl (by (try simp only [List.map_toArray, List.map_cons, List.map_nil]); first | done | rfl | (simp only [List.length_drop, List.length_take]; rfl)) ?_; (with_reducible refine (hangul_Join.calls k t120 4520 t122 true _ A3.out).mono ?_); rintro e w' ⟨rfl, ⟨nd, rfl⟩⟩; refine ⟨_, rfl, ?_⟩) | ((with_reducible refine gate_callee (f := 6) rfl ?_); refine goesL_ (some 20) rfl rfl Try.func6 (by kernel_rfl) rfl #[.int .i32 t122, .int .i32 4520] rfl (by (try simp only [List.map_toArray, List.map_cons, List.map_nil]); first | done | rfl | (simp only [List.length_drop, List.length_take]; rfl)) ?_; (with_reducible refine (hangul_Join.calls k t122 4520 t124 false _ A4.out).mono ?_); rintro e w' ⟨rfl, ⟨nd, rfl⟩⟩; refine ⟨_, rfl, ?_⟩; obtain ⟨Ao27, co27, eo27⟩ := Kd.R_slice HO119.out; subst eo27; have p126 : 0 ≤ (0 : Int) := (by omega); have q126 : 0 < (t117.length : Int) := of_decide_eq_true (by first | (with_reducible assumption) | assumption); obtain ⟨ad126, e126, hx126_0⟩ := Kd.at_int (Kd.R_reads' HO119.out).2.2 0 p126 q126; cases e126; have qi126 : (0 < t117.length) = True := eq_true (by omega); (try rw [show ((0 : Int)).toNat = 0 from rfl] at hx126_0); (try rw [Addr.add_zero'] at hx126_0); replace p126 := eq_true p126; replace q126 := eq_true q126; have p127 : 0 ≤ (1 : Int) := (by omega); have q127 : 1 < (t117.length : Int) := of_decide_eq_true (by first | (with_reducible assumption) | assumption); obtain ⟨ad127, e127, hx127_0⟩ := Kd.at_int (Kd.R_reads' HO119.out).2.2 1 p127 q127; obtain rfl : ad126 = ad127 := (by injection e127); (try simp only [show (1 : Int).toNat = 1 from rfl, Nat.reduceMul, Nat.reduceEqDiff, Go.Addr.add, ↓reduceIte] at hx127_0); have qi127 : (1 < t117.length) = True := eq_true (by omega); (try rw [show ((1 : Int)).toNat = 1 from rfl] at hx127_0); replace p127 := eq_true p127; replace q127 := eq_true q127; have p128 : 0 ≤ (2 : Int) := (by omega); have q128 : 2 < (t117.length : Int) := of_decide_eq_true (by first | (with_reducible assumption) | assumption); obtain ⟨ad128, e128, hx128_0⟩ := Kd.at_int (Kd.R_reads' HO119.out).2.2 2 p128 q128; obtain rfl : ad126 = ad128 := (by injection e128); (try simp only [show (2 : Int).toNat = 2 from rfl, Nat.reduceMul, Nat.reduceEqDiff, Go.Addr.add, ↓reduceIte] at hx128_0); have qi128 : (2 < t117.length) = True := eq_true (by omega); (try rw [show ((2 : Int)).toNat = 2 from rfl] at hx128_0); replace p128 := eq_true p128; replace q128 := eq_true q128) | (go_at_call 8; (with_reducible refine (hangul_Kind.calls k t120 t129 _ A19.out).mono ?_); rintro e w' ⟨rfl, ⟨nd, rfl⟩⟩) | (go_at_call 8; (with_reducible refine (hangul_Kind.calls k t122 t130 _ A21.out).mono ?_); rintro e w' ⟨rfl, ⟨nd, rfl⟩⟩))
                              go_ret
                              exact ⟨by first | rfl | (simp [errW_none, errW_some] <;> rfl) | (simp [*, errW_none, errW_some] <;> rfl), by repeat (first | (with_reducible first | exact HB.out | apply below_alloc | apply pw_below_drewN | apply below_drew1) | exact HB.out)⟩
                          · rw [if_neg c20] at H
                            have c20b0 : (t129 == 4) = false := beq_eq_false_iff_ne.mpr c20
                            have c20b1 : (t129 != 4) = true := bne_iff_ne.mpr c20
                            obtain rfl := Option.some.inj H
                            go_enter Try.func13, Try.ntmps13
                            go_wp2_with (first | ((with_reducible refine gate_callee (f := 11) rfl ?_); refine goesL_ (some 8) rfl rfl Try.func11 (by kernel_rfl) rfl #[.int .i32 44033] rfl (by (try simp only [List.map_toArray, List.map_cons, List.map_nil]); first | done | rfl | (simp only [List.length_drop, List.length_take]; rfl)) ?_; (with_reducible refine (hangul_Split.calls k 44033 t117 _ A1.out).mono ?_); rintro e w28 ⟨v118, rfl, ho0, hb⟩; refine ⟨_, rfl, ?_⟩; have n0_ := Aside0.mk (Kd.R_lower ho0 (below_size (by repeat (first | (with_reducible first | exact HB.out | apply below_alloc | apply pw_below_drewN | apply below_drew1) | exact HB.out)))); have n1_ := Aside0.mk (below_step (by repeat (first | (with_reducible first | exact HB.out | apply below_alloc | apply pw_below_drewN | apply below_drew1) | exact HB.out)) hb); clear HB; have HO119 := n0_; have HB := n1_; clear n0_ n1_; (try clear hb); (try clear hb2); (try clear hk); (try clear hi); (try clear ho0)) | ((with_reducible refine gate_callee (f := 6) rfl ?_); refine goesL_ (some 10) rfl rfl Try.func6 (by kernel_rfl) rfl #[.int .i32 4352, .int .i32 4449] rfl (by (try simp only [List.map_toArray, List.map_cons, List.map_nil]); first | done | rfl | (simp only [List.length_drop, List.length_take]; rfl)) ?_; (with_reducible refine (hangul_Join.calls k 4352 4449 t120 true _ A2.out).mono ?_); rintro e w' ⟨rfl, ⟨nd, rfl⟩⟩; refine ⟨_, rfl, ?_⟩) | ((with_reducible refine gate_callee (f := 6) rfl ?_); refine goesL_ (some 15) rfl rfl Try.func6 (by kernel_rfl) rfl #[.int .i32 t120, .int .i32 4520] rfl (by (try simp only [List.map_toArray, List.map_cons, List.map_nil]); first | done | rfl | (simp only [List.length_drop, List.length_take]; rfl)) ?_; (with_reducible refine (hangul_Join.calls k t120 4520 t122 true _ A3.out).mono ?_); rintro e w' ⟨rfl, ⟨nd, rfl⟩⟩; refine ⟨_, rfl, ?_⟩) | ((with_reducible refine gate_callee (f := 6) rfl ?_); refine goesL_ (some 20) rfl rfl Try.func6 (by kernel_rfl) rfl #[.int .i32 t122, .int .i32 4520] rfl (by (try simp only [List.map_toArray, List.map_cons, List.map_nil]); first | done | rfl | (simp only [List.length_drop, List.length_take]; rfl)) ?_; (with_reducible refine (hangul_Join.calls k t122 4520 t124 false _ A4.out).mono ?_); rintro e w' ⟨rfl, ⟨nd, rfl⟩⟩; refine ⟨_, rfl, ?_⟩; obtain ⟨Ao29, co29, eo29⟩ := Kd.R_slice HO119.out; subst eo29; have p126 : 0 ≤ (0 : Int) := (by omega); have q126 : 0 < (t117.length : Int) := of_decide_eq_true (by first | (with_reducible assumption) | assumption); obtain ⟨ad126, e126, hx126_0⟩ := Kd.at_int (Kd.R_reads' HO119.out).2.2 0 p126 q126; cases e126; have qi126 : (0 < t117.length) = True := eq_true (by omega); (try rw [show ((0 : Int)).toNat = 0 from rfl] at hx126_0); (try rw [Addr.add_zero'] at hx126_0); replace p126 := eq_true p126; replace q126 := eq_true q126; have p127 : 0 ≤ (1 : Int) := (by omega); have q127 : 1 < (t117.length : Int) := of_decide_eq_true (by first | (with_reducible assumption) | assumption); obtain ⟨ad127, e127, hx127_0⟩ := Kd.at_int (Kd.R_reads' HO119.out).2.2 1 p127 q127; obtain rfl : ad126 = ad127 := (by injection e127); (try simp only [show (1 : Int).toNat = 1 from rfl, Nat.reduceMul, Nat.reduceEqDiff, Go.Addr.add, ↓reduceIte] at hx127_0); have qi127 : (1 < t117.length) = True := eq_true (by omega); (try rw [show ((1 : Int)).toNat = 1 from rfl] at hx127_0); replace p127 := eq_true p127; replace q127 := eq_true q127; have p128 : 0 ≤ (2 : Int) := (by omega); have q128 : 2 < (t117.length : Int) := of_decide_eq_true (by first | (with_reducible assumption) | assumption); obtain ⟨ad128, e128, hx128_0⟩ := Kd.at_int (Kd.R_reads' HO119.out).2.2 2 p128 q128; obtain rfl : ad126 = ad128 := (by injection e128); (try simp only [show (2 : Int).toNat = 2 from rfl, Nat.reduceMul, Nat.reduceEqDiff, Go.Addr.add, ↓reduceIte] at hx128_0); have qi128 : (2 < t117.length) = True := eq_true (by omega); (try rw [show ((2 : Int)).toNat = 2 from rfl] at hx128_0); replace p128 := eq_true p128; replace q128 := eq_true q128) | (go_at_call 8; (with_reducible refine (hangul_Kind.calls k t120 t129 _ A19.out).mono ?_); rintro e w' ⟨rfl, ⟨nd, rfl⟩⟩))
                            go_ret
                            exact ⟨by first | rfl | (simp [errW_none, errW_some] <;> rfl) | (simp [*, errW_none, errW_some] <;> rfl), by repeat (first | (with_reducible first | exact HB.out | apply below_alloc | apply pw_below_drewN | apply below_drew1) | exact HB.out)⟩
                      · rw [if_neg c15] at H
                        have c15b0 : (t122 == 44033) = false := beq_eq_false_iff_ne.mpr c15
                        have c15b1 : (t122 != 44033) = true := bne_iff_ne.mpr c15
                        obtain rfl := Option.some.inj H
                        go_enter Try.func13, Try.ntmps13
                        go_wp2_with (first | ((with_reducible refine gate_callee (f := 11) rfl ?_); refine goesL_ (some 8) rfl rfl Try.func11 (by kernel_rfl) rfl #[.int .i32 44033] rfl (by (try simp only [List.map_toArray, List.map_cons, List.map_nil]); first | done | rfl | (simp only [List.length_drop, List.length_take]; rfl)) ?_; (with_reducible refine (hangul_Split.calls k 44033 t117 _ A1.out).mono ?_); rintro e w30 ⟨v118, rfl, ho0, hb⟩; refine ⟨_, rfl, ?_⟩; have n0_ := Aside0.mk (Kd.R_lower ho0 (below_size (by repeat (first | (with_reducible first | exact HB.out | apply below_alloc | apply pw_below_drewN | apply below_drew1) | exact HB.out)))); have n1_ := Aside0.mk (below_step (by repeat (first | (with_reducible first | exact HB.out | apply below_alloc | apply pw_below_drewN | apply below_drew1) | exact HB.out)) hb); clear HB; have HO119 := n0_; have HB := n1_; clear n0_ n1_; (try clear hb); (try clear hb2); (try clear hk); (try clear hi); (try clear ho0)) | ((with_reducible refine gate_callee (f := 6) rfl ?_); refine goesL_ (some 10) rfl rfl Try.func6 (by kernel_rfl) rfl #[.int .i32 4352, .int .i32 4449] rfl (by (try simp only [List.map_toArray, List.map_cons, List.map_nil]); first | done | rfl | (simp only [List.length_drop, List.length_take]; rfl)) ?_; (with_reducible refine (hangul_Join.calls k 4352 4449 t120 true _ A2.out).mono ?_); rintro e w' ⟨rfl, ⟨nd, rfl⟩⟩; refine ⟨_, rfl, ?_⟩) | ((with_reducible refine gate_callee (f := 6) rfl ?_); refine goesL_ (some 15) rfl rfl Try.func6 (by kernel_rfl) rfl #[.int .i32 t120, .int .i32 4520] rfl (by (try simp only [List.map_toArray, List.map_cons, List.map_nil]); first | done | rfl | (simp only [List.length_drop, List.length_take]; rfl)) ?_; (with_reducible refine (hangul_Join.calls k t120 4520 t122 true _ A3.out).mono ?_); rintro e w' ⟨rfl, ⟨nd, rfl⟩⟩; refine ⟨_, rfl, ?_⟩) | ((with_reducible refine gate_callee (f := 6) rfl ?_); refine goesL_ (some 20) rfl rfl Try.func6 (by kernel_rfl) rfl #[.int .i32 t122, .int .i32 4520] rfl (by (try simp only [List.map_toArray, List.map_cons, List.map_nil]); first | done | rfl | (simp only [List.length_drop, List.length_take]; rfl)) ?_; (with_reducible refine (hangul_Join.calls k t122 4520 t124 t125 _ A4.out).mono ?_); rintro e w' ⟨rfl, ⟨nd, rfl⟩⟩; refine ⟨_, rfl, ?_⟩; obtain ⟨Ao31, co31, eo31⟩ := Kd.R_slice HO119.out; subst eo31; have p126 : 0 ≤ (0 : Int) := (by omega); have q126 : 0 < (t117.length : Int) := of_decide_eq_true (by first | (with_reducible assumption) | assumption); obtain ⟨ad126, e126, hx126_0⟩ := Kd.at_int (Kd.R_reads' HO119.out).2.2 0 p126 q126; cases e126; have qi126 : (0 < t117.length) = True := eq_true (by omega); (try rw [show ((0 : Int)).toNat = 0 from rfl] at hx126_0); (try rw [Addr.add_zero'] at hx126_0); replace p126 := eq_true p126; replace q126 := eq_true q126; have p127 : 0 ≤ (1 : Int) := (by omega); have q127 : 1 < (t117.length : Int) := of_decide_eq_true (by first | (with_reducible assumption) | assumption); obtain ⟨ad127, e127, hx127_0⟩ := Kd.at_int (Kd.R_reads' HO119.out).2.2 1 p127 q127; obtain rfl : ad126 = ad127 := (by injection e127); (try simp only [show (1 : Int).toNat = 1 from rfl, Nat.reduceMul, Nat.reduceEqDiff, Go.Addr.add, ↓reduceIte] at hx127_0); have qi127 : (1 < t117.length) = True := eq_true (by omega); (try rw [show ((1 : Int)).toNat = 1 from rfl] at hx127_0); replace p127 := eq_true p127; replace q127 := eq_true q127; have p128 : 0 ≤ (2 : Int) := (by omega); have q128 : 2 < (t117.length : Int) := of_decide_eq_true (by first | (with_reducible assumption) | assumption); obtain ⟨ad128, e128, hx128_0⟩ := Kd.at_int (Kd.R_reads' HO119.out).2.2 2 p128 q128; obtain rfl : ad126 = ad128 := (by injection e128); (try simp only [show (2 : Int).toNat = 2 from rfl, Nat.reduceMul, Nat.reduceEqDiff, Go.Addr.add, ↓reduceIte] at hx128_0); have qi128 : (2 < t117.length) = True := eq_true (by omega); (try rw [show ((2 : Int)).toNat = 2 from rfl] at hx128_0); replace p128 := eq_true p128; replace q128 := eq_true q128))
                        go_ret
                        exact ⟨by first | rfl | (simp [errW_none, errW_some] <;> rfl) | (simp [*, errW_none, errW_some] <;> rfl), by repeat (first | (with_reducible first | exact HB.out | apply below_alloc | apply pw_below_drewN | apply below_drew1) | exact HB.out)⟩
                    · replace c14 := Bool.eq_false_iff.mpr c14
                      subst c14
                      have H1 : (some false) = some r := by rw [if_neg (show ¬ (false = true) by decide)] at H; exact H
                      clear H
                      have H := H1
                      clear H1
                      obtain rfl := Option.some.inj H
                      go_enter Try.func13, Try.ntmps13
                      go_wp2_with (first | ((with_reducible refine gate_callee (f := 11) rfl ?_); refine goesL_ (some 8) rfl rfl Try.func11 (by kernel_rfl) rfl #[.int .i32 44033] rfl (by (try simp only [List.map_toArray, List.map_cons, List.map_nil]); first | done | rfl | (simp only [List.length_drop, List.length_take]; rfl)) ?_; (with_reducible refine (hangul_Split.calls k 44033 t117 _ A1.out).mono ?_); rintro e w32 ⟨v118, rfl, ho0, hb⟩; refine ⟨_, rfl, ?_⟩; have n0_ := Aside0.mk (Kd.R_lower ho0 (below_size (by repeat (first | (with_reducible first | exact HB.out | apply below_alloc | apply pw_below_drewN | apply below_drew1) | exact HB.out)))); have n1_ := Aside0.mk (below_step (by repeat (first | (with_reducible first | exact HB.out | apply below_alloc | apply pw_below_drewN | apply below_drew1) | exact HB.out)) hb); clear HB; have HO119 := n0_; have HB := n1_; clear n0_ n1_; (try clear hb); (try clear hb2); (try clear hk); (try clear hi); (try clear ho0)) | ((with_reducible refine gate_callee (f := 6) rfl ?_); refine goesL_ (some 10) rfl rfl Try.func6 (by kernel_rfl) rfl #[.int .i32 4352, .int .i32 4449] rfl (by (try simp only [List.map_toArray, List.map_cons, List.map_nil]); first | done | rfl | (simp only [List.length_drop, List.length_take]; rfl)) ?_; (with_reducible refine (hangul_Join.calls k 4352 4449 t120 true _ A2.out).mono ?_); rintro e w' ⟨rfl, ⟨nd, rfl⟩⟩; refine ⟨_, rfl, ?_⟩) | ((with_reducible refine gate_callee (f := 6) rfl ?_); refine goesL_ (some 15) rfl rfl Try.func6 (by kernel_rfl) rfl #[.int .i32 t120, .int .i32 4520] rfl (by (try simp only [List.map_toArray, List.map_cons, List.map_nil]); first | done | rfl | (simp only [List.length_drop, List.length_take]; rfl)) ?_; (with_reducible refine (hangul_Join.calls k t120 4520 t122 false _ A3.out).mono ?_); rintro e w' ⟨rfl, ⟨nd, rfl⟩⟩; refine ⟨_, rfl, ?_⟩) | ((with_reducible refine gate_callee (f := 6) rfl ?_); refine goesL_ (some 20) rfl rfl Try.func6 (by kernel_rfl) rfl #[.int .i32 t122, .int .i32 4520] rfl (by (try simp only [List.map_toArray, List.map_cons, List.map_nil]); first | done | rfl | (simp only [List.length_drop, List.length_take]; rfl)) ?_; (with_reducible refine (hangul_Join.calls k t122 4520 t124 t125 _ A4.out).mono ?_); rintro e w' ⟨rfl, ⟨nd, rfl⟩⟩; refine ⟨_, rfl, ?_⟩; obtain ⟨Ao33, co33, eo33⟩ := Kd.R_slice HO119.out; subst eo33; have p126 : 0 ≤ (0 : Int) := (by omega); have q126 : 0 < (t117.length : Int) := of_decide_eq_true (by first | (with_reducible assumption) | assumption); obtain ⟨ad126, e126, hx126_0⟩ := Kd.at_int (Kd.R_reads' HO119.out).2.2 0 p126 q126; cases e126; have qi126 : (0 < t117.length) = True := eq_true (by omega); (try rw [show ((0 : Int)).toNat = 0 from rfl] at hx126_0); (try rw [Addr.add_zero'] at hx126_0); replace p126 := eq_true p126; replace q126 := eq_true q126; have p127 : 0 ≤ (1 : Int) := (by omega); have q127 : 1 < (t117.length : Int) := of_decide_eq_true (by first | (with_reducible assumption) | assumption); obtain ⟨ad127, e127, hx127_0⟩ := Kd.at_int (Kd.R_reads' HO119.out).2.2 1 p127 q127; obtain rfl : ad126 = ad127 := (by injection e127); (try simp only [show (1 : Int).toNat = 1 from rfl, Nat.reduceMul, Nat.reduceEqDiff, Go.Addr.add, ↓reduceIte] at hx127_0); have qi127 : (1 < t117.length) = True := eq_true (by omega); (try rw [show ((1 : Int)).toNat = 1 from rfl] at hx127_0); replace p127 := eq_true p127; replace q127 := eq_true q127; have p128 : 0 ≤ (2 : Int) := (by omega); have q128 : 2 < (t117.length : Int) := of_decide_eq_true (by first | (with_reducible assumption) | assumption); obtain ⟨ad128, e128, hx128_0⟩ := Kd.at_int (Kd.R_reads' HO119.out).2.2 2 p128 q128; obtain rfl : ad126 = ad128 := (by injection e128); (try simp only [show (2 : Int).toNat = 2 from rfl, Nat.reduceMul, Nat.reduceEqDiff, Go.Addr.add, ↓reduceIte] at hx128_0); have qi128 : (2 < t117.length) = True := eq_true (by omega); (try rw [show ((2 : Int)).toNat = 2 from rfl] at hx128_0); replace p128 := eq_true p128; replace q128 := eq_true q128))
                      go_ret
                      exact ⟨by first | rfl | (simp [errW_none, errW_some] <;> rfl) | (simp [*, errW_none, errW_some] <;> rfl), by repeat (first | (with_reducible first | exact HB.out | apply below_alloc | apply pw_below_drewN | apply below_drew1) | exact HB.out)⟩
                  · rw [if_neg c13] at H
                    have c13b0 : (t120 == 44032) = false := beq_eq_false_iff_ne.mpr c13
                    have c13b1 : (t120 != 44032) = true := bne_iff_ne.mpr c13
                    obtain rfl := Option.some.inj H
                    go_enter Try.func13, Try.ntmps13
                    go_wp2_with (first | ((with_reducible refine gate_callee (f := 11) rfl ?_); refine goesL_ (some 8) rfl rfl Try.func11 (by kernel_rfl) rfl #[.int .i32 44033] rfl (by (try simp only [List.map_toArray, List.map_cons, List.map_nil]); first | done | rfl | (simp only [List.length_drop, List.length_take]; rfl)) ?_; (with_reducible refine (hangul_Split.calls k 44033 t117 _ A1.out).mono ?_); rintro e w34 ⟨v118, rfl, ho0, hb⟩; refine ⟨_, rfl, ?_⟩; have n0_ := Aside0.mk (Kd.R_lower ho0 (below_size (by repeat (first | (with_reducible first | exact HB.out | apply below_alloc | apply pw_below_drewN | apply below_drew1) | exact HB.out)))); have n1_ := Aside0.mk (below_step (by repeat (first | (with_reducible first | exact HB.out | apply below_alloc | apply pw_below_drewN | apply below_drew1) | exact HB.out)) hb); clear HB; have HO119 := n0_; have HB := n1_; clear n0_ n1_; (try clear hb); (try clear hb2); (try clear hk); (try clear hi); (try clear ho0)) | ((with_reducible refine gate_callee (f := 6) rfl ?_); refine goesL_ (some 10) rfl rfl Try.func6 (by kernel_rfl) rfl #[.int .i32 4352, .int .i32 4449] rfl (by (try simp only [List.map_toArray, List.map_cons, List.map_nil]); first | done | rfl | (simp only [List.length_drop, List.length_take]; rfl)) ?_; (with_reducible refine (hangul_Join.calls k 4352 4449 t120 true _ A2.out).mono ?_); rintro e w' ⟨rfl, ⟨nd, rfl⟩⟩; refine ⟨_, rfl, ?_⟩) | ((with_reducible refine gate_callee (f := 6) rfl ?_); refine goesL_ (some 15) rfl rfl Try.func6 (by kernel_rfl) rfl #[.int .i32 t120, .int .i32 4520] rfl (by (try simp only [List.map_toArray, List.map_cons, List.map_nil]); first | done | rfl | (simp only [List.length_drop, List.length_take]; rfl)) ?_; (with_reducible refine (hangul_Join.calls k t120 4520 t122 t123 _ A3.out).mono ?_); rintro e w' ⟨rfl, ⟨nd, rfl⟩⟩; refine ⟨_, rfl, ?_⟩) | ((with_reducible refine gate_callee (f := 6) rfl ?_); refine goesL_ (some 20) rfl rfl Try.func6 (by kernel_rfl) rfl #[.int .i32 t122, .int .i32 4520] rfl (by (try simp only [List.map_toArray, List.map_cons, List.map_nil]); first | done | rfl | (simp only [List.length_drop, List.length_take]; rfl)) ?_; (with_reducible refine (hangul_Join.calls k t122 4520 t124 t125 _ A4.out).mono ?_); rintro e w' ⟨rfl, ⟨nd, rfl⟩⟩; refine ⟨_, rfl, ?_⟩; obtain ⟨Ao35, co35, eo35⟩ := Kd.R_slice HO119.out; subst eo35; have p126 : 0 ≤ (0 : Int) := (by omega); have q126 : 0 < (t117.length : Int) := of_decide_eq_true (by first | (with_reducible assumption) | assumption); obtain ⟨ad126, e126, hx126_0⟩ := Kd.at_int (Kd.R_reads' HO119.out).2.2 0 p126 q126; cases e126; have qi126 : (0 < t117.length) = True := eq_true (by omega); (try rw [show ((0 : Int)).toNat = 0 from rfl] at hx126_0); (try rw [Addr.add_zero'] at hx126_0); replace p126 := eq_true p126; replace q126 := eq_true q126; have p127 : 0 ≤ (1 : Int) := (by omega); have q127 : 1 < (t117.length : Int) := of_decide_eq_true (by first | (with_reducible assumption) | assumption); obtain ⟨ad127, e127, hx127_0⟩ := Kd.at_int (Kd.R_reads' HO119.out).2.2 1 p127 q127; obtain rfl : ad126 = ad127 := (by injection e127); (try simp only [show (1 : Int).toNat = 1 from rfl, Nat.reduceMul, Nat.reduceEqDiff, Go.Addr.add, ↓reduceIte] at hx127_0); have qi127 : (1 < t117.length) = True := eq_true (by omega); (try rw [show ((1 : Int)).toNat = 1 from rfl] at hx127_0); replace p127 := eq_true p127; replace q127 := eq_true q127; have p128 : 0 ≤ (2 : Int) := (by omega); have q128 : 2 < (t117.length : Int) := of_decide_eq_true (by first | (with_reducible assumption) | assumption); obtain ⟨ad128, e128, hx128_0⟩ := Kd.at_int (Kd.R_reads' HO119.out).2.2 2 p128 q128; obtain rfl : ad126 = ad128 := (by injection e128); (try simp only [show (2 : Int).toNat = 2 from rfl, Nat.reduceMul, Nat.reduceEqDiff, Go.Addr.add, ↓reduceIte] at hx128_0); have qi128 : (2 < t117.length) = True := eq_true (by omega); (try rw [show ((2 : Int)).toNat = 2 from rfl] at hx128_0); replace p128 := eq_true p128; replace q128 := eq_true q128))
                    go_ret
                    exact ⟨by first | rfl | (simp [errW_none, errW_some] <;> rfl) | (simp [*, errW_none, errW_some] <;> rfl), by repeat (first | (with_reducible first | exact HB.out | apply below_alloc | apply pw_below_drewN | apply below_drew1) | exact HB.out)⟩
                · replace c12 := Bool.eq_false_iff.mpr c12
                  subst c12
                  have H1 : (some false) = some r := by rw [if_neg (show ¬ (false = true) by decide)] at H; exact H
                  clear H
                  have H := H1
                  clear H1
                  obtain rfl := Option.some.inj H
                  go_enter Try.func13, Try.ntmps13
                  go_wp2_with (first | ((with_reducible refine gate_callee (f := 11) rfl ?_); refine goesL_ (some 8) rfl rfl Try.func11 (by kernel_rfl) rfl #[.int .i32 44033] rfl (by (try simp only [List.map_toArray, List.map_cons, List.map_nil]); first | done | rfl | (simp only [List.length_drop, List.length_take]; rfl)) ?_; (with_reducible refine (hangul_Split.calls k 44033 t117 _ A1.out).mono ?_); rintro e w36 ⟨v118, rfl, ho0, hb⟩; refine ⟨_, rfl, ?_⟩; have n0_ := Aside0.mk (Kd.R_lower ho0 (below_size (by repeat (first | (with_reducible first | exact HB.out | apply below_alloc | apply pw_below_drewN | apply below_drew1) | exact HB.out)))); have n1_ := Aside0.mk (below_step (by repeat (first | (with_reducible first | exact HB.out | apply below_alloc | apply pw_below_drewN | apply below_drew1) | exact HB.out)) hb); clear HB; have HO119 := n0_; have HB := n1_; clear n0_ n1_; (try clear hb); (try clear hb2); (try clear hk); (try clear hi); (try clear ho0)) | ((with_reducible refine gate_callee (f := 6) rfl ?_); refine goesL_ (some 10) rfl rfl Try.func6 (by kernel_rfl) rfl #[.int .i32 4352, .int .i32 4449] rfl (by (try simp only [List.map_toArray, List.map_cons, List.map_nil]); first | done | rfl | (simp only [List.length_drop, List.length_take]; rfl)) ?_; (with_reducible refine (hangul_Join.calls k 4352 4449 t120 false _ A2.out).mono ?_); rintro e w' ⟨rfl, ⟨nd, rfl⟩⟩; refine ⟨_, rfl, ?_⟩) | ((with_reducible refine gate_callee (f := 6) rfl ?_); refine goesL_ (some 15) rfl rfl Try.func6 (by kernel_rfl) rfl #[.int .i32 t120, .int .i32 4520] rfl (by (try simp only [List.map_toArray, List.map_cons, List.map_nil]); first | done | rfl | (simp only [List.length_drop, List.length_take]; rfl)) ?_; (with_reducible refine (hangul_Join.calls k t120 4520 t122 t123 _ A3.out).mono ?_); rintro e w' ⟨rfl, ⟨nd, rfl⟩⟩; refine ⟨_, rfl, ?_⟩) | ((with_reducible refine gate_callee (f := 6) rfl ?_); refine goesL_ (some 20) rfl rfl Try.func6 (by kernel_rfl) rfl #[.int .i32 t122, .int .i32 4520] rfl (by (try simp only [List.map_toArray, List.map_cons, List.map_nil]); first | done | rfl | (simp only [List.length_drop, List.length_take]; rfl)) ?_; (with_reducible refine (hangul_Join.calls k t122 4520 t124 t125 _ A4.out).mono ?_); rintro e w' ⟨rfl, ⟨nd, rfl⟩⟩; refine ⟨_, rfl, ?_⟩; obtain ⟨Ao37, co37, eo37⟩ := Kd.R_slice HO119.out; subst eo37; have p126 : 0 ≤ (0 : Int) := (by omega); have q126 : 0 < (t117.length : Int) := of_decide_eq_true (by first | (with_reducible assumption) | assumption); obtain ⟨ad126, e126, hx126_0⟩ := Kd.at_int (Kd.R_reads' HO119.out).2.2 0 p126 q126; cases e126; have qi126 : (0 < t117.length) = True := eq_true (by omega); (try rw [show ((0 : Int)).toNat = 0 from rfl] at hx126_0); (try rw [Addr.add_zero'] at hx126_0); replace p126 := eq_true p126; replace q126 := eq_true q126; have p127 : 0 ≤ (1 : Int) := (by omega); have q127 : 1 < (t117.length : Int) := of_decide_eq_true (by first | (with_reducible assumption) | assumption); obtain ⟨ad127, e127, hx127_0⟩ := Kd.at_int (Kd.R_reads' HO119.out).2.2 1 p127 q127; obtain rfl : ad126 = ad127 := (by injection e127); (try simp only [show (1 : Int).toNat = 1 from rfl, Nat.reduceMul, Nat.reduceEqDiff, Go.Addr.add, ↓reduceIte] at hx127_0); have qi127 : (1 < t117.length) = True := eq_true (by omega); (try rw [show ((1 : Int)).toNat = 1 from rfl] at hx127_0); replace p127 := eq_true p127; replace q127 := eq_true q127; have p128 : 0 ≤ (2 : Int) := (by omega); have q128 : 2 < (t117.length : Int) := of_decide_eq_true (by first | (with_reducible assumption) | assumption); obtain ⟨ad128, e128, hx128_0⟩ := Kd.at_int (Kd.R_reads' HO119.out).2.2 2 p128 q128; obtain rfl : ad126 = ad128 := (by injection e128); (try simp only [show (2 : Int).toNat = 2 from rfl, Nat.reduceMul, Nat.reduceEqDiff, Go.Addr.add, ↓reduceIte] at hx128_0); have qi128 : (2 < t117.length) = True := eq_true (by omega); (try rw [show ((2 : Int)).toNat = 2 from rfl] at hx128_0); replace p128 := eq_true p128; replace q128 := eq_true q128))
                  go_ret
                  exact ⟨by first | rfl | (simp [errW_none, errW_some] <;> rfl) | (simp [*, errW_none, errW_some] <;> rfl), by repeat (first | (with_reducible first | exact HB.out | apply below_alloc | apply pw_below_drewN | apply below_drew1) | exact HB.out)⟩
              · rw [if_neg c11] at H
                have c11b0 : ((rd t117 2) == 4520) = false := beq_eq_false_iff_ne.mpr c11
                have c11b1 : ((rd t117 2) != 4520) = true := bne_iff_ne.mpr c11
                obtain rfl := Option.some.inj H
                go_enter Try.func13, Try.ntmps13
                go_wp2_with (first | ((with_reducible refine gate_callee (f := 11) rfl ?_); refine goesL_ (some 8) rfl rfl Try.func11 (by kernel_rfl) rfl #[.int .i32 44033] rfl (by (try simp only [List.map_toArray, List.map_cons, List.map_nil]); first | done | rfl | (simp only [List.length_drop, List.length_take]; rfl)) ?_; (with_reducible refine (hangul_Split.calls k 44033 t117 _ A1.out).mono ?_); rintro e w38 ⟨v118, rfl, ho0, hb⟩; refine ⟨_, rfl, ?_⟩; have n0_ := Aside0.mk (Kd.R_lower ho0 (below_size (by repeat (first | (with_reducible first | exact HB.out | apply below_alloc | apply pw_below_drewN | apply below_drew1) | exact HB.out)))); have n1_ := Aside0.mk (below_step (by repeat (first | (with_reducible first | exact HB.out | apply below_alloc | apply pw_below_drewN | apply below_drew1) | exact HB.out)) hb); clear HB; have HO119 := n0_; have HB := n1_; clear n0_ n1_; (try clear hb); (try clear hb2); (try clear hk); (try clear hi); (try clear ho0)) | ((with_reducible refine gate_callee (f := 6) rfl ?_); refine goesL_ (some 10) rfl rfl Try.func6 (by kernel_rfl) rfl #[.int .i32 4352, .int .i32 4449] rfl (by (try simp only [List.map_toArray, List.map_cons, List.map_nil]); first | done | rfl | (simp only [List.length_drop, List.length_take]; rfl)) ?_; (with_reducible refine (hangul_Join.calls k 4352 4449 t120 t121 _ A2.out).mono ?_); rintro e w' ⟨rfl, ⟨nd, rfl⟩⟩; refine ⟨_, rfl, ?_⟩) | ((with_reducible refine gate_callee (f := 6) rfl ?_); refine goesL_ (some 15) rfl rfl Try.func6 (by kernel_rfl) rfl #[.int .i32 t120, .int .i32 4520] rfl (by (try simp only [List.map_toArray, List.map_cons, List.map_nil]); first | done | rfl | (simp only [List.length_drop, List.length_take]; rfl)) ?_; (with_reducible refine (hangul_Join.calls k t120 4520 t122 t123 _ A3.out).mono ?_); rintro e w' ⟨rfl, ⟨nd, rfl⟩⟩; refine ⟨_, rfl, ?_⟩) | ((with_reducible refine gate_callee (f := 6) rfl ?_); refine goesL_ (some 20) rfl rfl Try.func6 (by kernel_rfl) rfl #[.int .i32 t122, .int .i32 4520] rfl (by (try simp only [List.map_toArray, List.map_cons, List.map_nil]); first | done | rfl | (simp only [List.length_drop, List.length_take]; rfl)) ?_; (with_reducible refine (hangul_Join.calls k t122 4520 t124 t125 _ A4.out).mono ?_); rintro e w' ⟨rfl, ⟨nd, rfl⟩⟩; refine ⟨_, rfl, ?_⟩; obtain ⟨Ao39, co39, eo39⟩ := Kd.R_slice HO119.out; subst eo39; have p126 : 0 ≤ (0 : Int) := (by omega); have q126 : 0 < (t117.length : Int) := of_decide_eq_true (by first | (with_reducible assumption) | assumption); obtain ⟨ad126, e126, hx126_0⟩ := Kd.at_int (Kd.R_reads' HO119.out).2.2 0 p126 q126; cases e126; have qi126 : (0 < t117.length) = True := eq_true (by omega); (try rw [show ((0 : Int)).toNat = 0 from rfl] at hx126_0); (try rw [Addr.add_zero'] at hx126_0); replace p126 := eq_true p126; replace q126 := eq_true q126; have p127 : 0 ≤ (1 : Int) := (by omega); have q127 : 1 < (t117.length : Int) := of_decide_eq_true (by first | (with_reducible assumption) | assumption); obtain ⟨ad127, e127, hx127_0⟩ := Kd.at_int (Kd.R_reads' HO119.out).2.2 1 p127 q127; obtain rfl : ad126 = ad127 := (by injection e127); (try simp only [show (1 : Int).toNat = 1 from rfl, Nat.reduceMul, Nat.reduceEqDiff, Go.Addr.add, ↓reduceIte] at hx127_0); have qi127 : (1 < t117.length) = True := eq_true (by omega); (try rw [show ((1 : Int)).toNat = 1 from rfl] at hx127_0); replace p127 := eq_true p127; replace q127 := eq_true q127; have p128 : 0 ≤ (2 : Int) := (by omega); have q128 : 2 < (t117.length : Int) := of_decide_eq_true (by first | (with_reducible assumption) | assumption); obtain ⟨ad128, e128, hx128_0⟩ := Kd.at_int (Kd.R_reads' HO119.out).2.2 2 p128 q128; obtain rfl : ad126 = ad128 := (by injection e128); (try simp only [show (2 : Int).toNat = 2 from rfl, Nat.reduceMul, Nat.reduceEqDiff, Go.Addr.add, ↓reduceIte] at hx128_0); have qi128 : (2 < t117.length) = True := eq_true (by omega); (try rw [show ((2 : Int)).toNat = 2 from rfl] at hx128_0); replace p128 := eq_true p128; replace q128 := eq_true q128))
                go_ret
                exact ⟨by first | rfl | (simp [errW_none, errW_some] <;> rfl) | (simp [*, errW_none, errW_some] <;> rfl), by repeat (first | (with_reducible first | exact HB.out | apply below_alloc | apply pw_below_drewN | apply below_drew1) | exact HB.out)⟩
            · rw [if_neg c10] at H
              exact absurd H (by simp)
          · rw [if_neg c9] at H
            have c9b0 : ((rd t117 1) == 4449) = false := beq_eq_false_iff_ne.mpr c9
            have c9b1 : ((rd t117 1) != 4449) = true := bne_iff_ne.mpr c9
            obtain rfl := Option.some.inj H
            go_enter Try.func13, Try.ntmps13
            go_wp2_with (first | ((with_reducible refine gate_callee (f := 11) rfl ?_); refine goesL_ (some 8) rfl rfl Try.func11 (by kernel_rfl) rfl #[.int .i32 44033] rfl (by (try simp only [List.map_toArray, List.map_cons, List.map_nil]); first | done | rfl | (simp only [List.length_drop, List.length_take]; rfl)) ?_; (with_reducible refine (hangul_Split.calls k 44033 t117 _ A1.out).mono ?_); rintro e w40 ⟨v118, rfl, ho0, hb⟩; refine ⟨_, rfl, ?_⟩; have n0_ := Aside0.mk (Kd.R_lower ho0 (below_size (by repeat (first | (with_reducible first | exact HB.out | apply below_alloc | apply pw_below_drewN | apply below_drew1) | exact HB.out)))); have n1_ := Aside0.mk (below_step (by repeat (first | (with_reducible first | exact HB.out | apply below_alloc | apply pw_below_drewN | apply below_drew1) | exact HB.out)) hb); clear HB; have HO119 := n0_; have HB := n1_; clear n0_ n1_; (try clear hb); (try clear hb2); (try clear hk); (try clear hi); (try clear ho0)) | ((with_reducible refine gate_callee (f := 6) rfl ?_); refine goesL_ (some 10) rfl rfl Try.func6 (by kernel_rfl) rfl #[.int .i32 4352, .int .i32 4449] rfl (by (try simp only [List.map_toArray, List.map_cons, List.map_nil]); first | done | rfl | (simp only [List.length_drop, List.length_take]; rfl)) ?_; (with_reducible refine (hangul_Join.calls k 4352 4449 t120 t121 _ A2.out).mono ?_); rintro e w' ⟨rfl, ⟨nd, rfl⟩⟩; refine ⟨_, rfl, ?_⟩) | ((with_reducible refine gate_callee (f := 6) rfl ?_); refine goesL_ (some 15) rfl rfl Try.func6 (by kernel_rfl) rfl #[.int .i32 t120, .int .i32 4520] rfl (by (try simp only [List.map_toArray, List.map_cons, List.map_nil]); first | done | rfl | (simp only [List.length_drop, List.length_take]; rfl)) ?_; (with_reducible refine (hangul_Join.calls k t120 4520 t122 t123 _ A3.out).mono ?_); rintro e w' ⟨rfl, ⟨nd, rfl⟩⟩; refine ⟨_, rfl, ?_⟩) | ((with_reducible refine gate_callee (f := 6) rfl ?_); refine goesL_ (some 20) rfl rfl Try.func6 (by kernel_rfl) rfl #[.int .i32 t122, .int .i32 4520] rfl (by (try simp only [List.map_toArray, List.map_cons, List.map_nil]); first | done | rfl | (simp only [List.length_drop, List.length_take]; rfl)) ?_; (with_reducible refine (hangul_Join.calls k t122 4520 t124 t125 _ A4.out).mono ?_); rintro e w' ⟨rfl, ⟨nd, rfl⟩⟩; refine ⟨_, rfl, ?_⟩; obtain ⟨Ao41, co41, eo41⟩ := Kd.R_slice HO119.out; subst eo41; have p126 : 0 ≤ (0 : Int) := (by omega); have q126 : 0 < (t117.length : Int) := of_decide_eq_true (by first | (with_reducible assumption) | assumption); obtain ⟨ad126, e126, hx126_0⟩ := Kd.at_int (Kd.R_reads' HO119.out).2.2 0 p126 q126; cases e126; have qi126 : (0 < t117.length) = True := eq_true (by omega); (try rw [show ((0 : Int)).toNat = 0 from rfl] at hx126_0); (try rw [Addr.add_zero'] at hx126_0); replace p126 := eq_true p126; replace q126 := eq_true q126; have p127 : 0 ≤ (1 : Int) := (by omega); have q127 : 1 < (t117.length : Int) := of_decide_eq_true (by first | (with_reducible assumption) | assumption); obtain ⟨ad127, e127, hx127_0⟩ := Kd.at_int (Kd.R_reads' HO119.out).2.2 1 p127 q127; obtain rfl : ad126 = ad127 := (by injection e127); (try simp only [show (1 : Int).toNat = 1 from rfl, Nat.reduceMul, Nat.reduceEqDiff, Go.Addr.add, ↓reduceIte] at hx127_0); have qi127 : (1 < t117.length) = True := eq_true (by omega); (try rw [show ((1 : Int)).toNat = 1 from rfl] at hx127_0); replace p127 := eq_true p127; replace q127 := eq_true q127))
            go_ret
            exact ⟨by first | rfl | (simp [errW_none, errW_some] <;> rfl) | (simp [*, errW_none, errW_some] <;> rfl), by repeat (first | (with_reducible first | exact HB.out | apply below_alloc | apply pw_below_drewN | apply below_drew1) | exact HB.out)⟩
        · rw [if_neg c8] at H
          exact absurd H (by simp)
      · rw [if_neg c7] at H
        have c7b0 : ((rd t117 0) == 4352) = false := beq_eq_false_iff_ne.mpr c7
        have c7b1 : ((rd t117 0) != 4352) = true := bne_iff_ne.mpr c7
        obtain rfl := Option.some.inj H
        go_enter Try.func13, Try.ntmps13
        go_wp2_with (first | ((with_reducible refine gate_callee (f := 11) rfl ?_); refine goesL_ (some 8) rfl rfl Try.func11 (by kernel_rfl) rfl #[.int .i32 44033] rfl (by (try simp only [List.map_toArray, List.map_cons, List.map_nil]); first | done | rfl | (simp only [List.length_drop, List.length_take]; rfl)) ?_; (with_reducible refine (hangul_Split.calls k 44033 t117 _ A1.out).mono ?_); rintro e w42 ⟨v118, rfl, ho0, hb⟩; refine ⟨_, rfl, ?_⟩; have n0_ := Aside0.mk (Kd.R_lower ho0 (below_size (by repeat (first | (with_reducible first | exact HB.out | apply below_alloc | apply pw_below_drewN | apply below_drew1) | exact HB.out)))); have n1_ := Aside0.mk (below_step (by repeat (first | (with_reducible first | exact HB.out | apply below_alloc | apply pw_below_drewN | apply below_drew1) | exact HB.out)) hb); clear HB; have HO119 := n0_; have HB := n1_; clear n0_ n1_; (try clear hb); (try clear hb2); (try clear hk); (try clear hi); (try clear ho0)) | ((with_reducible refine gate_callee (f := 6) rfl ?_); refine goesL_ (some 10) rfl rfl Try.func6 (by kernel_rfl) rfl #[.int .i32 4352, .int .i32 4449] rfl (by (try simp only [List.map_toArray, List.map_cons, List.map_nil]); first | done | rfl | (simp only [List.length_drop, List.length_take]; rfl)) ?_; (with_reducible refine (hangul_Join.calls k 4352 4449 t120 t121 _ A2.out).mono ?_); rintro e w' ⟨rfl, ⟨nd, rfl⟩⟩; refine ⟨_, rfl, ?_⟩) | ((with_reducible refine gate_callee (f := 6) rfl ?_); refine goesL_ (some 15) rfl rfl Try.func6 (by kernel_rfl) rfl #[.int .i32 t120, .int .i32 4520] rfl (by (try simp only [List.map_toArray, List.map_cons, List.map_nil]); first | done | rfl | (simp only [List.length_drop, List.length_take]; rfl)) ?_; (with_reducible refine (hangul_Join.calls k t120 4520 t122 t123 _ A3.out).mono ?_); rintro e w' ⟨rfl, ⟨nd, rfl⟩⟩; refine ⟨_, rfl, ?_⟩) | ((with_reducible refine gate_callee (f := 6) rfl ?_); refine goesL_ (some 20) rfl rfl Try.func6 (by kernel_rfl) rfl #[.int .i32 t122, .int .i32 4520] rfl (by (try simp only [List.map_toArray, List.map_cons, List.map_nil]); first | done | rfl | (simp only [List.length_drop, List.length_take]; rfl)) ?_; (with_reducible refine (hangul_Join.calls k t122 4520 t124 t125 _ A4.out).mono ?_); rintro e w' ⟨rfl, ⟨nd, rfl⟩⟩; refine ⟨_, rfl, ?_⟩; obtain ⟨Ao43, co43, eo43⟩ := Kd.R_slice HO119.out; subst eo43; have p126 : 0 ≤ (0 : Int) := (by omega); have q126 : 0 < (t117.length : Int) := of_decide_eq_true (by first | (with_reducible assumption) | assumption); obtain ⟨ad126, e126, hx126_0⟩ := Kd.at_int (Kd.R_reads' HO119.out).2.2 0 p126 q126; cases e126; have qi126 : (0 < t117.length) = True := eq_true (by omega); (try rw [show ((0 : Int)).toNat = 0 from rfl] at hx126_0); (try rw [Addr.add_zero'] at hx126_0); replace p126 := eq_true p126; replace q126 := eq_true q126))
        go_ret
        exact ⟨by first | rfl | (simp [errW_none, errW_some] <;> rfl) | (simp [*, errW_none, errW_some] <;> rfl), by repeat (first | (with_reducible first | exact HB.out | apply below_alloc | apply pw_below_drewN | apply below_drew1) | exact HB.out)⟩
    · rw [if_neg c6] at H
      exact absurd H (by simp)
  · rw [if_neg c5] at H
    have c5b0 : ((t117.length : Int) == 3) = false := beq_eq_false_iff_ne.mpr c5
    have c5b1 : ((t117.length : Int) != 3) = true := bne_iff_ne.mpr c5
    obtain rfl := Option.some.inj H
    go_enter Try.func13, Try.ntmps13
    go_wp2_with (first | ((with_reducible refine gate_callee (f := 11) rfl ?_); refine goesL_ (some 8) rfl rfl Try.func11 (by kernel_rfl) rfl #[.int .i32 44033] rfl (by (try simp only [List.map_toArray, List.map_cons, List.map_nil]); first | done | rfl | (simp only [List.length_drop, List.length_take]; rfl)) ?_; (with_reducible refine (hangul_Split.calls k 44033 t117 _ A1.out).mono ?_); rintro e w44 ⟨v118, rfl, ho0, hb⟩; refine ⟨_, rfl, ?_⟩; have n0_ := Aside0.mk (Kd.R_lower ho0 (below_size (by repeat (first | (with_reducible first | exact HB.out | apply below_alloc | apply pw_below_drewN | apply below_drew1) | exact HB.out)))); have n1_ := Aside0.mk (below_step (by repeat (first | (with_reducible first | exact HB.out | apply below_alloc | apply pw_below_drewN | apply below_drew1) | exact HB.out)) hb); clear HB; have HO119 := n0_; have HB := n1_; clear n0_ n1_; (try clear hb); (try clear hb2); (try clear hk); (try clear hi); (try clear ho0)) | ((with_reducible refine gate_callee (f := 6) rfl ?_); refine goesL_ (some 10) rfl rfl Try.func6 (by kernel_rfl) rfl #[.int .i32 4352, .int .i32 4449] rfl (by (try simp only [List.map_toArray, List.map_cons, List.map_nil]); first | done | rfl | (simp only [List.length_drop, List.length_take]; rfl)) ?_; (with_reducible refine (hangul_Join.calls k 4352 4449 t120 t121 _ A2.out).mono ?_); rintro e w' ⟨rfl, ⟨nd, rfl⟩⟩; refine ⟨_, rfl, ?_⟩) | ((with_reducible refine gate_callee (f := 6) rfl ?_); refine goesL_ (some 15) rfl rfl Try.func6 (by kernel_rfl) rfl #[.int .i32 t120, .int .i32 4520] rfl (by (try simp only [List.map_toArray, List.map_cons, List.map_nil]); first | done | rfl | (simp only [List.length_drop, List.length_take]; rfl)) ?_; (with_reducible refine (hangul_Join.calls k t120 4520 t122 t123 _ A3.out).mono ?_); rintro e w' ⟨rfl, ⟨nd, rfl⟩⟩; refine ⟨_, rfl, ?_⟩) | ((with_reducible refine gate_callee (f := 6) rfl ?_); refine goesL_ (some 20) rfl rfl Try.func6 (by kernel_rfl) rfl #[.int .i32 t122, .int .i32 4520] rfl (by (try simp only [List.map_toArray, List.map_cons, List.map_nil]); first | done | rfl | (simp only [List.length_drop, List.length_take]; rfl)) ?_; (with_reducible refine (hangul_Join.calls k t122 4520 t124 t125 _ A4.out).mono ?_); rintro e w' ⟨rfl, ⟨nd, rfl⟩⟩; refine ⟨_, rfl, ?_⟩; obtain ⟨Ao45, co45, eo45⟩ := Kd.R_slice HO119.out; subst eo45))
    go_ret
    exact ⟨by first | rfl | (simp [errW_none, errW_some] <;> rfl) | (simp [*, errW_none, errW_some] <;> rfl), by repeat (first | (with_reducible first | exact HB.out | apply below_alloc | apply pw_below_drewN | apply below_drew1) | exact HB.out)⟩

/-! ### orthoepylaw00_Place: function 14 -/
def orthoepylaw00_Place.f (a0 : Int) (a1 : Int) : Option (Int) := if a1 = 0 then (none) else (if (Int.tmod a0 a1) < 0 then (some (wrap64 ((Int.tmod a0 a1) + a1))) else (some (Int.tmod a0 a1)))
set_option maxHeartbeats 8000000 in
set_option maxRecDepth 100000 in
theorem orthoepylaw00_Place.calls (a0 : Int) (a1 : Int) (r : Int) (w : World) (h : orthoepylaw00_Place.f a0 a1 = some r) :
    Calls Try.prog 14 #[.int .i64 a0, .int .i64 a1] w fun e w' => e = .returned (.int .i64 r) ∧ Drawn0 w w' := by
  have H : (if a1 = 0 then (none) else (if (Int.tmod a0 a1) < 0 then (some (wrap64 ((Int.tmod a0 a1) + a1))) else (some (Int.tmod a0 a1)))) = some r := h
  clear h
  by_cases c3 : a1 = 0
  · rw [if_pos c3] at H
    exact absurd H (by simp)
  · rw [if_neg c3] at H
    have c3b0 : (a1 == 0) = false := beq_eq_false_iff_ne.mpr c3
    have c3b1 : (a1 != 0) = true := bne_iff_ne.mpr c3
    by_cases c4 : (Int.tmod a0 a1) < 0
    · rw [if_pos c4] at H
      have c4b0 : decide ((Int.tmod a0 a1) < 0) = true := decide_eq_true c4
      clear c4
      obtain rfl := Option.some.inj H
      go_enter Try.func14, Try.ntmps14
      go_wp2
      go_ret
      exact ⟨by first | rfl | (simp; done) | (simp [*]; done), by repeat (first | exact Drawn0.refl _ | apply Drawn0.step)⟩
    · rw [if_neg c4] at H
      have c4b0 : decide ((Int.tmod a0 a1) < 0) = false := decide_eq_false c4
      clear c4
      obtain rfl := Option.some.inj H
      go_enter Try.func14, Try.ntmps14
      go_wp2
      go_ret
      exact ⟨by first | rfl | (simp; done) | (simp [*]; done), by repeat (first | exact Drawn0.refl _ | apply Drawn0.step)⟩

end Go.Proofs.Ytabgbcgllcopeaa.PHangulBack
