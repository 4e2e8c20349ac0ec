-- PRINTED BY print.sh 35421559b90ae4d0a3588c463048766b98c2df88dd9212a6774a882060cdf62d: not written by this session
import Derived.Test.YtabgbcgllcopeaaPHangulAllx0
namespace Go.Proofs.Ytabgbcgllcopeaa.PHangulAll
open Go.RowKit Go.Proofs.YtabgbcgllcopeaaW.PrintWords Go.Proofs.YtabgbcgllcopeaaW.PrintLast Go.Proofs.YtabgbcgllcopeaaW.PrintMore
attribute [local go_sem] max2_int min2_int max_two min_two max_three min_three max_four min_four   -- for this text's walks alone
set_option linter.unusedVariables false
set_option linter.unusedSimpArgs false

/-! ### hangul_in: function 16 -/
def hangul_in.f (a0 : Int) (a1 : Int) (a2 : Int) : Option (Bool) := if a0 ≥ a1 then (some (decide ((wrap32 (a0 - a1)) < a2))) else (some false)
set_option maxHeartbeats 8000000 in
set_option maxRecDepth 100000 in
theorem hangul_in.calls (a0 : Int) (a1 : Int) (a2 : Int) (r : Bool) (w : World) (h : hangul_in.f a0 a1 a2 = some r) :
    Calls Try.prog 16 #[.int .i32 a0, .int .i32 a1, .int .i32 a2] w fun e w' => e = .returned (.bool r) ∧ Drawn0 w w' := by
  have H : (if a0 ≥ a1 then (some (decide ((wrap32 (a0 - a1)) < a2))) else (some false)) = some r := h
  clear h
  by_cases c4 : a0 ≥ a1
  · rw [if_pos c4] at H
    have c4b0 : decide (a1 ≤ a0) = true := decide_eq_true c4
    clear c4
    obtain rfl := Option.some.inj H
    go_enter Try.func16, Try.ntmps16
    go_wp2
    go_ret
    exact ⟨by first | rfl | (simp; done) | (simp [*]; done), by repeat (first | exact Drawn0.refl _ | apply Drawn0.step)⟩
  · rw [if_neg c4] at H
    have c4b0 : decide (a1 ≤ a0) = false := decide_eq_false c4
    clear c4
    obtain rfl := Option.some.inj H
    go_enter Try.func16, Try.ntmps16
    go_wp2
    go_ret
    exact ⟨by first | rfl | (simp; done) | (simp [*]; done), by repeat (first | exact Drawn0.refl _ | apply Drawn0.step)⟩

/-! ### hangul_of: function 15 -/
def hangul_of.j0 : Nat → Int → Bool → Option (Int)
  | 0, _, _ => none
  | k + 1, x0, x12 => if x12 = true then (some 0) else (if (Int.tmod (wrap32 (x0 - 44032)) 28) = 0 then (some 4) else (some 5))
def hangul_of.f (k : Nat) (a0 : Int) : Option (Int) := (hangul_in.f a0 4352 19).bind fun t101 => (if t101 = true then (some 1) else ((hangul_in.f a0 4449 21).bind fun t102 => (if t102 = true then (some 2) else ((hangul_in.f a0 4520 27).bind fun t103 => (if t103 = true then (some 3) else (if a0 < 44032 then (hangul_of.j0 k a0 true) else (hangul_of.j0 k a0 (decide (a0 > 55203)))))))))
theorem hangul_of.mono_l : ∀ k, (∀ y0 y1, LeO (hangul_of.j0 k y0 y1) (hangul_of.j0 (k + 1) y0 y1))
  | 0 => fun _ _ r h => by simp [hangul_of.j0] at h
  | k + 1 => by
    have ih0 := hangul_of.mono_l k
    · intro y0 y1
      unfold hangul_of.j0
      repeat' first
      | (with_reducible exact ih0 _ _)
      | (with_reducible exact LeO.refl _)
      | (with_reducible exact LeO.none _)
      | (with_reducible refine LeO.ite ?_ ?_)
      | (with_reducible refine LeO.bind ?_ (fun _ => ?_))
      | exact ih0 _ _
      | exact LeO.none _
      | refine LeO.ite ?_ ?_
      | refine LeO.bind ?_ (fun _ => ?_)
theorem hangul_of.mono : ∀ a0 k, LeO (hangul_of.f k a0) (hangul_of.f (k + 1) a0) := by
  intro a0 k
  have ih0 := hangul_of.mono_l k
  unfold hangul_of.f
  repeat' first
      | (with_reducible exact ih0 _ _)
      | (with_reducible exact LeO.refl _)
      | (with_reducible exact LeO.none _)
      | (with_reducible refine LeO.ite ?_ ?_)
      | (with_reducible refine LeO.bind ?_ (fun _ => ?_))
      | exact ih0 _ _
      | exact LeO.none _
      | refine LeO.ite ?_ ?_
      | refine LeO.bind ?_ (fun _ => ?_)
set_option maxHeartbeats 8000000 in
set_option maxRecDepth 100000 in
theorem hangul_of.calls (k : Nat) (a0 : Int) (r : Int) (w : World) (h : hangul_of.f k a0 = some r) :
    Calls Try.prog 15 #[.int .i32 a0] w fun e w' => e = .returned (.int .i64 r) ∧ Drawn0 w w' := by
  have H : ((hangul_in.f a0 4352 19).bind fun t101 => (if t101 = true then (some 1) else ((hangul_in.f a0 4449 21).bind fun t102 => (if t102 = true then (some 2) else ((hangul_in.f a0 4520 27).bind fun t103 => (if t103 = true then (some 3) else (if a0 < 44032 then (hangul_of.j0 k a0 true) else (hangul_of.j0 k a0 (decide (a0 > 55203)))))))))) = some r := h
  clear h
  replace H := Option.bind_eq_some_iff.mp H
  obtain ⟨t101, A20, H⟩ := H
  replace H : (if t101 = true then (some 1) else ((hangul_in.f a0 4449 21).bind fun t102 => (if t102 = true then (some 2) else ((hangul_in.f a0 4520 27).bind fun t103 => (if t103 = true then (some 3) else (if a0 < 44032 then (hangul_of.j0 k a0 true) else (hangul_of.j0 k a0 (decide (a0 > 55203))))))))) = some r := H
  have A2 := Aside0.mk A20
  clear A20
  by_cases c3 : t101 = true
  · subst c3
    have H1 : (some 1) = some r := by rw [if_pos rfl] at H; exact H
    clear H
    have H := H1
    clear H1
    obtain rfl := Option.some.inj H
    go_enter Try.func15, Try.ntmps15
    go_wp2_with (first | ((with_reducible refine gate_callee (f := 16) rfl ?_); refine goesL_ (some 5) rfl rfl Try.func16 (by kernel_rfl) rfl #[.int .i32 a0, .int .i32 4352, .int .i32 19] rfl (by (try simp only [List.map_toArray, List.map_cons, List.map_nil]); first | done | rfl | (simp only [List.length_drop, List.length_take]; rfl)) ?_; (with_reducible refine (hangul_in.calls a0 4352 19 true _ A2.out).mono ?_); rintro e w' ⟨rfl, ⟨nd, rfl⟩⟩; refine ⟨_, rfl, ?_⟩))
    go_ret
    exact ⟨by first | rfl | (simp; done) | (simp [*]; done), by repeat (first | exact Drawn0.refl _ | apply Drawn0.step)⟩
  · replace c3 := Bool.eq_false_iff.mpr c3
    subst c3
    have H1 : ((hangul_in.f a0 4449 21).bind fun t102 => (if t102 = true then (some 2) else ((hangul_in.f a0 4520 27).bind fun t103 => (if t103 = true then (some 3) else (if a0 < 44032 then (hangul_of.j0 k a0 true) else (hangul_of.j0 k a0 (decide (a0 > 55203)))))))) = some r := by rw [if_neg (show ¬ (false = true) by decide)] at H; exact H
    clear H
    have H := H1
    clear H1
    replace H := Option.bind_eq_some_iff.mp H
    obtain ⟨t102, A40, H⟩ := H
    replace H : (if t102 = true then (some 2) else ((hangul_in.f a0 4520 27).bind fun t103 => (if t103 = true then (some 3) else (if a0 < 44032 then (hangul_of.j0 k a0 true) else (hangul_of.j0 k a0 (decide (a0 > 55203))))))) = some r := H
    have A4 := Aside0.mk A40
    clear A40
    by_cases c5 : t102 = true
    · subst c5
      have H1 : (some 2) = some r := by rw [if_pos rfl] at H; exact H
      clear H
      have H := H1
      clear H1
      obtain rfl := Option.some.inj H
      go_enter Try.func15, Try.ntmps15
      go_wp2_with (first | ((with_reducible refine gate_callee (f := 16) rfl ?_); refine goesL_ (some 5) rfl rfl Try.func16 (by kernel_rfl) rfl #[.int .i32 a0, .int .i32 4352, .int .i32 19] rfl (by (try simp only [List.map_toArray, List.map_cons, List.map_nil]); first | done | rfl | (simp only [List.length_drop, List.length_take]; rfl)) ?_; (with_reducible refine (hangul_in.calls a0 4352 19 false _ A2.out).mono ?_); rintro e w' ⟨rfl, ⟨nd, rfl⟩⟩; refine ⟨_, rfl, ?_⟩) | ((with_reducible refine gate_callee (f := 16) rfl ?_); refine goesL_ (some 8) rfl rfl Try.func16 (by kernel_rfl) rfl #[.int .i32 a0, .int .i32 4449, .int .i32 21] rfl (by (try simp only [List.map_toArray, List.map_cons, List.map_nil]); first | done | rfl | (simp only [List.length_drop, List.length_take]; rfl)) ?_; (with_reducible refine (hangul_in.calls a0 4449 21 true _ A4.out).mono ?_); rintro e w' ⟨rfl, ⟨nd, rfl⟩⟩; refine ⟨_, rfl, ?_⟩))
      go_ret
      exact ⟨by first | rfl | (simp; done) | (simp [*]; done), by repeat (first | exact Drawn0.refl _ | apply Drawn0.step)⟩
    · replace c5 := Bool.eq_false_iff.mpr c5
      subst c5
      have H1 : ((hangul_in.f a0 4520 27).bind fun t103 => (if t103 = true then (some 3) else (if a0 < 44032 then (hangul_of.j0 k a0 true) else (hangul_of.j0 k a0 (decide (a0 > 55203)))))) = some r := by rw [if_neg (show ¬ (false = true) by decide)] at H; exact H
      clear H
      have H := H1
      clear H1
      replace H := Option.bind_eq_some_iff.mp H
      obtain ⟨t103, A60, H⟩ := H
      replace H : (if t103 = true then (some 3) else (if a0 < 44032 then (hangul_of.j0 k a0 true) else (hangul_of.j0 k a0 (decide (a0 > 55203))))) = some r := H
      have A6 := Aside0.mk A60
      clear A60
      by_cases c7 : t103 = true
      · subst c7
        have H1 : (some 3) = some r := by rw [if_pos rfl] at H; exact H
        clear H
        have H := H1
        clear H1
        obtain rfl := Option.some.inj H
        go_enter Try.func15, Try.ntmps15
        go_wp2_with (first | ((with_reducible refine gate_callee (f := 16) rfl ?_); refine goesL_ (some 5) rfl rfl Try.func16 (by kernel_rfl) rfl #[.int .i32 a0, .int .i32 4352, .int .i32 19] rfl (by (try simp only [List.map_toArray, List.map_cons, List.map_nil]); first | done | rfl | (simp only [List.length_drop, List.length_take]; rfl)) ?_; (with_reducible refine (hangul_in.calls a0 4352 19 false _ A2.out).mono ?_); rintro e w' ⟨rfl, ⟨nd, rfl⟩⟩; refine ⟨_, rfl, ?_⟩) | ((with_reducible refine gate_callee (f := 16) rfl ?_); refine goesL_ (some 8) rfl rfl Try.func16 (by kernel_rfl) rfl #[.int .i32 a0, .int .i32 4449, .int .i32 21] rfl (by (try simp only [List.map_toArray, List.map_cons, List.map_nil]); first | done | rfl | (simp only [List.length_drop, List.length_take]; rfl)) ?_; (with_reducible refine (hangul_in.calls a0 4449 21 false _ A4.out).mono ?_); rintro e w' ⟨rfl, ⟨nd, rfl⟩⟩; refine ⟨_, rfl, ?_⟩) | ((with_reducible refine gate_callee (f := 16) rfl ?_); refine goesL_ (some 11) rfl rfl Try.func16 (by kernel_rfl) rfl #[.int .i32 a0, .int .i32 4520, .int .i32 27] rfl (by (try simp only [List.map_toArray, List.map_cons, List.map_nil]); first | done | rfl | (simp only [List.length_drop, List.length_take]; rfl)) ?_; (with_reducible refine (hangul_in.calls a0 4520 27 true _ A6.out).mono ?_); rintro e w' ⟨rfl, ⟨nd, rfl⟩⟩; refine ⟨_, rfl, ?_⟩))
        go_ret
        exact ⟨by first | rfl | (simp; done) | (simp [*]; done), by repeat (first | exact Drawn0.refl _ | apply Drawn0.step)⟩
      · replace c7 := Bool.eq_false_iff.mpr c7
        subst c7
        have H1 : (if a0 < 44032 then (hangul_of.j0 k a0 true) else (hangul_of.j0 k a0 (decide (a0 > 55203)))) = some r := by rw [if_neg (show ¬ (false = true) by decide)] at H; exact H
        clear H
        have H := H1
        clear H1
        have HC8 := Aside0.mk H
        clear H
        go_enter Try.func15, Try.ntmps15
        go_upto_region 7 with (first | ((with_reducible refine gate_callee (f := 16) rfl ?_); refine goesL_ (some 5) rfl rfl Try.func16 (by kernel_rfl) rfl #[.int .i32 a0, .int .i32 4352, .int .i32 19] rfl (by (try simp only [List.map_toArray, List.map_cons, List.map_nil]); first | done | rfl | (simp only [List.length_drop, List.length_take]; rfl)) ?_; (with_reducible refine (hangul_in.calls a0 4352 19 false _ A2.out).mono ?_); rintro e w' ⟨rfl, ⟨nd, rfl⟩⟩; refine ⟨_, rfl, ?_⟩) | ((with_reducible refine gate_callee (f := 16) rfl ?_); refine goesL_ (some 8) rfl rfl Try.func16 (by kernel_rfl) rfl #[.int .i32 a0, .int .i32 4449, .int .i32 21] rfl (by (try simp only [List.map_toArray, List.map_cons, List.map_nil]); first | done | rfl | (simp only [List.length_drop, List.length_take]; rfl)) ?_; (with_reducible refine (hangul_in.calls a0 4449 21 false _ A4.out).mono ?_); rintro e w' ⟨rfl, ⟨nd, rfl⟩⟩; refine ⟨_, rfl, ?_⟩) | ((with_reducible refine gate_callee (f := 16) rfl ?_); refine goesL_ (some 11) rfl rfl Try.func16 (by kernel_rfl) rfl #[.int .i32 a0, .int .i32 4520, .int .i32 27] rfl (by (try simp only [List.map_toArray, List.map_cons, List.map_nil]); first | done | rfl | (simp only [List.length_drop, List.length_take]; rfl)) ?_; (with_reducible refine (hangul_in.calls a0 4520 27 false _ A6.out).mono ?_); rintro e w' ⟨rfl, ⟨nd, rfl⟩⟩; refine ⟨_, rfl, ?_⟩))
        (try simp only [Act.put, List.setIfInBounds_toArray, List.set_cons_zero, List.set_cons_succ])
        go_cut [12] (fun v12 wc => ∃ (kq : Nat) (x12_7 : Bool), v12 = .bool x12_7 ∧ Aside0 (hangul_of.j0 kq a0 x12_7 = some r) ∧ Aside0 (kq ≤ k) ∧ Drawn0 w wc)
        case first =>
          have H := HC8.out
          clear HC8
          by_cases c9 : a0 < 44032
          · rw [if_pos c9] at H
            have c9b0 : decide (a0 < 44032) = true := decide_eq_true c9
            clear c9
            (first | rw [c9b0] | (simp only [i64_w, i32_w]; rw [c9b0]) | skip)
            have H' := Aside0.mk H
            clear H
            go_wp2
            go_meet
            case rel => exact ⟨_, (true), (by first | rfl | (simp; done) | (simp [*]; done)), H', ⟨by first | omega | exact Nat.le_refl _⟩, by repeat (first | exact Drawn0.refl _ | apply Drawn0.step)⟩
          · rw [if_neg c9] at H
            have c9b0 : decide (a0 < 44032) = false := decide_eq_false c9
            clear c9
            (first | rw [c9b0] | (simp only [i64_w, i32_w]; rw [c9b0]) | skip)
            have H' := Aside0.mk H
            clear H
            go_wp2
            go_meet
            case rel => exact ⟨_, (decide (a0 > 55203)), (by first | rfl | (simp; done) | (simp [*]; done)), H', ⟨by first | omega | exact Nat.le_refl _⟩, by repeat (first | exact Drawn0.refl _ | apply Drawn0.step)⟩
        case rest =>
          clear HC8
          try clear c1
          try clear p2
          try clear c3
          try clear c5
          try clear c7
          try clear c9
          try clear c9b0
          obtain ⟨kq, x12_7, rfl, HA, HJ7, ⟨mc7, rfl⟩⟩ := hcut
          cases kq with
          | zero => exact absurd HA.out (by simp [hangul_of.j0])
          | succ kj7 =>
            have H := HA.out
            clear HA
            simp only [hangul_of.j0] at H
            by_cases c10 : x12_7 = true
            · subst c10
              have H1 : (some 0) = some r := by rw [if_pos rfl] at H; exact H
              clear H
              have H := H1
              clear H1
              obtain rfl := Option.some.inj H
              go_wp2
              go_ret
              exact ⟨by first | rfl | (simp; done) | (simp [*]; done), by repeat (first | exact Drawn0.refl _ | apply Drawn0.step)⟩
            · replace c10 := Bool.eq_false_iff.mpr c10
              subst c10
              have H1 : (if (Int.tmod (wrap32 (a0 - 44032)) 28) = 0 then (some 4) else (some 5)) = some r := by rw [if_neg (show ¬ (false = true) by decide)] at H; exact H
              clear H
              have H := H1
              clear H1
              by_cases c11 : (Int.tmod (wrap32 (a0 - 44032)) 28) = 0
              · rw [if_pos c11] at H
                have c11b0 : ((Int.tmod (wrap32 (a0 - 44032)) 28) == 0) = true := beq_iff_eq.mpr c11
                have c11b1 : ((Int.tmod (wrap32 (a0 - 44032)) 28) != 0) = false := bne_eq_false_iff_eq.mpr c11
                clear c11
                obtain rfl := Option.some.inj H
                go_wp2
                go_ret
                exact ⟨by first | rfl | (simp; done) | (simp [*]; done), by repeat (first | exact Drawn0.refl _ | apply Drawn0.step)⟩
              · rw [if_neg c11] at H
                have c11b0 : ((Int.tmod (wrap32 (a0 - 44032)) 28) == 0) = false := beq_eq_false_iff_ne.mpr c11
                have c11b1 : ((Int.tmod (wrap32 (a0 - 44032)) 28) != 0) = true := bne_iff_ne.mpr c11
                obtain rfl := Option.some.inj H
                go_wp2
                go_ret
                exact ⟨by first | rfl | (simp; done) | (simp [*]; done), by repeat (first | exact Drawn0.refl _ | apply Drawn0.step)⟩

/-! ### hangul_Join: function 6 -/
def hangul_Join.j0 : Nat → Int → Int → Int → Int → Bool → Option (Int × Bool)
  | 0, _, _, _, _, _ => none
  | k + 1, x0, x1, x6, x7, x12 => if x12 = true then (some (wrap32 ((wrap32 (44032 + (wrap32 ((wrap32 (x0 - 4352)) * 588)))) + (wrap32 ((wrap32 (x1 - 4449)) * 28))), true)) else (if x6 = 4 then (if x7 = 3 then (some (wrap32 ((wrap32 (x0 + x1)) - 4519), true)) else (some (0, false))) else (some (0, false)))
def hangul_Join.f (k : Nat) (a0 : Int) (a1 : Int) : Option (Int × Bool) := (hangul_of.f k a0).bind fun t104 => ((hangul_of.f k a1).bind fun t105 => (if t104 = 1 then (hangul_Join.j0 k a0 a1 t104 t105 (t105 == 2)) else (hangul_Join.j0 k a0 a1 t104 t105 false)))
theorem hangul_Join.mono_l : ∀ k, (∀ y0 y1 y2 y3 y4, LeO (hangul_Join.j0 k y0 y1 y2 y3 y4) (hangul_Join.j0 (k + 1) y0 y1 y2 y3 y4))
  | 0 => fun _ _ _ _ _ r h => by simp [hangul_Join.j0] at h
  | k + 1 => by
    have ih0 := hangul_Join.mono_l k
    · intro y0 y1 y2 y3 y4
      unfold hangul_Join.j0
      repeat' first
      | (with_reducible exact ih0 _ _ _ _ _)
      | (with_reducible exact hangul_of.mono _ _)
      | (with_reducible exact LeO.refl _)
      | (with_reducible exact LeO.none _)
      | (with_reducible refine LeO.ite ?_ ?_)
      | (with_reducible refine LeO.bind ?_ (fun _ => ?_))
      | exact ih0 _ _ _ _ _
      | exact hangul_of.mono _ _
      | exact LeO.none _
      | refine LeO.ite ?_ ?_
      | refine LeO.bind ?_ (fun _ => ?_)
theorem hangul_Join.mono : ∀ a0 a1 k, LeO (hangul_Join.f k a0 a1) (hangul_Join.f (k + 1) a0 a1) := by
  intro a0 a1 k
  have ih0 := hangul_Join.mono_l k
  unfold hangul_Join.f
  repeat' first
      | (with_reducible exact ih0 _ _ _ _ _)
      | (with_reducible exact hangul_of.mono _ _)
      | (with_reducible exact LeO.refl _)
      | (with_reducible exact LeO.none _)
      | (with_reducible refine LeO.ite ?_ ?_)
      | (with_reducible refine LeO.bind ?_ (fun _ => ?_))
      | exact ih0 _ _ _ _ _
      | exact hangul_of.mono _ _
      | exact LeO.none _
      | refine LeO.ite ?_ ?_
      | refine LeO.bind ?_ (fun _ => ?_)
set_option maxHeartbeats 8000000 in
set_option maxRecDepth 100000 in
theorem hangul_Join.calls (k : Nat) (a0 : Int) (a1 : Int) (r1 : Int) (r2 : Bool) (w : World) (h : hangul_Join.f k a0 a1 = some (r1, r2)) :
    Calls Try.prog 6 #[.int .i32 a0, .int .i32 a1] w fun e w' => e = .returned (.tuple #[.int .i32 r1, .bool r2]) ∧ Drawn0 w w' := by
  have H : ((hangul_of.f k a0).bind fun t104 => ((hangul_of.f k a1).bind fun t105 => (if t104 = 1 then (hangul_Join.j0 k a0 a1 t104 t105 (t105 == 2)) else (hangul_Join.j0 k a0 a1 t104 t105 false)))) = some (r1, r2) := h
  clear h
  replace H := Option.bind_eq_some_iff.mp H
  obtain ⟨t104, A30, H⟩ := H
  replace H : ((hangul_of.f k a1).bind fun t105 => (if t104 = 1 then (hangul_Join.j0 k a0 a1 t104 t105 (t105 == 2)) else (hangul_Join.j0 k a0 a1 t104 t105 false))) = some (r1, r2) := H
  have A3 := Aside0.mk A30
  clear A30
  replace H := Option.bind_eq_some_iff.mp H
  obtain ⟨t105, A40, H⟩ := H
  replace H : (if t104 = 1 then (hangul_Join.j0 k a0 a1 t104 t105 (t105 == 2)) else (hangul_Join.j0 k a0 a1 t104 t105 false)) = some (r1, r2) := H
  have A4 := Aside0.mk A40
  clear A40
  have HC5 := Aside0.mk H
  clear H
  go_enter Try.func6, Try.ntmps6
  go_upto_region 2 with (first | ((with_reducible refine gate_callee (f := 15) rfl ?_); refine goesL_ (some 9) rfl rfl Try.func15 (by kernel_rfl) rfl #[.int .i32 a0] rfl (by (try simp only [List.map_toArray, List.map_cons, List.map_nil]); first | done | rfl | (simp only [List.length_drop, List.length_take]; rfl)) ?_; (with_reducible refine (hangul_of.calls k a0 t104 _ A3.out).mono ?_); rintro e w' ⟨rfl, ⟨nd, rfl⟩⟩; refine ⟨_, rfl, ?_⟩) | ((with_reducible refine gate_callee (f := 15) rfl ?_); refine goesL_ (some 11) rfl rfl Try.func15 (by kernel_rfl) rfl #[.int .i32 a1] rfl (by (try simp only [List.map_toArray, List.map_cons, List.map_nil]); first | done | rfl | (simp only [List.length_drop, List.length_take]; rfl)) ?_; (with_reducible refine (hangul_of.calls k a1 t105 _ A4.out).mono ?_); rintro e w' ⟨rfl, ⟨nd, rfl⟩⟩; refine ⟨_, rfl, ?_⟩))
  (try simp only [Act.put, List.setIfInBounds_toArray, List.set_cons_zero, List.set_cons_succ])
  go_cut [12] (fun v12 wc => ∃ (kq : Nat) (x12_4 : Bool), v12 = .bool x12_4 ∧ Aside0 (hangul_Join.j0 kq a0 a1 t104 t105 x12_4 = some (r1, r2)) ∧ Aside0 (kq ≤ k) ∧ Drawn0 w wc)
  case first =>
    have H := HC5.out
    clear HC5
    by_cases c6 : t104 = 1
    · rw [if_pos c6] at H
      have c6b0 : (t104 == 1) = true := beq_iff_eq.mpr c6
      have c6b1 : (t104 != 1) = false := bne_eq_false_iff_eq.mpr c6
      clear c6
      (first | rw [c6b0] | (simp only [i64_w, i32_w]; rw [c6b0]) | skip)
      have H' := Aside0.mk H
      clear H
      go_wp2
      go_meet
      case rel => exact ⟨_, ((t105 == 2)), (by first | rfl | (simp; done) | (simp [*]; done)), H', ⟨by first | omega | exact Nat.le_refl _⟩, by repeat (first | exact Drawn0.refl _ | apply Drawn0.step)⟩
    · rw [if_neg c6] at H
      have c6b0 : (t104 == 1) = false := beq_eq_false_iff_ne.mpr c6
      have c6b1 : (t104 != 1) = true := bne_iff_ne.mpr c6
      (first | rw [c6b0] | (simp only [i64_w, i32_w]; rw [c6b0]) | skip)
      have H' := Aside0.mk H
      clear H
      go_wp2
      go_meet
      case rel => exact ⟨_, (false), (by first | rfl | (simp; done) | (simp [*]; done)), H', ⟨by first | omega | exact Nat.le_refl _⟩, by repeat (first | exact Drawn0.refl _ | apply Drawn0.step)⟩
  case rest =>
    clear HC5
    try clear c1
    try clear p2
    try clear c6
    try clear c6b0
    try clear c6b1
    obtain ⟨kq, x12_4, rfl, HA, HJ4, ⟨mc4, rfl⟩⟩ := hcut
    cases kq with
    | zero => exact absurd HA.out (by simp [hangul_Join.j0])
    | succ kj4 =>
      have H := HA.out
      clear HA
      simp only [hangul_Join.j0] at H
      by_cases c7 : x12_4 = true
      · subst c7
        have H1 : (some (wrap32 ((wrap32 (44032 + (wrap32 ((wrap32 (a0 - 4352)) * 588)))) + (wrap32 ((wrap32 (a1 - 4449)) * 28))), true)) = some (r1, r2) := by rw [if_pos rfl] at H; exact H
        clear H
        have H := H1
        clear H1
        simp only [Option.some.injEq, Prod.mk.injEq] at H
        obtain ⟨rfl, rfl⟩ := H
        go_wp2
        go_ret2
        exact ⟨by first | rfl | (simp; done) | (simp [*]; done), by repeat (first | exact Drawn0.refl _ | apply Drawn0.step)⟩
      · replace c7 := Bool.eq_false_iff.mpr c7
        subst c7
        have H1 : (if t104 = 4 then (if t105 = 3 then (some (wrap32 ((wrap32 (a0 + a1)) - 4519), true)) else (some (0, false))) else (some (0, false))) = some (r1, r2) := by rw [if_neg (show ¬ (false = true) by decide)] at H; exact H
        clear H
        have H := H1
        clear H1
        by_cases c8 : t104 = 4
        · rw [if_pos c8] at H
          have c8b0 : (t104 == 4) = true := beq_iff_eq.mpr c8
          have c8b1 : (t104 != 4) = false := bne_eq_false_iff_eq.mpr c8
          clear c8
          by_cases c9 : t105 = 3
          · rw [if_pos c9] at H
            have c9b0 : (t105 == 3) = true := beq_iff_eq.mpr c9
            have c9b1 : (t105 != 3) = false := bne_eq_false_iff_eq.mpr c9
            clear c9
            simp only [Option.some.injEq, Prod.mk.injEq] at H
            obtain ⟨rfl, rfl⟩ := H
            go_wp2
            go_ret2
            exact ⟨by first | rfl | (simp; done) | (simp [*]; done), by repeat (first | exact Drawn0.refl _ | apply Drawn0.step)⟩
          · rw [if_neg c9] at H
            have c9b0 : (t105 == 3) = false := beq_eq_false_iff_ne.mpr c9
            have c9b1 : (t105 != 3) = true := bne_iff_ne.mpr c9
            simp only [Option.some.injEq, Prod.mk.injEq] at H
            obtain ⟨rfl, rfl⟩ := H
            go_wp2
            go_ret2
            exact ⟨by first | rfl | (simp; done) | (simp [*]; done), by repeat (first | exact Drawn0.refl _ | apply Drawn0.step)⟩
        · rw [if_neg c8] at H
          have c8b0 : (t104 == 4) = false := beq_eq_false_iff_ne.mpr c8
          have c8b1 : (t104 != 4) = true := bne_iff_ne.mpr c8
          simp only [Option.some.injEq, Prod.mk.injEq] at H
          obtain ⟨rfl, rfl⟩ := H
          go_wp2
          go_ret2
          exact ⟨by first | rfl | (simp; done) | (simp [*]; done), by repeat (first | exact Drawn0.refl _ | apply Drawn0.step)⟩

/-! ### orthoepyref06_Kind: function 9 -/
mutual
def orthoepyref06_Kind.j0 : Nat → Int → Bool → Option (Int)
  | 0, _, _ => none
  | k + 1, x0, x3 => if x3 = true then (some 1) else (if x0 ≥ 4449 then (orthoepyref06_Kind.j1 k x0 (decide (x0 ≤ 4469))) else (orthoepyref06_Kind.j1 k x0 false))
def orthoepyref06_Kind.j1 : Nat → Int → Bool → Option (Int)
  | 0, _, _ => none
  | k + 1, x0, x10 => if x10 = true then (some 2) else (if x0 ≥ 4520 then (orthoepyref06_Kind.j2 k x0 (decide (x0 ≤ 4546))) else (orthoepyref06_Kind.j2 k x0 false))
def orthoepyref06_Kind.j2 : Nat → Int → Bool → Option (Int)
  | 0, _, _ => none
  | k + 1, x0, x17 => if x17 = true then (some 3) else (if x0 < 44032 then (orthoepyref06_Kind.j3 k x0 true) else (orthoepyref06_Kind.j3 k x0 (decide (x0 > 55203))))
def orthoepyref06_Kind.j3 : Nat → Int → Bool → Option (Int)
  | 0, _, _ => none
  | k + 1, x0, x24 => if x24 = true then (some 0) else (if (Int.tmod (wrap32 (x0 - 44032)) 28) = 0 then (some 4) else (some 5))
end
def orthoepyref06_Kind.f (k : Nat) (a0 : Int) : Option (Int) := if a0 ≥ 4352 then (orthoepyref06_Kind.j0 k a0 (decide (a0 ≤ 4370))) else (orthoepyref06_Kind.j0 k a0 false)
theorem orthoepyref06_Kind.mono_l : ∀ k, (∀ y0 y1, LeO (orthoepyref06_Kind.j0 k y0 y1) (orthoepyref06_Kind.j0 (k + 1) y0 y1)) ∧ (∀ y0 y1, LeO (orthoepyref06_Kind.j1 k y0 y1) (orthoepyref06_Kind.j1 (k + 1) y0 y1)) ∧ (∀ y0 y1, LeO (orthoepyref06_Kind.j2 k y0 y1) (orthoepyref06_Kind.j2 (k + 1) y0 y1)) ∧ (∀ y0 y1, LeO (orthoepyref06_Kind.j3 k y0 y1) (orthoepyref06_Kind.j3 (k + 1) y0 y1))
  | 0 => ⟨fun _ _ r h => by simp [orthoepyref06_Kind.j0] at h, fun _ _ r h => by simp [orthoepyref06_Kind.j1] at h, fun _ _ r h => by simp [orthoepyref06_Kind.j2] at h, fun _ _ r h => by simp [orthoepyref06_Kind.j3] at h⟩
  | k + 1 => by
    obtain ⟨ih0, ih1, ih2, ih3⟩ := orthoepyref06_Kind.mono_l k
    refine ⟨?_, ?_, ?_, ?_⟩
    · intro y0 y1
      unfold orthoepyref06_Kind.j0
      repeat' first
      | (with_reducible exact ih0 _ _)
      | (with_reducible exact ih1 _ _)
      | (with_reducible exact ih2 _ _)
      | (with_reducible exact ih3 _ _)
      | (with_reducible exact LeO.refl _)
      | (with_reducible exact LeO.none _)
      | (with_reducible refine LeO.ite ?_ ?_)
      | (with_reducible refine LeO.bind ?_ (fun _ => ?_))
      | exact ih0 _ _
      | exact ih1 _ _
      | exact ih2 _ _
      | exact ih3 _ _
      | exact LeO.none _
      | refine LeO.ite ?_ ?_
      | refine LeO.bind ?_ (fun _ => ?_)
    · intro y0 y1
      unfold orthoepyref06_Kind.j1
      repeat' first
      | (with_reducible exact ih0 _ _)
      | (with_reducible exact ih1 _ _)
      | (with_reducible exact ih2 _ _)
      | (with_reducible exact ih3 _ _)
      | (with_reducible exact LeO.refl _)
      | (with_reducible exact LeO.none _)
      | (with_reducible refine LeO.ite ?_ ?_)
      | (with_reducible refine LeO.bind ?_ (fun _ => ?_))
      | exact ih0 _ _
      | exact ih1 _ _
      | exact ih2 _ _
      | exact ih3 _ _
      | exact LeO.none _
      | refine LeO.ite ?_ ?_
      | refine LeO.bind ?_ (fun _ => ?_)
    · intro y0 y1
      unfold orthoepyref06_Kind.j2
      repeat' first
      | (with_reducible exact ih0 _ _)
      | (with_reducible exact ih1 _ _)
      | (with_reducible exact ih2 _ _)
      | (with_reducible exact ih3 _ _)
      | (with_reducible exact LeO.refl _)
      | (with_reducible exact LeO.none _)
      | (with_reducible refine LeO.ite ?_ ?_)
      | (with_reducible refine LeO.bind ?_ (fun _ => ?_))
      | exact ih0 _ _
      | exact ih1 _ _
      | exact ih2 _ _
      | exact ih3 _ _
      | exact LeO.none _
      | refine LeO.ite ?_ ?_
      | refine LeO.bind ?_ (fun _ => ?_)
    · intro y0 y1
      unfold orthoepyref06_Kind.j3
      repeat' first
      | (with_reducible exact ih0 _ _)
      | (with_reducible exact ih1 _ _)
      | (with_reducible exact ih2 _ _)
      | (with_reducible exact ih3 _ _)
      | (with_reducible exact LeO.refl _)
      | (with_reducible exact LeO.none _)
      | (with_reducible refine LeO.ite ?_ ?_)
      | (with_reducible refine LeO.bind ?_ (fun _ => ?_))
      | exact ih0 _ _
      | exact ih1 _ _
      | exact ih2 _ _
      | exact ih3 _ _
      | exact LeO.none _
      | refine LeO.ite ?_ ?_
      | refine LeO.bind ?_ (fun _ => ?_)
theorem orthoepyref06_Kind.mono : ∀ a0 k, LeO (orthoepyref06_Kind.f k a0) (orthoepyref06_Kind.f (k + 1) a0) := by
  intro a0 k
  obtain ⟨ih0, ih1, ih2, ih3⟩ := orthoepyref06_Kind.mono_l k
  unfold orthoepyref06_Kind.f
  repeat' first
      | (with_reducible exact ih0 _ _)
      | (with_reducible exact ih1 _ _)
      | (with_reducible exact ih2 _ _)
      | (with_reducible exact ih3 _ _)
      | (with_reducible exact LeO.refl _)
      | (with_reducible exact LeO.none _)
      | (with_reducible refine LeO.ite ?_ ?_)
      | (with_reducible refine LeO.bind ?_ (fun _ => ?_))
      | exact ih0 _ _
      | exact ih1 _ _
      | exact ih2 _ _
      | exact ih3 _ _
      | exact LeO.none _
      | refine LeO.ite ?_ ?_
      | refine LeO.bind ?_ (fun _ => ?_)
set_option maxHeartbeats 8000000 in
set_option maxRecDepth 100000 in
theorem orthoepyref06_Kind.calls (k : Nat) (a0 : Int) (r : Int) (w : World) (h : orthoepyref06_Kind.f k a0 = some r) :
    Calls Try.prog 9 #[.int .i32 a0] w fun e w' => e = .returned (.int .i64 r) ∧ Drawn0 w w' := by
  have H : (if a0 ≥ 4352 then (orthoepyref06_Kind.j0 k a0 (decide (a0 ≤ 4370))) else (orthoepyref06_Kind.j0 k a0 false)) = some r := h
  clear h
  have HC2 := Aside0.mk H
  clear H
  go_enter Try.func9, Try.ntmps9
  go_upto_region 1 with (fail)
  go_cut [3] (fun v3 wc => ∃ (kq : Nat) (x3_1 : Bool), v3 = .bool x3_1 ∧ Aside0 (orthoepyref06_Kind.j0 kq a0 x3_1 = some r) ∧ Aside0 (kq ≤ k) ∧ Drawn0 w wc)
  case first =>
    have H := HC2.out
    clear HC2
    by_cases c3 : a0 ≥ 4352
    · rw [if_pos c3] at H
      have c3b0 : decide (4352 ≤ a0) = true := decide_eq_true c3
      clear c3
      (first | rw [c3b0] | (simp only [i64_w, i32_w]; rw [c3b0]) | skip)
      have H' := Aside0.mk H
      clear H
      go_wp2
      go_meet
      case rel => exact ⟨_, (decide (a0 ≤ 4370)), (by first | rfl | (simp; done) | (simp [*]; done)), H', ⟨by first | omega | exact Nat.le_refl _⟩, by repeat (first | exact Drawn0.refl _ | apply Drawn0.step)⟩
    · rw [if_neg c3] at H
      have c3b0 : decide (4352 ≤ a0) = false := decide_eq_false c3
      clear c3
      (first | rw [c3b0] | (simp only [i64_w, i32_w]; rw [c3b0]) | skip)
      have H' := Aside0.mk H
      clear H
      go_wp2
      go_meet
      case rel => exact ⟨_, (false), (by first | rfl | (simp; done) | (simp [*]; done)), H', ⟨by first | omega | exact Nat.le_refl _⟩, by repeat (first | exact Drawn0.refl _ | apply Drawn0.step)⟩
  case rest =>
    clear HC2
    try clear p2
    try clear c3
    try clear c3b0
    obtain ⟨kq, x3_1, rfl, HA, HJ1, ⟨mc1, rfl⟩⟩ := hcut
    cases kq with
    | zero => exact absurd HA.out (by simp [orthoepyref06_Kind.j0])
    | succ kj1 =>
      have H := HA.out
      clear HA
      simp only [orthoepyref06_Kind.j0] at H
      by_cases c4 : x3_1 = true
      · subst c4
        have H1 : (some 1) = some r := by rw [if_pos rfl] at H; exact H
        clear H
        have H := H1
        clear H1
        obtain rfl := Option.some.inj H
        go_wp2
        go_ret
        exact ⟨by first | rfl | (simp; done) | (simp [*]; done), by repeat (first | exact Drawn0.refl _ | apply Drawn0.step)⟩
      · replace c4 := Bool.eq_false_iff.mpr c4
        subst c4
        have H1 : (if a0 ≥ 4449 then (orthoepyref06_Kind.j1 kj1 a0 (decide (a0 ≤ 4469))) else (orthoepyref06_Kind.j1 kj1 a0 false)) = some r := by rw [if_neg (show ¬ (false = true) by decide)] at H; exact H
        clear H
        have H := H1
        clear H1
        have HC5 := Aside0.mk H
        clear H
        go_upto_region 3 with (fail)
        go_cut [10] (fun v10 wc => ∃ (kq : Nat) (x10_4 : Bool), v10 = .bool x10_4 ∧ Aside0 (orthoepyref06_Kind.j1 kq a0 x10_4 = some r) ∧ Aside0 (kq ≤ kj1) ∧ Drawn0 w wc)
        case first =>
          have H := HC5.out
          clear HC5
          by_cases c6 : a0 ≥ 4449
          · rw [if_pos c6] at H
            have c6b0 : decide (4449 ≤ a0) = true := decide_eq_true c6
            clear c6
            (first | rw [c6b0] | (simp only [i64_w, i32_w]; rw [c6b0]) | skip)
            have H' := Aside0.mk H
            clear H
            go_wp2
            go_meet
            case rel => exact ⟨_, (decide (a0 ≤ 4469)), (by first | rfl | (simp; done) | (simp [*]; done)), H', ⟨by have := HJ1.out; first | omega | exact Nat.le_refl _⟩, by repeat (first | exact Drawn0.refl _ | apply Drawn0.step)⟩
          · rw [if_neg c6] at H
            have c6b0 : decide (4449 ≤ a0) = false := decide_eq_false c6
            clear c6
            (first | rw [c6b0] | (simp only [i64_w, i32_w]; rw [c6b0]) | skip)
            have H' := Aside0.mk H
            clear H
            go_wp2
            go_meet
            case rel => exact ⟨_, (false), (by first | rfl | (simp; done) | (simp [*]; done)), H', ⟨by have := HJ1.out; first | omega | exact Nat.le_refl _⟩, by repeat (first | exact Drawn0.refl _ | apply Drawn0.step)⟩
        case rest =>
          clear HC5
          try clear c1
          try clear p2
          try clear c3
          try clear c3b0
          try clear c4
          try clear c6
          try clear c6b0
          try clear p2
          obtain ⟨kq, x10_4, rfl, HA, HJ4, ⟨mc4, rfl⟩⟩ := hcut
          cases kq with
          | zero => exact absurd HA.out (by simp [orthoepyref06_Kind.j1])
          | succ kj4 =>
            have H := HA.out
            clear HA
            simp only [orthoepyref06_Kind.j1] at H
            by_cases c7 : x10_4 = true
            · subst c7
              have H1 : (some 2) = some r := by rw [if_pos rfl] at H; exact H
              clear H
              have H := H1
              clear H1
              obtain rfl := Option.some.inj H
              go_wp2
              go_ret
              exact ⟨by first | rfl | (simp; done) | (simp [*]; done), by repeat (first | exact Drawn0.refl _ | apply Drawn0.step)⟩
            · replace c7 := Bool.eq_false_iff.mpr c7
              subst c7
              have H1 : (if a0 ≥ 4520 then (orthoepyref06_Kind.j2 kj4 a0 (decide (a0 ≤ 4546))) else (orthoepyref06_Kind.j2 kj4 a0 false)) = some r := by rw [if_neg (show ¬ (false = true) by decide)] at H; exact H
              clear H
              have H := H1
              clear H1
              have HC8 := Aside0.mk H
              clear H
              go_upto_region 5 with (fail)
              go_cut [17] (fun v17 wc => ∃ (kq : Nat) (x17_7 : Bool), v17 = .bool x17_7 ∧ Aside0 (orthoepyref06_Kind.j2 kq a0 x17_7 = some r) ∧ Aside0 (kq ≤ kj4) ∧ Drawn0 w wc)
              case first =>
                have H := HC8.out
                clear HC8
                by_cases c9 : a0 ≥ 4520
                · rw [if_pos c9] at H
                  have c9b0 : decide (4520 ≤ a0) = true := decide_eq_true c9
                  clear c9
                  (first | rw [c9b0] | (simp only [i64_w, i32_w]; rw [c9b0]) | skip)
                  have H' := Aside0.mk H
                  clear H
                  go_wp2
                  go_meet
                  case rel => exact ⟨_, (decide (a0 ≤ 4546)), (by first | rfl | (simp; done) | (simp [*]; done)), H', ⟨by have := HJ1.out; have := HJ4.out; first | omega | exact Nat.le_refl _⟩, by repeat (first | exact Drawn0.refl _ | apply Drawn0.step)⟩
                · rw [if_neg c9] at H
                  have c9b0 : decide (4520 ≤ a0) = false := decide_eq_false c9
                  clear c9
                  (first | rw [c9b0] | (simp only [i64_w, i32_w]; rw [c9b0]) | skip)
                  have H' := Aside0.mk H
                  clear H
                  go_wp2
                  go_meet
                  case rel => exact ⟨_, (false), (by first | rfl | (simp; done) | (simp [*]; done)), H', ⟨by have := HJ1.out; have := HJ4.out; first | omega | exact Nat.le_refl _⟩, by repeat (first | exact Drawn0.refl _ | apply Drawn0.step)⟩
              case rest =>
                clear HC8
                try clear c1
                try clear p2
                try clear c3
                try clear c3b0
                try clear c4
                try clear c6
                try clear c6b0
                try clear c7
                try clear c9
                try clear c9b0
                try clear p2
                obtain ⟨kq, x17_7, rfl, HA, HJ7, ⟨mc7, rfl⟩⟩ := hcut
                cases kq with
                | zero => exact absurd HA.out (by simp [orthoepyref06_Kind.j2])
                | succ kj7 =>
                  have H := HA.out
                  clear HA
                  simp only [orthoepyref06_Kind.j2] at H
                  by_cases c10 : x17_7 = true
                  · subst c10
                    have H1 : (some 3) = some r := by rw [if_pos rfl] at H; exact H
                    clear H
                    have H := H1
                    clear H1
                    obtain rfl := Option.some.inj H
                    go_wp2
                    go_ret
                    exact ⟨by first | rfl | (simp; done) | (simp [*]; done), by repeat (first | exact Drawn0.refl _ | apply Drawn0.step)⟩
                  · replace c10 := Bool.eq_false_iff.mpr c10
                    subst c10
                    have H1 : (if a0 < 44032 then (orthoepyref06_Kind.j3 kj7 a0 true) else (orthoepyref06_Kind.j3 kj7 a0 (decide (a0 > 55203)))) = some r := by rw [if_neg (show ¬ (false = true) by decide)] at H; exact H
                    clear H
                    have H := H1
                    clear H1
                    have HC11 := Aside0.mk H
                    clear H
                    go_upto_region 7 with (fail)
                    go_cut [24] (fun v24 wc => ∃ (kq : Nat) (x24_10 : Bool), v24 = .bool x24_10 ∧ Aside0 (orthoepyref06_Kind.j3 kq a0 x24_10 = some r) ∧ Aside0 (kq ≤ kj7) ∧ Drawn0 w wc)
                    case first =>
                      have H := HC11.out
                      clear HC11
                      by_cases c12 : a0 < 44032
                      · rw [if_pos c12] at H
                        have c12b0 : decide (a0 < 44032) = true := decide_eq_true c12
                        clear c12
                        (first | rw [c12b0] | (simp only [i64_w, i32_w]; rw [c12b0]) | skip)
                        have H' := Aside0.mk H
                        clear H
                        go_wp2
                        go_meet
                        case rel => exact ⟨_, (true), (by first | rfl | (simp; done) | (simp [*]; done)), H', ⟨by have := HJ1.out; have := HJ4.out; have := HJ7.out; first | omega | exact Nat.le_refl _⟩, by repeat (first | exact Drawn0.refl _ | apply Drawn0.step)⟩
                      · rw [if_neg c12] at H
                        have c12b0 : decide (a0 < 44032) = false := decide_eq_false c12
                        clear c12
                        (first | rw [c12b0] | (simp only [i64_w, i32_w]; rw [c12b0]) | skip)
                        have H' := Aside0.mk H
                        clear H
                        go_wp2
                        go_meet
                        case rel => exact ⟨_, (decide (a0 > 55203)), (by first | rfl | (simp; done) | (simp [*]; done)), H', ⟨by have := HJ1.out; have := HJ4.out; have := HJ7.out; first | omega | exact Nat.le_refl _⟩, by repeat (first | exact Drawn0.refl _ | apply Drawn0.step)⟩
                    case rest =>
                      clear HC11
                      try clear c1
                      try clear p2
                      try clear c3
                      try clear c3b0
                      try clear c4
                      try clear c6
                      try clear c6b0
                      try clear c7
                      try clear c9
                      try clear c9b0
                      try clear c10
                      try clear c12
                      try clear c12b0
                      try clear p2
                      obtain ⟨kq, x24_10, rfl, HA, HJ10, ⟨mc10, rfl⟩⟩ := hcut
                      cases kq with
                      | zero => exact absurd HA.out (by simp [orthoepyref06_Kind.j3])
                      | succ kj10 =>
                        have H := HA.out
                        clear HA
                        simp only [orthoepyref06_Kind.j3] at H
                        by_cases c13 : x24_10 = true
                        · subst c13
                          have H1 : (some 0) = some r := by rw [if_pos rfl] at H; exact H
                          clear H
                          have H := H1
                          clear H1
                          obtain rfl := Option.some.inj H
                          go_wp2
                          go_ret
                          exact ⟨by first | rfl | (simp; done) | (simp [*]; done), by repeat (first | exact Drawn0.refl _ | apply Drawn0.step)⟩
                        · replace c13 := Bool.eq_false_iff.mpr c13
                          subst c13
                          have H1 : (if (Int.tmod (wrap32 (a0 - 44032)) 28) = 0 then (some 4) else (some 5)) = some r := by rw [if_neg (show ¬ (false = true) by decide)] at H; exact H
                          clear H
                          have H := H1
                          clear H1
                          by_cases c14 : (Int.tmod (wrap32 (a0 - 44032)) 28) = 0
                          · rw [if_pos c14] at H
                            have c14b0 : ((Int.tmod (wrap32 (a0 - 44032)) 28) == 0) = true := beq_iff_eq.mpr c14
                            have c14b1 : ((Int.tmod (wrap32 (a0 - 44032)) 28) != 0) = false := bne_eq_false_iff_eq.mpr c14
                            clear c14
                            obtain rfl := Option.some.inj H
                            go_wp2
                            go_ret
                            exact ⟨by first | rfl | (simp; done) | (simp [*]; done), by repeat (first | exact Drawn0.refl _ | apply Drawn0.step)⟩
                          · rw [if_neg c14] at H
                            have c14b0 : ((Int.tmod (wrap32 (a0 - 44032)) 28) == 0) = false := beq_eq_false_iff_ne.mpr c14
                            have c14b1 : ((Int.tmod (wrap32 (a0 - 44032)) 28) != 0) = true := bne_iff_ne.mpr c14
                            obtain rfl := Option.some.inj H
                            go_wp2
                            go_ret
                            exact ⟨by first | rfl | (simp; done) | (simp [*]; done), by repeat (first | exact Drawn0.refl _ | apply Drawn0.step)⟩

/-! ### orthoepyref06_Join: function 7 -/
def orthoepyref06_Join.j0 : Nat → Int → Int → Bool → Option (Int × Bool)
  | 0, _, _, _ => none
  | k + 1, x0, x1, x6 => if x6 = true then (some (wrap32 ((wrap32 (44032 + (wrap32 ((wrap32 (x0 - 4352)) * 588)))) + (wrap32 ((wrap32 (x1 - 4449)) * 28))), true)) else ((orthoepyref06_Kind.f k x0).bind fun t108 => (if t108 = 4 then ((orthoepyref06_Kind.f k x1).bind fun t109 => (if t109 = 3 then (some (wrap32 ((wrap32 (x0 + x1)) - 4519), true)) else (some (0, false)))) else (some (0, false))))
def orthoepyref06_Join.f (k : Nat) (a0 : Int) (a1 : Int) : Option (Int × Bool) := (orthoepyref06_Kind.f k a0).bind fun t106 => (if t106 = 1 then ((orthoepyref06_Kind.f k a1).bind fun t107 => (orthoepyref06_Join.j0 k a0 a1 (t107 == 2))) else (orthoepyref06_Join.j0 k a0 a1 false))
theorem orthoepyref06_Join.mono_l : ∀ k, (∀ y0 y1 y2, LeO (orthoepyref06_Join.j0 k y0 y1 y2) (orthoepyref06_Join.j0 (k + 1) y0 y1 y2))
  | 0 => fun _ _ _ r h => by simp [orthoepyref06_Join.j0] at h
  | k + 1 => by
    have ih0 := orthoepyref06_Join.mono_l k
    · intro y0 y1 y2
      unfold orthoepyref06_Join.j0
      repeat' first
      | (with_reducible exact ih0 _ _ _)
      | (with_reducible exact orthoepyref06_Kind.mono _ _)
      | (with_reducible exact LeO.refl _)
      | (with_reducible exact LeO.none _)
      | (with_reducible refine LeO.ite ?_ ?_)
      | (with_reducible refine LeO.bind ?_ (fun _ => ?_))
      | exact ih0 _ _ _
      | exact orthoepyref06_Kind.mono _ _
      | exact LeO.none _
      | refine LeO.ite ?_ ?_
      | refine LeO.bind ?_ (fun _ => ?_)
theorem orthoepyref06_Join.mono : ∀ a0 a1 k, LeO (orthoepyref06_Join.f k a0 a1) (orthoepyref06_Join.f (k + 1) a0 a1) := by
  intro a0 a1 k
  have ih0 := orthoepyref06_Join.mono_l k
  unfold orthoepyref06_Join.f
  repeat' first
      | (with_reducible exact ih0 _ _ _)
      | (with_reducible exact orthoepyref06_Kind.mono _ _)
      | (with_reducible exact LeO.refl _)
      | (with_reducible exact LeO.none _)
      | (with_reducible refine LeO.ite ?_ ?_)
      | (with_reducible refine LeO.bind ?_ (fun _ => ?_))
      | exact ih0 _ _ _
      | exact orthoepyref06_Kind.mono _ _
      | exact LeO.none _
      | refine LeO.ite ?_ ?_
      | refine LeO.bind ?_ (fun _ => ?_)
set_option maxHeartbeats 8000000 in
set_option maxRecDepth 100000 in
theorem orthoepyref06_Join.calls (k : Nat) (a0 : Int) (a1 : Int) (r1 : Int) (r2 : Bool) (w : World) (h : orthoepyref06_Join.f k a0 a1 = some (r1, r2)) :
    Calls Try.prog 7 #[.int .i32 a0, .int .i32 a1] w fun e w' => e = .returned (.tuple #[.int .i32 r1, .bool r2]) ∧ Drawn0 w w' := by
  have H : ((orthoepyref06_Kind.f k a0).bind fun t106 => (if t106 = 1 then ((orthoepyref06_Kind.f k a1).bind fun t107 => (orthoepyref06_Join.j0 k a0 a1 (t107 == 2))) else (orthoepyref06_Join.j0 k a0 a1 false))) = some (r1, r2) := h
  clear h
  have HC3 := Aside0.mk H
  clear H
  go_enter Try.func7, Try.ntmps7
  go_upto_region 1 with (fail)
  go_cut [6] (fun v6 wc => ∃ (kq : Nat) (x6_2 : Bool), v6 = .bool x6_2 ∧ Aside0 (orthoepyref06_Join.j0 kq a0 a1 x6_2 = some (r1, r2)) ∧ Aside0 (kq ≤ k) ∧ Drawn0 w wc)
  case first =>
    have H := HC3.out
    clear HC3
    replace H := Option.bind_eq_some_iff.mp H
    obtain ⟨t106, A40, H⟩ := H
    replace H : (if t106 = 1 then ((orthoepyref06_Kind.f k a1).bind fun t107 => (orthoepyref06_Join.j0 k a0 a1 (t107 == 2))) else (orthoepyref06_Join.j0 k a0 a1 false)) = some (r1, r2) := H
    have A4 := Aside0.mk A40
    clear A40
    by_cases c5 : t106 = 1
    · rw [if_pos c5] at H
      have c5b0 : (t106 == 1) = true := beq_iff_eq.mpr c5
      have c5b1 : (t106 != 1) = false := bne_eq_false_iff_eq.mpr c5
      clear c5
      (first | rw [c5b0] | (simp only [i64_w, i32_w]; rw [c5b0]) | skip)
      replace H := Option.bind_eq_some_iff.mp H
      obtain ⟨t107, A60, H⟩ := H
      replace H : (orthoepyref06_Join.j0 k a0 a1 (t107 == 2)) = some (r1, r2) := H
      have A6 := Aside0.mk A60
      clear A60
      have H' := Aside0.mk H
      clear H
      go_wp2_with (first | ((with_reducible refine gate_callee (f := 9) rfl ?_); refine goesL_ (some 8) rfl rfl Try.func9 (by kernel_rfl) rfl #[.int .i32 a0] rfl (by (try simp only [List.map_toArray, List.map_cons, List.map_nil]); first | done | rfl | (simp only [List.length_drop, List.length_take]; rfl)) ?_; (with_reducible refine (orthoepyref06_Kind.calls k a0 t106 _ A4.out).mono ?_); rintro e w' ⟨rfl, ⟨nd, rfl⟩⟩; refine ⟨_, rfl, ?_⟩) | (go_at_call 9; (with_reducible refine (orthoepyref06_Kind.calls k a1 t107 _ A6.out).mono ?_); rintro e w' ⟨rfl, ⟨nd, rfl⟩⟩))
      go_meet
      case rel => exact ⟨_, ((t107 == 2)), (by first | rfl | (simp; done) | (simp [*]; done)), H', ⟨by first | omega | exact Nat.le_refl _⟩, by repeat (first | exact Drawn0.refl _ | apply Drawn0.step)⟩
    · rw [if_neg c5] at H
      have c5b0 : (t106 == 1) = false := beq_eq_false_iff_ne.mpr c5
      have c5b1 : (t106 != 1) = true := bne_iff_ne.mpr c5
      (first | rw [c5b0] | (simp only [i64_w, i32_w]; rw [c5b0]) | skip)
      have H' := Aside0.mk H
      clear H
      go_wp2_with (first | ((with_reducible refine gate_callee (f := 9) rfl ?_); refine goesL_ (some 8) rfl rfl Try.func9 (by kernel_rfl) rfl #[.int .i32 a0] rfl (by (try simp only [List.map_toArray, List.map_cons, List.map_nil]); first | done | rfl | (simp only [List.length_drop, List.length_take]; rfl)) ?_; (with_reducible refine (orthoepyref06_Kind.calls k a0 t106 _ A4.out).mono ?_); rintro e w' ⟨rfl, ⟨nd, rfl⟩⟩; refine ⟨_, rfl, ?_⟩))
      go_meet
      case rel => exact ⟨_, (false), (by first | rfl | (simp; done) | (simp [*]; done)), H', ⟨by first | omega | exact Nat.le_refl _⟩, by repeat (first | exact Drawn0.refl _ | apply Drawn0.step)⟩
  case rest =>
    clear HC3
    try clear p2
    try clear c5
    try clear c5b0
    try clear c5b1
    obtain ⟨kq, x6_2, rfl, HA, HJ2, ⟨mc2, rfl⟩⟩ := hcut
    cases kq with
    | zero => exact absurd HA.out (by simp [orthoepyref06_Join.j0])
    | succ kj2 =>
      have H := HA.out
      clear HA
      simp only [orthoepyref06_Join.j0] at H
      by_cases c7 : x6_2 = true
      · subst c7
        have H1 : (some (wrap32 ((wrap32 (44032 + (wrap32 ((wrap32 (a0 - 4352)) * 588)))) + (wrap32 ((wrap32 (a1 - 4449)) * 28))), true)) = some (r1, r2) := by rw [if_pos rfl] at H; exact H
        clear H
        have H := H1
        clear H1
        simp only [Option.some.injEq, Prod.mk.injEq] at H
        obtain ⟨rfl, rfl⟩ := H
        go_wp2
        go_ret2
        exact ⟨by first | rfl | (simp; done) | (simp [*]; done), by repeat (first | exact Drawn0.refl _ | apply Drawn0.step)⟩
      · replace c7 := Bool.eq_false_iff.mpr c7
        subst c7
        have H1 : ((orthoepyref06_Kind.f kj2 a0).bind fun t108 => (if t108 = 4 then ((orthoepyref06_Kind.f kj2 a1).bind fun t109 => (if t109 = 3 then (some (wrap32 ((wrap32 (a0 + a1)) - 4519), true)) else (some (0, false)))) else (some (0, false)))) = some (r1, r2) := by rw [if_neg (show ¬ (false = true) by decide)] at H; exact H
        clear H
        have H := H1
        clear H1
        replace H := Option.bind_eq_some_iff.mp H
        obtain ⟨t108, A80, H⟩ := H
        replace H : (if t108 = 4 then ((orthoepyref06_Kind.f kj2 a1).bind fun t109 => (if t109 = 3 then (some (wrap32 ((wrap32 (a0 + a1)) - 4519), true)) else (some (0, false)))) else (some (0, false))) = some (r1, r2) := H
        have A8 := Aside0.mk A80
        clear A80
        by_cases c9 : t108 = 4
        · rw [if_pos c9] at H
          have c9b0 : (t108 == 4) = true := beq_iff_eq.mpr c9
          have c9b1 : (t108 != 4) = false := bne_eq_false_iff_eq.mpr c9
          clear c9
          replace H := Option.bind_eq_some_iff.mp H
          obtain ⟨t109, A100, H⟩ := H
          replace H : (if t109 = 3 then (some (wrap32 ((wrap32 (a0 + a1)) - 4519), true)) else (some (0, false))) = some (r1, r2) := H
          have A10 := Aside0.mk A100
          clear A100
          by_cases c11 : t109 = 3
          · rw [if_pos c11] at H
            have c11b0 : (t109 == 3) = true := beq_iff_eq.mpr c11
            have c11b1 : (t109 != 3) = false := bne_eq_false_iff_eq.mpr c11
            clear c11
            simp only [Option.some.injEq, Prod.mk.injEq] at H
            obtain ⟨rfl, rfl⟩ := H
            go_wp2_with (first | ((with_reducible refine gate_callee (f := 9) rfl ?_); refine goesL_ (some 25) rfl rfl Try.func9 (by kernel_rfl) rfl #[.int .i32 a0] rfl (by (try simp only [List.map_toArray, List.map_cons, List.map_nil]); first | done | rfl | (simp only [List.length_drop, List.length_take]; rfl)) ?_; (with_reducible refine (orthoepyref06_Kind.calls kj2 a0 t108 _ A8.out).mono ?_); rintro e w' ⟨rfl, ⟨nd, rfl⟩⟩; refine ⟨_, rfl, ?_⟩) | (go_at_call 9; (with_reducible refine (orthoepyref06_Kind.calls kj2 a1 t109 _ A10.out).mono ?_); rintro e w' ⟨rfl, ⟨nd, rfl⟩⟩))
            go_ret2
            exact ⟨by first | rfl | (simp; done) | (simp [*]; done), by repeat (first | exact Drawn0.refl _ | apply Drawn0.step)⟩
          · rw [if_neg c11] at H
            have c11b0 : (t109 == 3) = false := beq_eq_false_iff_ne.mpr c11
            have c11b1 : (t109 != 3) = true := bne_iff_ne.mpr c11
            simp only [Option.some.injEq, Prod.mk.injEq] at H
            obtain ⟨rfl, rfl⟩ := H
            go_wp2_with (first | ((with_reducible refine gate_callee (f := 9) rfl ?_); refine goesL_ (some 25) rfl rfl Try.func9 (by kernel_rfl) rfl #[.int .i32 a0] rfl (by (try simp only [List.map_toArray, List.map_cons, List.map_nil]); first | done | rfl | (simp only [List.length_drop, List.length_take]; rfl)) ?_; (with_reducible refine (orthoepyref06_Kind.calls kj2 a0 t108 _ A8.out).mono ?_); rintro e w' ⟨rfl, ⟨nd, rfl⟩⟩; refine ⟨_, rfl, ?_⟩) | (go_at_call 9; (with_reducible refine (orthoepyref06_Kind.calls kj2 a1 t109 _ A10.out).mono ?_); rintro e w' ⟨rfl, ⟨nd, rfl⟩⟩))
            go_ret2
            exact ⟨by first | rfl | (simp; done) | (simp [*]; done), by repeat (first | exact Drawn0.refl _ | apply Drawn0.step)⟩
        · rw [if_neg c9] at H
          have c9b0 : (t108 == 4) = false := beq_eq_false_iff_ne.mpr c9
          have c9b1 : (t108 != 4) = true := bne_iff_ne.mpr c9
          simp only [Option.some.injEq, Prod.mk.injEq] at H
          obtain ⟨rfl, rfl⟩ := H
          go_wp2_with (first | ((with_reducible refine gate_callee (f := 9) rfl ?_); refine goesL_ (some 25) rfl rfl Try.func9 (by kernel_rfl) rfl #[.int .i32 a0] rfl (by (try simp only [List.map_toArray, List.map_cons, List.map_nil]); first | done | rfl | (simp only [List.length_drop, List.length_take]; rfl)) ?_; (with_reducible refine (orthoepyref06_Kind.calls kj2 a0 t108 _ A8.out).mono ?_); rintro e w' ⟨rfl, ⟨nd, rfl⟩⟩; refine ⟨_, rfl, ?_⟩))
          go_ret2
          exact ⟨by first | rfl | (simp; done) | (simp [*]; done), by repeat (first | exact Drawn0.refl _ | apply Drawn0.step)⟩

end Go.Proofs.Ytabgbcgllcopeaa.PHangulAll
