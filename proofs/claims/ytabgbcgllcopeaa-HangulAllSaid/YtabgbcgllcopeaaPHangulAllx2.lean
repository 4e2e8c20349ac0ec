-- PRINTED BY print.sh 35421559b90ae4d0a3588c463048766b98c2df88dd9212a6774a882060cdf62d: not written by this session
import Derived.Test.YtabgbcgllcopeaaPHangulAllx0
import Derived.Test.YtabgbcgllcopeaaPHangulAllx1
namespace Go.Proofs.Ytabgbcgllcopeaa.PHangulAll
open Go.RowKit Go.Proofs.YtabgbcgllcopeaaW.PrintWords Go.Proofs.YtabgbcgllcopeaaW.PrintLast Go.Proofs.YtabgbcgllcopeaaW.PrintMore
attribute [local go_sem] max2_int min2_int max_two min_two max_three min_three max_four min_four   -- for this text's walks alone
set_option linter.unusedVariables false
set_option linter.unusedSimpArgs false

/-! ### hangul_Kind: function 8 -/
def hangul_Kind.f (k : Nat) (a0 : Int) : Option (Int) := (hangul_of.f k a0).bind fun t110 => (some t110)
theorem hangul_Kind.mono : ∀ a0 k, LeO (hangul_Kind.f k a0) (hangul_Kind.f (k + 1) a0) := by
  intro a0 k
  unfold hangul_Kind.f
  repeat' first
      | (with_reducible exact hangul_of.mono _ _)
      | (with_reducible exact LeO.refl _)
      | (with_reducible exact LeO.none _)
      | (with_reducible refine LeO.ite ?_ ?_)
      | (with_reducible refine LeO.bind ?_ (fun _ => ?_))
      | exact hangul_of.mono _ _
      | exact LeO.none _
      | refine LeO.ite ?_ ?_
      | refine LeO.bind ?_ (fun _ => ?_)
set_option maxHeartbeats 8000000 in
set_option maxRecDepth 100000 in
theorem hangul_Kind.calls (k : Nat) (a0 : Int) (r : Int) (w : World) (h : hangul_Kind.f k a0 = some r) :
    Calls Try.prog 8 #[.int .i32 a0] w fun e w' => e = .returned (.int .i64 r) ∧ Drawn0 w w' := by
  have H : ((hangul_of.f k a0).bind fun t110 => (some t110)) = some r := h
  clear h
  replace H := Option.bind_eq_some_iff.mp H
  obtain ⟨t110, A20, H⟩ := H
  replace H : (some t110) = some r := H
  have A2 := Aside0.mk A20
  clear A20
  obtain rfl := Option.some.inj H
  go_enter Try.func8, Try.ntmps8
  go_wp2_with (first | ((with_reducible refine gate_callee (f := 15) rfl ?_); refine goesL_ (some 4) rfl rfl Try.func15 (by kernel_rfl) rfl #[.int .i32 a0] rfl (by (try simp only [List.map_toArray, List.map_cons, List.map_nil]); first | done | rfl | (simp only [List.length_drop, List.length_take]; rfl)) ?_; (with_reducible refine (hangul_of.calls k a0 t110 _ A2.out).mono ?_); rintro e w' ⟨rfl, ⟨nd, rfl⟩⟩; refine ⟨_, rfl, ?_⟩))
  go_ret
  exact ⟨by first | rfl | (simp; done) | (simp [*]; done), by repeat (first | exact Drawn0.refl _ | apply Drawn0.step)⟩

/-! ### orthoepyref07_Same: function 10 -/
def orthoepyref07_Same.l0 : Nat → List Int → List Int → Int → Option (Bool)
  | 0, _, _, _ => none
  | k + 1, x0, x1, x5 => if x5 < (x0.length : Int) then (if 0 ≤ x5 then (if x5 < (x1.length : Int) then (if (rd x0 x5) = (rd x1 x5) then (orthoepyref07_Same.l0 k x0 x1 (wrap64 (x5 + 1))) else (some false)) else (none)) else (none)) else (some true)
def orthoepyref07_Same.f (k : Nat) (l0 : List Int) (l1 : List Int) : Option (Bool) := if (l0.length : Int) = (l1.length : Int) then (orthoepyref07_Same.l0 k l0 l1 0) else (some false)
theorem orthoepyref07_Same.mono_l : ∀ k, (∀ y0 y1 y2, LeO (orthoepyref07_Same.l0 k y0 y1 y2) (orthoepyref07_Same.l0 (k + 1) y0 y1 y2))
  | 0 => fun _ _ _ r h => by simp [orthoepyref07_Same.l0] at h
  | k + 1 => by
    have ih0 := orthoepyref07_Same.mono_l k
    · intro y0 y1 y2
      unfold orthoepyref07_Same.l0
      repeat' first
      | (with_reducible exact ih0 _ _ _)
      | (with_reducible exact LeO.refl _)
      | (with_reducible exact LeO.none _)
      | (with_reducible refine LeO.ite ?_ ?_)
      | (with_reducible refine LeO.bind ?_ (fun _ => ?_))
      | exact ih0 _ _ _
      | exact LeO.none _
      | refine LeO.ite ?_ ?_
      | refine LeO.bind ?_ (fun _ => ?_)
theorem orthoepyref07_Same.mono : ∀ a0 a1 k, LeO (orthoepyref07_Same.f k a0 a1) (orthoepyref07_Same.f (k + 1) a0 a1) := by
  intro a0 a1 k
  have ih0 := orthoepyref07_Same.mono_l k
  unfold orthoepyref07_Same.f
  repeat' first
      | (with_reducible exact ih0 _ _ _)
      | (with_reducible exact LeO.refl _)
      | (with_reducible exact LeO.none _)
      | (with_reducible refine LeO.ite ?_ ?_)
      | (with_reducible refine LeO.bind ?_ (fun _ => ?_))
      | exact ih0 _ _ _
      | exact LeO.none _
      | refine LeO.ite ?_ ?_
      | refine LeO.bind ?_ (fun _ => ?_)
set_option maxHeartbeats 8000000 in
set_option maxRecDepth 100000 in
theorem orthoepyref07_Same.calls (k : Nat) (A0 : Option Addr) (c0 : Nat) (l0 : List Int) (A1 : Option Addr) (c1 : Nat) (l1 : List Int) (r : Bool) (w : World) (hr0 : Kd.C (Kd.int .i32) w A0 l0.length l0) (hc0 : l0.length ≤ c0) (hr1 : Kd.C (Kd.int .i32) w A1 l1.length l1) (hc1 : l1.length ≤ c1) (h : orthoepyref07_Same.f k l0 l1 = some r) :
    Calls Try.prog 10 #[.slice A0 l0.length c0, .slice A1 l1.length c1] w fun e w' => e = .returned (.bool r) ∧ Drawn0 w w' := by
  have HR0 := Aside0.mk hr0
  have HC0 := Aside0.mk hc0
  clear hr0 hc0
  have HR1 := Aside0.mk hr1
  have HC1 := Aside0.mk hc1
  clear hr1 hc1
  have H : (if (l0.length : Int) = (l1.length : Int) then (orthoepyref07_Same.l0 k l0 l1 0) else (some false)) = some r := h
  clear h
  by_cases c3 : (l0.length : Int) = (l1.length : Int)
  · rw [if_pos c3] at H
    have c3b0 : ((l0.length : Int) == (l1.length : Int)) = true := beq_iff_eq.mpr c3
    have c3b1 : ((l0.length : Int) != (l1.length : Int)) = false := bne_eq_false_iff_eq.mpr c3
    have c3b2 : (l0.length == l1.length) = true := by first | simpa using c3 | (simp at c3 ⊢; omega)
    clear c3
    have H' := Aside0.mk H
    clear H
    go_enter Try.func10, Try.ntmps10
    go_wp2
    repeat (go_quiet (fail); try go_wp2)
    go_loopg [5] k (fun kq v5 w' => ∃ (x5_1 : Int), v5 = .int .i64 x5_1 ∧ Aside0 (orthoepyref07_Same.l0 kq l0 l1 x5_1 = some r) ∧ Aside0 (kq ≤ k) ∧ Drawn0 w w')
    case atStart => exact ⟨(0), (by first | rfl | (simp; done) | (simp [*]; done)), H', ⟨Nat.le_refl _⟩, by repeat (first | exact Drawn0.refl _ | apply Drawn0.step)⟩
    case round =>
      clear H'
      try clear c1
      try clear p2
      try clear c3
      try clear c3b0
      try clear c3b1
      try clear c3b2
      obtain ⟨x5_1, rfl, HA, HK1, ⟨m1, rfl⟩⟩ := hrel
      cases gk with
      | zero => exact absurd HA.out (by simp [orthoepyref07_Same.l0])
      | succ k1 =>
        have H := HA.out
        clear HA
        simp only [orthoepyref07_Same.l0] at H
        by_cases c4 : x5_1 < (l0.length : Int)
        · rw [if_pos c4] at H
          have c4b0 : decide (x5_1 < (l0.length : Int)) = true := decide_eq_true c4
          clear c4
          by_cases c5 : 0 ≤ x5_1
          · rw [if_pos c5] at H
            have c5b0 : decide (0 ≤ x5_1) = true := decide_eq_true c5
            clear c5
            by_cases c6 : x5_1 < (l1.length : Int)
            · rw [if_pos c6] at H
              have c6b0 : decide (x5_1 < (l1.length : Int)) = true := decide_eq_true c6
              clear c6
              by_cases c7 : (rd l0 x5_1) = (rd l1 x5_1)
              · rw [if_pos c7] at H
                have c7b0 : ((rd l0 x5_1) == (rd l1 x5_1)) = true := beq_iff_eq.mpr c7
                have c7b1 : ((rd l0 x5_1) != (rd l1 x5_1)) = false := bne_eq_false_iff_eq.mpr c7
                clear c7
                have H' := Aside0.mk H
                clear H
                have p111 : 0 ≤ (x5_1 : Int) := of_decide_eq_true (by first | (with_reducible assumption) | assumption)
                have q111 : x5_1 < (l0.length : Int) := of_decide_eq_true (by first | (with_reducible assumption) | assumption)
                obtain ⟨ad111, e111, hx111_0⟩ := Kd.at_int HR0.out x5_1 p111 q111
                cases e111
                replace p111 := eq_true p111
                replace q111 := eq_true q111
                have p112 : 0 ≤ (x5_1 : Int) := of_decide_eq_true (by first | (with_reducible assumption) | assumption)
                have q112 : x5_1 < (l1.length : Int) := of_decide_eq_true (by first | (with_reducible assumption) | assumption)
                obtain ⟨ad112, e112, hx112_0⟩ := Kd.at_int HR1.out x5_1 p112 q112
                cases e112
                replace p112 := eq_true p112
                replace q112 := eq_true q112
                go_wp2
                repeat (go_quiet (fail); try go_wp2)
                go_roundg k1
                case measure => have := HK1.out; omega
                case rel => exact ⟨(wrap64 (x5_1 + 1)), (by first | rfl | (simp; done) | (simp [*]; done)), H', ⟨by have := HK1.out; omega⟩, by repeat (first | exact Drawn0.refl _ | apply Drawn0.step)⟩
              · rw [if_neg c7] at H
                have c7b0 : ((rd l0 x5_1) == (rd l1 x5_1)) = false := beq_eq_false_iff_ne.mpr c7
                have c7b1 : ((rd l0 x5_1) != (rd l1 x5_1)) = true := bne_iff_ne.mpr c7
                obtain rfl := Option.some.inj H
                have p111 : 0 ≤ (x5_1 : Int) := of_decide_eq_true (by first | (with_reducible assumption) | assumption)
                have q111 : x5_1 < (l0.length : Int) := of_decide_eq_true (by first | (with_reducible assumption) | assumption)
                obtain ⟨ad111, e111, hx111_0⟩ := Kd.at_int HR0.out x5_1 p111 q111
                cases e111
                replace p111 := eq_true p111
                replace q111 := eq_true q111
                have p112 : 0 ≤ (x5_1 : Int) := of_decide_eq_true (by first | (with_reducible assumption) | assumption)
                have q112 : x5_1 < (l1.length : Int) := of_decide_eq_true (by first | (with_reducible assumption) | assumption)
                obtain ⟨ad112, e112, hx112_0⟩ := Kd.at_int HR1.out x5_1 p112 q112
                cases e112
                replace p112 := eq_true p112
                replace q112 := eq_true q112
                go_wp2
                repeat (go_quiet (fail); try go_wp2)
                go_ret
                exact ⟨by first | rfl | (simp; done) | (simp [*]; done), by repeat (first | exact Drawn0.refl _ | apply Drawn0.step)⟩
            · rw [if_neg c6] at H
              exact absurd H (by simp)
          · rw [if_neg c5] at H
            exact absurd H (by simp)
        · rw [if_neg c4] at H
          have c4b0 : decide (x5_1 < (l0.length : Int)) = false := decide_eq_false c4
          clear c4
          obtain rfl := Option.some.inj H
          go_wp2
          repeat (go_quiet (fail); try go_wp2)
          go_ret
          exact ⟨by first | rfl | (simp; done) | (simp [*]; done), by repeat (first | exact Drawn0.refl _ | apply Drawn0.step)⟩
  · rw [if_neg c3] at H
    have c3b0 : ((l0.length : Int) == (l1.length : Int)) = false := beq_eq_false_iff_ne.mpr c3
    have c3b1 : ((l0.length : Int) != (l1.length : Int)) = true := bne_iff_ne.mpr c3
    have c3b2 : (l0.length == l1.length) = false := by first | simpa using c3 | (simp at c3 ⊢; omega)
    obtain rfl := Option.some.inj H
    go_enter Try.func10, Try.ntmps10
    go_wp2
    repeat (go_quiet (fail); try go_wp2)
    go_ret
    exact ⟨by first | rfl | (simp; done) | (simp [*]; done), by repeat (first | exact Drawn0.refl _ | apply Drawn0.step)⟩

/-! ### hangul_Split: function 11 -/
def hangul_Split.j0 : Nat → List Int → Int → Int → Bool → Option (List Int)
  | 0, _, _, _, _ => none
  | k + 1, x3, x4, x5, x11 => if x11 = true then ((some (([wrap32 (4352 + (wrap32 (Int.tdiv x4 588))), wrap32 (4449 + (wrap32 (Int.tdiv (Int.tmod x4 588) 28)))] : List Int) : List Int)).bind fun y114 => (if x3.length + y114.length < 35184372088832 then ((some (x3 ++ y114 : List Int)).bind fun y117 => (if x5 = 5 then (if y117.length < 35184372088832 then (some (y117 ++ [wrap32 (4519 + (Int.tmod x4 28))])) else (none)) else (some y117))) else (none))) else (some x3)
def hangul_Split.f (k : Nat) (a0 : Int) : Option (List Int) := (hangul_of.f k a0).bind fun t113 => (if t113 = 4 then (hangul_Split.j0 k ([] : List Int) (wrap32 (a0 - 44032)) t113 (t113 == 4)) else (hangul_Split.j0 k ([] : List Int) (wrap32 (a0 - 44032)) t113 (t113 == 5)))
theorem hangul_Split.mono_l : ∀ k, (∀ y0 y1 y2 y3, LeO (hangul_Split.j0 k y0 y1 y2 y3) (hangul_Split.j0 (k + 1) y0 y1 y2 y3))
  | 0 => fun _ _ _ _ r h => by simp [hangul_Split.j0] at h
  | k + 1 => by
    have ih0 := hangul_Split.mono_l k
    · intro y0 y1 y2 y3
      unfold hangul_Split.j0
      repeat' first
      | (with_reducible exact ih0 _ _ _ _)
      | (with_reducible exact hangul_of.mono _ _)
      | (with_reducible exact LeO.refl _)
      | (with_reducible exact LeO.none _)
      | (with_reducible refine LeO.ite ?_ ?_)
      | (with_reducible refine LeO.bind ?_ (fun _ => ?_))
      | exact ih0 _ _ _ _
      | exact hangul_of.mono _ _
      | exact LeO.none _
      | refine LeO.ite ?_ ?_
      | refine LeO.bind ?_ (fun _ => ?_)
theorem hangul_Split.mono : ∀ a0 k, LeO (hangul_Split.f k a0) (hangul_Split.f (k + 1) a0) := by
  intro a0 k
  have ih0 := hangul_Split.mono_l k
  unfold hangul_Split.f
  repeat' first
      | (with_reducible exact ih0 _ _ _ _)
      | (with_reducible exact hangul_of.mono _ _)
      | (with_reducible exact LeO.refl _)
      | (with_reducible exact LeO.none _)
      | (with_reducible refine LeO.ite ?_ ?_)
      | (with_reducible refine LeO.bind ?_ (fun _ => ?_))
      | exact ih0 _ _ _ _
      | exact hangul_of.mono _ _
      | exact LeO.none _
      | refine LeO.ite ?_ ?_
      | refine LeO.bind ?_ (fun _ => ?_)
set_option maxHeartbeats 8000000 in
set_option maxRecDepth 100000 in
theorem hangul_Split.calls (k : Nat) (a0 : Int) (r : List Int) (w : World) (h : hangul_Split.f k a0 = some r) :
    Calls Try.prog 11 #[.int .i32 a0] w fun e w' => ∃ v0_ : Value, e = .returned (v0_) ∧ Kd.R (Kd.int .i32) 21 w' w.heap.size (fun _ => True) v0_ r ∧ Below w.heap.size w w' := by
  have HB := Aside0.mk (Below.refl w.heap.size w)
  have H : ((hangul_of.f k a0).bind fun t113 => (if t113 = 4 then (hangul_Split.j0 k ([] : List Int) (wrap32 (a0 - 44032)) t113 (t113 == 4)) else (hangul_Split.j0 k ([] : List Int) (wrap32 (a0 - 44032)) t113 (t113 == 5)))) = some r := h
  clear h
  replace H := Option.bind_eq_some_iff.mp H
  obtain ⟨t113, A20, H⟩ := H
  replace H : (if t113 = 4 then (hangul_Split.j0 k ([] : List Int) (wrap32 (a0 - 44032)) t113 (t113 == 4)) else (hangul_Split.j0 k ([] : List Int) (wrap32 (a0 - 44032)) t113 (t113 == 5))) = some r := H
  have A2 := Aside0.mk A20
  clear A20
  have HC3 := Aside0.mk H
  clear H
  go_enter Try.func11, Try.ntmps11
  go_upto_if 11 with (first | ((with_reducible refine gate_callee (f := 15) rfl ?_); refine goesL_ (some 9) rfl rfl Try.func15 (by kernel_rfl) rfl #[.int .i32 a0] rfl (by (try simp only [List.map_toArray, List.map_cons, List.map_nil]); first | done | rfl | (simp only [List.length_drop, List.length_take]; rfl)) ?_; (with_reducible refine (hangul_of.calls k a0 t113 _ A2.out).mono ?_); rintro e w' ⟨rfl, ⟨nd, rfl⟩⟩; refine ⟨_, rfl, ?_⟩))
  (try simp only [Act.put, List.setIfInBounds_toArray, List.set_cons_zero, List.set_cons_succ])
  go_cut [11] (fun v11 wc => ∃ (kq : Nat) (x11_2 : Bool), v11 = .bool x11_2 ∧ Aside0 (hangul_Split.j0 kq ([] : List Int) (wrap32 (a0 - 44032)) t113 x11_2 = some r) ∧ Aside0 (kq ≤ k) ∧ Aside0 (Kd.R (Kd.int .i32) 21 wc w.heap.size (fun _ => True) (.slice none 0 0) ([] : List Int)) ∧ Aside0 (Below w.heap.size w wc))
  case first =>
    have H := HC3.out
    clear HC3
    by_cases c4 : t113 = 4
    · rw [if_pos c4] at H
      have c4b0 : (t113 == 4) = true := beq_iff_eq.mpr c4
      have c4b1 : (t113 != 4) = false := bne_eq_false_iff_eq.mpr c4
      clear c4
      (first | rw [c4b0] | (simp only [i64_w, i32_w]; rw [c4b0]) | skip)
      have H' := Aside0.mk H
      clear H
      go_wp2
      go_meet
      case rel => exact ⟨_, ((t113 == 4)), (by first | rfl | (simp; done) | (simp [*]; done)), H', ⟨by first | omega | exact Nat.le_refl _⟩, ⟨by first | exact Kd.R_nil _ _ _ _ _ | exact Kd.N_nil _ _ _ _ _ | exact Kd.V_nil _ _ _ _ _ | exact Kd.Q_nil _ _ _ _ _ | exact Kd.S_nil _ _ _ _ _⟩, ⟨by repeat (first | (with_reducible first | exact HB.out | apply below_alloc | apply pw_below_drewN | apply below_drew1) | exact HB.out)⟩⟩
    · rw [if_neg c4] at H
      have c4b0 : (t113 == 4) = false := beq_eq_false_iff_ne.mpr c4
      have c4b1 : (t113 != 4) = true := bne_iff_ne.mpr c4
      (first | rw [c4b0] | (simp only [i64_w, i32_w]; rw [c4b0]) | skip)
      have H' := Aside0.mk H
      clear H
      go_wp2
      go_meet
      case rel => exact ⟨_, ((t113 == 5)), (by first | rfl | (simp; done) | (simp [*]; done)), H', ⟨by first | omega | exact Nat.le_refl _⟩, ⟨by first | exact Kd.R_nil _ _ _ _ _ | exact Kd.N_nil _ _ _ _ _ | exact Kd.V_nil _ _ _ _ _ | exact Kd.Q_nil _ _ _ _ _ | exact Kd.S_nil _ _ _ _ _⟩, ⟨by repeat (first | (with_reducible first | exact HB.out | apply below_alloc | apply pw_below_drewN | apply below_drew1) | exact HB.out)⟩⟩
  case rest =>
    clear HC3
    try clear c1
    try clear p2
    try clear p3
    try clear c4
    try clear c4b0
    try clear c4b1
    obtain ⟨kq, x11_2, rfl, HA, HJ2, HO_3, HB⟩ := hcut
    cases kq with
    | zero => exact absurd HA.out (by simp [hangul_Split.j0])
    | succ kj2 =>
      have H := HA.out
      clear HA
      simp only [hangul_Split.j0] at H
      by_cases c5 : x11_2 = true
      · subst c5
        have H1 : ((some (([wrap32 (4352 + (wrap32 (Int.tdiv (wrap32 (a0 - 44032)) 588))), wrap32 (4449 + (wrap32 (Int.tdiv (Int.tmod (wrap32 (a0 - 44032)) 588) 28)))] : List Int) : List Int)).bind fun y114 => (if ([] : List Int).length + y114.length < 35184372088832 then ((some (([] : List Int) ++ y114 : List Int)).bind fun y117 => (if t113 = 5 then (if y117.length < 35184372088832 then (some (y117 ++ [wrap32 (4519 + (Int.tmod (wrap32 (a0 - 44032)) 28))])) else (none)) else (some y117))) else (none))) = some r := by rw [if_pos rfl] at H; exact H
        clear H
        have H := H1
        clear H1
        obtain ⟨y114, hy114⟩ : ∃ y_ : List Int, y_ = (([wrap32 (4352 + (wrap32 (Int.tdiv (wrap32 (a0 - 44032)) 588))), wrap32 (4449 + (wrap32 (Int.tdiv (Int.tmod (wrap32 (a0 - 44032)) 588) 28)))] : List Int)) := ⟨_, rfl⟩
        replace H : (if ([] : List Int).length + y114.length < 35184372088832 then ((some (([] : List Int) ++ y114 : List Int)).bind fun y117 => (if t113 = 5 then (if y117.length < 35184372088832 then (some (y117 ++ [wrap32 (4519 + (Int.tmod (wrap32 (a0 - 44032)) 28))])) else (none)) else (some y117))) else (none)) = some r := by first | (rw [hy114]; with_reducible exact H) | (have H2_ := (Option.bind_some _ _).symm.trans H; rw [hy114]; with_reducible exact H2_) | (have H2_ := (Option.bind_some _ _).symm.trans H; with_reducible exact H2_) | with_reducible exact H | (rw [hy114]; exact H) | exact H
        have Ny114 := Aside0.mk hy114
        clear hy114
        by_cases c6 : ([] : List Int).length + y114.length < 35184372088832
        · rw [if_pos c6] at H
          have LMc6 := Aside0.mk c6
          clear c6
          obtain ⟨y117, hy117⟩ : ∃ y_ : List Int, y_ = (([] : List Int) ++ y114) := ⟨_, rfl⟩
          replace H : (if t113 = 5 then (if y117.length < 35184372088832 then (some (y117 ++ [wrap32 (4519 + (Int.tmod (wrap32 (a0 - 44032)) 28))])) else (none)) else (some y117)) = some r := by first | (rw [hy117]; with_reducible exact H) | (have H2_ := (Option.bind_some _ _).symm.trans H; rw [hy117]; with_reducible exact H2_) | (have H2_ := (Option.bind_some _ _).symm.trans H; with_reducible exact H2_) | with_reducible exact H | (rw [hy117]; exact H) | exact H
          have Ny117 := Aside0.mk hy117
          clear hy117
          by_cases c7 : t113 = 5
          · rw [if_pos c7] at H
            have c7b0 : (t113 == 5) = true := beq_iff_eq.mpr c7
            have c7b1 : (t113 != 5) = false := bne_eq_false_iff_eq.mpr c7
            clear c7
            by_cases c8 : y117.length < 35184372088832
            · rw [if_pos c8] at H
              have LMc8 := Aside0.mk c8
              clear c8
              obtain ⟨y120, hy120⟩ : ∃ y_ : List Int, y_ = (y117 ++ [wrap32 (4519 + (Int.tmod (wrap32 (a0 - 44032)) 28))]) := ⟨_, rfl⟩
              replace H : (some y120) = some r := by first | (rw [hy120]; with_reducible exact H) | (have H2_ := (Option.bind_some _ _).symm.trans H; rw [hy120]; with_reducible exact H2_) | (have H2_ := (Option.bind_some _ _).symm.trans H; with_reducible exact H2_) | with_reducible exact H | (rw [hy120]; exact H) | exact H
              have Ny120 := Aside0.mk hy120
              clear hy120
              obtain rfl := Option.some.inj H
              go_wp2_with (first | ((with_reducible refine gate_dst (N := 22) rfl ?_); refine Kd.R_lit (Kd.int .i32) _ 21 ?hg (N := 22) ?hd (xs := ([wrap32 (4352 + (wrap32 (Int.tdiv (wrap32 (a0 - 44032)) 588))), wrap32 (4449 + (wrap32 (Int.tdiv (Int.tmod (wrap32 (a0 - 44032)) 588) 28)))] : List Int)) (inner := [.int .i32 (wrap32 (4352 + (wrap32 (Int.tdiv (wrap32 (a0 - 44032)) 588)))), .int .i32 (wrap32 (4449 + (wrap32 (Int.tdiv (Int.tmod (wrap32 (a0 - 44032)) 588) 28))))]) (ok := fun _ => True) (okp := fun _ => True) ?hr ?hp (fun _ hk => hk) trivial (Below.refl _ _) (Nat.le_refl _) (by simp) ?_; (case hd => rfl); (case hg => rfl); (case hr => first | (go_simp; done) | (go_simp; rfl)); (case hp => exact (Reps.one (show Kd.M (Kd.int .i32) _ _ _ (wrap32 (4352 + (wrap32 (Int.tdiv (wrap32 (a0 - 44032)) 588)))) [.int .i32 (wrap32 (4352 + (wrap32 (Int.tdiv (wrap32 (a0 - 44032)) 588))))] from rfl) (Reps.one (show Kd.M (Kd.int .i32) _ _ _ (wrap32 (4449 + (wrap32 (Int.tdiv (Int.tmod (wrap32 (a0 - 44032)) 588) 28)))) [.int .i32 (wrap32 (4449 + (wrap32 (Int.tdiv (Int.tmod (wrap32 (a0 - 44032)) 588) 28))))] from rfl) (Reps.none _ _)))); intro v115 w9 ho10 hb hg_ hnew_; clear hg_ hnew_; (first | rw [← Ny114.out] at ho10 | (simp only [Int.reduceToNat] at ho10; rw [← Ny114.out] at ho10)); have n0_ := Aside0.mk (Kd.R_elder' (by (with_reducible repeat (first | apply Kd.R_alloc | apply Kd.R_drewN | apply Kd.R_drew)); exact HO_3.out) (Kd.R_base ho10) hb); have n1_ := Aside0.mk (Kd.R_lower (Kd.R_new' ho10 (Kd.R_lt (by (with_reducible repeat (first | apply Kd.R_alloc | apply Kd.R_drewN | apply Kd.R_drew)); exact HO_3.out))) (below_size (by repeat (first | (with_reducible first | exact HB.out | apply below_alloc | apply pw_below_drewN | apply below_drew1) | exact HB.out)))); have n2_ := Aside0.mk (below_step (by repeat (first | (with_reducible first | exact HB.out | apply below_alloc | apply pw_below_drewN | apply below_drew1) | exact HB.out)) hb); clear HO_3; clear HB; have HO_3 := n0_; have HO116 := n1_; have HB := n2_; clear n0_ n1_ n2_; clear hb ho10; obtain ⟨Ao12, co12, eo12⟩ := Kd.R_slice HO116.out; subst eo12) | ((with_reducible refine gate_builtin (b := .append) (xs := #[.tmp 14, .tmp 22]) rfl ?_); at_builtin; refine Kd.R_append_rows (Kd.int .i32) (w0 := w) w.heap.size rfl (.tmp 14) (.tmp 22) 26 21 (.int .i32 0) 4 rfl Try.underlying26 info21 rfl (by decide) (by omega) (.slice none 0 0) ([] : List Int) y114 _ _ _ (fun k_ => some k_ ≠ (.slice Ao12 y114.length co12 : Value).ownBlock) (fun _ => False) rfl rfl ?aO ?aR (fun _ _ h => h) (fun _ h => h.elim) ?aF ?aB ?aS ?aL ?_; (case aR => repeat (first | exact (Kd.R_reads' HO116.out).2.2 | (with_reducible refine Kd.C_alloc ?_ _) | (with_reducible refine Kd.C_drewN ?_ _) | (with_reducible refine Kd.C_drew ?_))); (case aB => exact (by repeat (first | (with_reducible first | exact HB.out | apply below_alloc | apply pw_below_drewN | apply below_drew1) | exact HB.out))); (case aF => exact (fun k_ hk => Kd.fresh' (Kd.R_lt (by (with_reducible repeat (first | apply Kd.R_alloc | apply Kd.R_drewN | apply Kd.R_drew)); exact HO116.out)) k_ hk)); (case aO => exact (by (with_reducible repeat (first | apply Kd.R_alloc | apply Kd.R_drewN | apply Kd.R_drew)); exact Kd.R_mono HO_3.out (fun _ hk => hk.2))); (case aS => exact (below_size (by repeat (first | (with_reducible first | exact HB.out | apply below_alloc | apply pw_below_drewN | apply below_drew1) | exact HB.out)))); (case aL => have := LMc6.out; omega); intro v118 w11 ho hb hg hat; rw [← Ny117.out] at ho; have n0_ := Aside0.mk (Kd.R_after (ok := (fun _ => True)) (by (with_reducible repeat (first | apply Kd.R_alloc | apply Kd.R_drewN | apply Kd.R_drew)); exact HO116.out) hg hat); have n1_ := Aside0.mk (hb); have n2_ := Aside0.mk (ho); clear HO116; clear HB; clear HO_3; have HO116 := n0_; have HB := n1_; have HO119 := n2_; clear n0_ n1_ n2_; clear ho hb hg hat) | ((with_reducible refine gate_builtin (b := .append) (xs := #[.tmp 26, .tmp 30]) rfl ?_); at_builtin; refine Kd.R_append (Kd.int .i32) (w0 := w) w.heap.size rfl (.tmp 26) (.tmp 30) 26 21 (.int .i32 0) 4 rfl Try.underlying26 info21 rfl (by decide) (by omega) v118 y117 (wrap32 (4519 + (Int.tmod (wrap32 (a0 - 44032)) 28))) [.int .i32 (wrap32 (4519 + (Int.tmod (wrap32 (a0 - 44032)) 28)))] (fun k_ => some k_ ≠ (.slice Ao12 y114.length co12 : Value).ownBlock) (fun _ => False) rfl rfl ?aP (fun _ hk => hk.elim) ?aF ?aO ?aB ?aS ?aL ?_; (case aP => exact rfl); (case aB => exact (by repeat (first | (with_reducible first | exact HB.out | apply below_alloc | apply pw_below_drewN | apply below_drew1) | exact HB.out))); (case aF => exact (fun k_ hk => Kd.fresh' (Kd.R_lt (by (with_reducible repeat (first | apply Kd.R_alloc | apply Kd.R_drewN | apply Kd.R_drew)); exact HO116.out)) k_ hk)); (case aO => exact (by (with_reducible repeat (first | apply Kd.R_alloc | apply Kd.R_drewN | apply Kd.R_drew)); exact HO119.out)); (case aS => exact (below_size (by repeat (first | (with_reducible first | exact HB.out | apply below_alloc | apply pw_below_drewN | apply below_drew1) | exact HB.out)))); (case aL => have := LMc8.out; omega); intro v121 w13 ho hb hg hat; rw [← Ny120.out] at ho; have n0_ := Aside0.mk (Kd.R_after (ok := (fun _ => True)) (by (with_reducible repeat (first | apply Kd.R_alloc | apply Kd.R_drewN | apply Kd.R_drew)); exact HO116.out) hg hat); have n1_ := Aside0.mk (hb); have n2_ := Aside0.mk (ho); clear HO116; clear HB; clear HO119; have HO116 := n0_; have HB := n1_; have HO122 := n2_; clear n0_ n1_ n2_; clear ho hb hg hat))
              go_ret
              exact ⟨_, by first | rfl | (simp [errW_none, errW_some] <;> rfl) | (simp [*, errW_none, errW_some] <;> rfl), by (with_reducible repeat (first | apply Kd.R_alloc | apply Kd.R_drewN | apply Kd.R_drew)); exact Kd.R_mono HO122.out (fun _ hk => trivial), by repeat (first | (with_reducible first | exact HB.out | apply below_alloc | apply pw_below_drewN | apply below_drew1) | exact HB.out)⟩
            · rw [if_neg c8] at H
              exact absurd H (by simp)
          · rw [if_neg c7] at H
            have c7b0 : (t113 == 5) = false := beq_eq_false_iff_ne.mpr c7
            have c7b1 : (t113 != 5) = true := bne_iff_ne.mpr c7
            obtain rfl := Option.some.inj H
            go_wp2_with (first | ((with_reducible refine gate_dst (N := 22) rfl ?_); refine Kd.R_lit (Kd.int .i32) _ 21 ?hg (N := 22) ?hd (xs := ([wrap32 (4352 + (wrap32 (Int.tdiv (wrap32 (a0 - 44032)) 588))), wrap32 (4449 + (wrap32 (Int.tdiv (Int.tmod (wrap32 (a0 - 44032)) 588) 28)))] : List Int)) (inner := [.int .i32 (wrap32 (4352 + (wrap32 (Int.tdiv (wrap32 (a0 - 44032)) 588)))), .int .i32 (wrap32 (4449 + (wrap32 (Int.tdiv (Int.tmod (wrap32 (a0 - 44032)) 588) 28))))]) (ok := fun _ => True) (okp := fun _ => True) ?hr ?hp (fun _ hk => hk) trivial (Below.refl _ _) (Nat.le_refl _) (by simp) ?_; (case hd => rfl); (case hg => rfl); (case hr => first | (go_simp; done) | (go_simp; rfl)); (case hp => exact (Reps.one (show Kd.M (Kd.int .i32) _ _ _ (wrap32 (4352 + (wrap32 (Int.tdiv (wrap32 (a0 - 44032)) 588)))) [.int .i32 (wrap32 (4352 + (wrap32 (Int.tdiv (wrap32 (a0 - 44032)) 588))))] from rfl) (Reps.one (show Kd.M (Kd.int .i32) _ _ _ (wrap32 (4449 + (wrap32 (Int.tdiv (Int.tmod (wrap32 (a0 - 44032)) 588) 28)))) [.int .i32 (wrap32 (4449 + (wrap32 (Int.tdiv (Int.tmod (wrap32 (a0 - 44032)) 588) 28))))] from rfl) (Reps.none _ _)))); intro v115 w14 ho15 hb hg_ hnew_; clear hg_ hnew_; (first | rw [← Ny114.out] at ho15 | (simp only [Int.reduceToNat] at ho15; rw [← Ny114.out] at ho15)); have n0_ := Aside0.mk (Kd.R_elder' (by (with_reducible repeat (first | apply Kd.R_alloc | apply Kd.R_drewN | apply Kd.R_drew)); exact HO_3.out) (Kd.R_base ho15) hb); have n1_ := Aside0.mk (Kd.R_lower (Kd.R_new' ho15 (Kd.R_lt (by (with_reducible repeat (first | apply Kd.R_alloc | apply Kd.R_drewN | apply Kd.R_drew)); exact HO_3.out))) (below_size (by repeat (first | (with_reducible first | exact HB.out | apply below_alloc | apply pw_below_drewN | apply below_drew1) | exact HB.out)))); have n2_ := Aside0.mk (below_step (by repeat (first | (with_reducible first | exact HB.out | apply below_alloc | apply pw_below_drewN | apply below_drew1) | exact HB.out)) hb); clear HO_3; clear HB; have HO_3 := n0_; have HO116 := n1_; have HB := n2_; clear n0_ n1_ n2_; clear hb ho15; obtain ⟨Ao17, co17, eo17⟩ := Kd.R_slice HO116.out; subst eo17) | ((with_reducible refine gate_builtin (b := .append) (xs := #[.tmp 14, .tmp 22]) rfl ?_); at_builtin; refine Kd.R_append_rows (Kd.int .i32) (w0 := w) w.heap.size rfl (.tmp 14) (.tmp 22) 26 21 (.int .i32 0) 4 rfl Try.underlying26 info21 rfl (by decide) (by omega) (.slice none 0 0) ([] : List Int) y114 _ _ _ (fun k_ => some k_ ≠ (.slice Ao17 y114.length co17 : Value).ownBlock) (fun _ => False) rfl rfl ?aO ?aR (fun _ _ h => h) (fun _ h => h.elim) ?aF ?aB ?aS ?aL ?_; (case aR => repeat (first | exact (Kd.R_reads' HO116.out).2.2 | (with_reducible refine Kd.C_alloc ?_ _) | (with_reducible refine Kd.C_drewN ?_ _) | (with_reducible refine Kd.C_drew ?_))); (case aB => exact (by repeat (first | (with_reducible first | exact HB.out | apply below_alloc | apply pw_below_drewN | apply below_drew1) | exact HB.out))); (case aF => exact (fun k_ hk => Kd.fresh' (Kd.R_lt (by (with_reducible repeat (first | apply Kd.R_alloc | apply Kd.R_drewN | apply Kd.R_drew)); exact HO116.out)) k_ hk)); (case aO => exact (by (with_reducible repeat (first | apply Kd.R_alloc | apply Kd.R_drewN | apply Kd.R_drew)); exact Kd.R_mono HO_3.out (fun _ hk => hk.2))); (case aS => exact (below_size (by repeat (first | (with_reducible first | exact HB.out | apply below_alloc | apply pw_below_drewN | apply below_drew1) | exact HB.out)))); (case aL => have := LMc6.out; omega); intro v118 w16 ho hb hg hat; rw [← Ny117.out] at ho; have n0_ := Aside0.mk (Kd.R_after (ok := (fun _ => True)) (by (with_reducible repeat (first | apply Kd.R_alloc | apply Kd.R_drewN | apply Kd.R_drew)); exact HO116.out) hg hat); have n1_ := Aside0.mk (hb); have n2_ := Aside0.mk (ho); clear HO116; clear HB; clear HO_3; have HO116 := n0_; have HB := n1_; have HO119 := n2_; clear n0_ n1_ n2_; clear ho hb hg hat))
            go_ret
            exact ⟨_, by first | rfl | (simp [errW_none, errW_some] <;> rfl) | (simp [*, errW_none, errW_some] <;> rfl), by (with_reducible repeat (first | apply Kd.R_alloc | apply Kd.R_drewN | apply Kd.R_drew)); exact Kd.R_mono HO119.out (fun _ hk => trivial), by repeat (first | (with_reducible first | exact HB.out | apply below_alloc | apply pw_below_drewN | apply below_drew1) | exact HB.out)⟩
        · rw [if_neg c6] at H
          exact absurd H (by simp)
      · replace c5 := Bool.eq_false_iff.mpr c5
        subst c5
        have H1 : (some ([] : List Int)) = some r := by rw [if_neg (show ¬ (false = true) by decide)] at H; exact H
        clear H
        have H := H1
        clear H1
        obtain rfl := Option.some.inj H
        go_wp2
        go_ret
        exact ⟨_, by first | rfl | (simp [errW_none, errW_some] <;> rfl) | (simp [*, errW_none, errW_some] <;> rfl), by (with_reducible repeat (first | apply Kd.R_alloc | apply Kd.R_drewN | apply Kd.R_drew)); exact HO_3.out, by repeat (first | (with_reducible first | exact HB.out | apply below_alloc | apply pw_below_drewN | apply below_drew1) | exact HB.out)⟩

/-! ### orthoepyref06_Split: function 12 -/
def orthoepyref06_Split.f (k : Nat) (a0 : Int) : Option (List Int) := (orthoepyref06_Kind.f k a0).bind fun t123 => (if t123 < 4 then (some ([] : List Int)) else ((some (([wrap32 (4352 + (wrap32 (Int.tdiv (wrap32 (a0 - 44032)) 588))), wrap32 (4449 + (wrap32 (Int.tdiv (Int.tmod (wrap32 (a0 - 44032)) 588) 28)))] : List Int) : List Int)).bind fun y124 => (if (Int.tmod (wrap32 (a0 - 44032)) 28) > 0 then (if y124.length < 35184372088832 then (some (y124 ++ [wrap32 (4519 + (Int.tmod (wrap32 (a0 - 44032)) 28))])) else (none)) else (some y124))))
theorem orthoepyref06_Split.mono : ∀ a0 k, LeO (orthoepyref06_Split.f k a0) (orthoepyref06_Split.f (k + 1) a0) := by
  intro a0 k
  unfold orthoepyref06_Split.f
  repeat' first
      | (with_reducible exact orthoepyref06_Kind.mono _ _)
      | (with_reducible exact LeO.refl _)
      | (with_reducible exact LeO.none _)
      | (with_reducible refine LeO.ite ?_ ?_)
      | (with_reducible refine LeO.bind ?_ (fun _ => ?_))
      | exact orthoepyref06_Kind.mono _ _
      | exact LeO.none _
      | refine LeO.ite ?_ ?_
      | refine LeO.bind ?_ (fun _ => ?_)
set_option maxHeartbeats 8000000 in
set_option maxRecDepth 100000 in
theorem orthoepyref06_Split.calls (k : Nat) (a0 : Int) (r : List Int) (w : World) (h : orthoepyref06_Split.f k a0 = some r) :
    Calls Try.prog 12 #[.int .i32 a0] w fun e w' => ∃ v0_ : Value, e = .returned (v0_) ∧ Kd.R (Kd.int .i32) 21 w' w.heap.size (fun _ => True) v0_ r ∧ Below w.heap.size w w' := by
  have HB := Aside0.mk (Below.refl w.heap.size w)
  have H : ((orthoepyref06_Kind.f k a0).bind fun t123 => (if t123 < 4 then (some ([] : List Int)) else ((some (([wrap32 (4352 + (wrap32 (Int.tdiv (wrap32 (a0 - 44032)) 588))), wrap32 (4449 + (wrap32 (Int.tdiv (Int.tmod (wrap32 (a0 - 44032)) 588) 28)))] : List Int) : List Int)).bind fun y124 => (if (Int.tmod (wrap32 (a0 - 44032)) 28) > 0 then (if y124.length < 35184372088832 then (some (y124 ++ [wrap32 (4519 + (Int.tmod (wrap32 (a0 - 44032)) 28))])) else (none)) else (some y124))))) = some r := h
  clear h
  replace H := Option.bind_eq_some_iff.mp H
  obtain ⟨t123, A20, H⟩ := H
  replace H : (if t123 < 4 then (some ([] : List Int)) else ((some (([wrap32 (4352 + (wrap32 (Int.tdiv (wrap32 (a0 - 44032)) 588))), wrap32 (4449 + (wrap32 (Int.tdiv (Int.tmod (wrap32 (a0 - 44032)) 588) 28)))] : List Int) : List Int)).bind fun y124 => (if (Int.tmod (wrap32 (a0 - 44032)) 28) > 0 then (if y124.length < 35184372088832 then (some (y124 ++ [wrap32 (4519 + (Int.tmod (wrap32 (a0 - 44032)) 28))])) else (none)) else (some y124)))) = some r := H
  have A2 := Aside0.mk A20
  clear A20
  by_cases c3 : t123 < 4
  · rw [if_pos c3] at H
    have c3b0 : decide (t123 < 4) = true := decide_eq_true c3
    clear c3
    obtain rfl := Option.some.inj H
    go_enter Try.func12, Try.ntmps12
    go_wp2_with (first | ((with_reducible refine gate_callee (f := 9) rfl ?_); refine goesL_ (some 6) rfl rfl Try.func9 (by kernel_rfl) rfl #[.int .i32 a0] rfl (by (try simp only [List.map_toArray, List.map_cons, List.map_nil]); first | done | rfl | (simp only [List.length_drop, List.length_take]; rfl)) ?_; (with_reducible refine (orthoepyref06_Kind.calls k a0 t123 _ A2.out).mono ?_); rintro e w' ⟨rfl, ⟨nd, rfl⟩⟩; refine ⟨_, rfl, ?_⟩))
    go_ret
    exact ⟨_, by first | rfl | (simp [errW_none, errW_some] <;> rfl) | (simp [*, errW_none, errW_some] <;> rfl), by first | exact Kd.R_nil _ _ _ _ _ | exact Kd.N_nil _ _ _ _ _ | exact Kd.V_nil _ _ _ _ _ | exact Kd.Q_nil _ _ _ _ _ | exact Kd.S_nil _ _ _ _ _, by repeat (first | (with_reducible first | exact HB.out | apply below_alloc | apply pw_below_drewN | apply below_drew1) | exact HB.out)⟩
  · rw [if_neg c3] at H
    have c3b0 : decide (t123 < 4) = false := decide_eq_false c3
    clear c3
    obtain ⟨y124, hy124⟩ : ∃ y_ : List Int, y_ = (([wrap32 (4352 + (wrap32 (Int.tdiv (wrap32 (a0 - 44032)) 588))), wrap32 (4449 + (wrap32 (Int.tdiv (Int.tmod (wrap32 (a0 - 44032)) 588) 28)))] : List Int)) := ⟨_, rfl⟩
    replace H : (if (Int.tmod (wrap32 (a0 - 44032)) 28) > 0 then (if y124.length < 35184372088832 then (some (y124 ++ [wrap32 (4519 + (Int.tmod (wrap32 (a0 - 44032)) 28))])) else (none)) else (some y124)) = some r := by first | (rw [hy124]; with_reducible exact H) | (have H2_ := (Option.bind_some _ _).symm.trans H; rw [hy124]; with_reducible exact H2_) | (have H2_ := (Option.bind_some _ _).symm.trans H; with_reducible exact H2_) | with_reducible exact H | (rw [hy124]; exact H) | exact H
    have Ny124 := Aside0.mk hy124
    clear hy124
    by_cases c4 : (Int.tmod (wrap32 (a0 - 44032)) 28) > 0
    · rw [if_pos c4] at H
      have c4b0 : decide (0 < (Int.tmod (wrap32 (a0 - 44032)) 28)) = true := decide_eq_true c4
      clear c4
      by_cases c5 : y124.length < 35184372088832
      · rw [if_pos c5] at H
        have LMc5 := Aside0.mk c5
        clear c5
        obtain ⟨y127, hy127⟩ : ∃ y_ : List Int, y_ = (y124 ++ [wrap32 (4519 + (Int.tmod (wrap32 (a0 - 44032)) 28))]) := ⟨_, rfl⟩
        replace H : (some y127) = some r := by first | (rw [hy127]; with_reducible exact H) | (have H2_ := (Option.bind_some _ _).symm.trans H; rw [hy127]; with_reducible exact H2_) | (have H2_ := (Option.bind_some _ _).symm.trans H; with_reducible exact H2_) | with_reducible exact H | (rw [hy127]; exact H) | exact H
        have Ny127 := Aside0.mk hy127
        clear hy127
        obtain rfl := Option.some.inj H
        go_enter Try.func12, Try.ntmps12
        go_wp2_with (first | ((with_reducible refine gate_callee (f := 9) rfl ?_); refine goesL_ (some 6) rfl rfl Try.func9 (by kernel_rfl) rfl #[.int .i32 a0] rfl (by (try simp only [List.map_toArray, List.map_cons, List.map_nil]); first | done | rfl | (simp only [List.length_drop, List.length_take]; rfl)) ?_; (with_reducible refine (orthoepyref06_Kind.calls k a0 t123 _ A2.out).mono ?_); rintro e w' ⟨rfl, ⟨nd, rfl⟩⟩; refine ⟨_, rfl, ?_⟩) | ((with_reducible refine gate_dst (N := 17) rfl ?_); refine Kd.R_lit (Kd.int .i32) _ 21 ?hg (N := 17) ?hd (xs := ([wrap32 (4352 + (wrap32 (Int.tdiv (wrap32 (a0 - 44032)) 588))), wrap32 (4449 + (wrap32 (Int.tdiv (Int.tmod (wrap32 (a0 - 44032)) 588) 28)))] : List Int)) (inner := [.int .i32 (wrap32 (4352 + (wrap32 (Int.tdiv (wrap32 (a0 - 44032)) 588)))), .int .i32 (wrap32 (4449 + (wrap32 (Int.tdiv (Int.tmod (wrap32 (a0 - 44032)) 588) 28))))]) (ok := fun _ => True) (okp := fun _ => True) ?hr ?hp (fun _ hk => hk) trivial (Below.refl _ _) (Nat.le_refl _) (by simp) ?_; (case hd => rfl); (case hg => rfl); (case hr => first | (go_simp; done) | (go_simp; rfl)); (case hp => exact (Reps.one (show Kd.M (Kd.int .i32) _ _ _ (wrap32 (4352 + (wrap32 (Int.tdiv (wrap32 (a0 - 44032)) 588)))) [.int .i32 (wrap32 (4352 + (wrap32 (Int.tdiv (wrap32 (a0 - 44032)) 588))))] from rfl) (Reps.one (show Kd.M (Kd.int .i32) _ _ _ (wrap32 (4449 + (wrap32 (Int.tdiv (Int.tmod (wrap32 (a0 - 44032)) 588) 28)))) [.int .i32 (wrap32 (4449 + (wrap32 (Int.tdiv (Int.tmod (wrap32 (a0 - 44032)) 588) 28))))] from rfl) (Reps.none _ _)))); intro v125 w6 ho7 hb hg_ hnew_; clear hg_ hnew_; (first | rw [← Ny124.out] at ho7 | (simp only [Int.reduceToNat] at ho7; rw [← Ny124.out] at ho7)); have n0_ := Aside0.mk (Kd.R_lower ho7 (below_size (by repeat (first | (with_reducible first | exact HB.out | apply below_alloc | apply pw_below_drewN | apply below_drew1) | exact HB.out)))); have n1_ := Aside0.mk (below_step (by repeat (first | (with_reducible first | exact HB.out | apply below_alloc | apply pw_below_drewN | apply below_drew1) | exact HB.out)) hb); clear HB; have HO126 := n0_; have HB := n1_; clear n0_ n1_; clear hb ho7) | ((with_reducible refine gate_builtin (b := .append) (xs := #[.tmp 21, .tmp 25]) rfl ?_); at_builtin; refine Kd.R_append (Kd.int .i32) (w0 := w) w.heap.size rfl (.tmp 21) (.tmp 25) 26 21 (.int .i32 0) 4 rfl Try.underlying26 info21 rfl (by decide) (by omega) v125 y124 (wrap32 (4519 + (Int.tmod (wrap32 (a0 - 44032)) 28))) [.int .i32 (wrap32 (4519 + (Int.tmod (wrap32 (a0 - 44032)) 28)))] (fun _ => True) (fun _ => False) rfl rfl ?aP (fun _ hk => hk.elim) ?aF ?aO ?aB ?aS ?aL ?_; (case aP => exact rfl); (case aB => exact (by repeat (first | (with_reducible first | exact HB.out | apply below_alloc | apply pw_below_drewN | apply below_drew1) | exact HB.out))); (case aF => exact (fun _ _ => trivial)); (case aO => exact (by (with_reducible repeat (first | apply Kd.R_alloc | apply Kd.R_drewN | apply Kd.R_drew)); exact HO126.out)); (case aS => exact (below_size (by repeat (first | (with_reducible first | exact HB.out | apply below_alloc | apply pw_below_drewN | apply below_drew1) | exact HB.out)))); (case aL => have := LMc5.out; omega); intro v128 w8 ho hb hg hat; rw [← Ny127.out] at ho; have n0_ := Aside0.mk (hb); have n1_ := Aside0.mk (ho); clear HB; clear HO126; have HB := n0_; have HO129 := n1_; clear n0_ n1_; clear ho hb hg hat))
        go_ret
        exact ⟨_, by first | rfl | (simp [errW_none, errW_some] <;> rfl) | (simp [*, errW_none, errW_some] <;> rfl), by (with_reducible repeat (first | apply Kd.R_alloc | apply Kd.R_drewN | apply Kd.R_drew)); exact HO129.out, by repeat (first | (with_reducible first | exact HB.out | apply below_alloc | apply pw_below_drewN | apply below_drew1) | exact HB.out)⟩
      · rw [if_neg c5] at H
        exact absurd H (by simp)
    · rw [if_neg c4] at H
      have c4b0 : decide (0 < (Int.tmod (wrap32 (a0 - 44032)) 28)) = false := decide_eq_false c4
      clear c4
      obtain rfl := Option.some.inj H
      go_enter Try.func12, Try.ntmps12
      go_wp2_with (first | ((with_reducible refine gate_callee (f := 9) rfl ?_); refine goesL_ (some 6) rfl rfl Try.func9 (by kernel_rfl) rfl #[.int .i32 a0] rfl (by (try simp only [List.map_toArray, List.map_cons, List.map_nil]); first | done | rfl | (simp only [List.length_drop, List.length_take]; rfl)) ?_; (with_reducible refine (orthoepyref06_Kind.calls k a0 t123 _ A2.out).mono ?_); rintro e w' ⟨rfl, ⟨nd, rfl⟩⟩; refine ⟨_, rfl, ?_⟩) | ((with_reducible refine gate_dst (N := 17) rfl ?_); refine Kd.R_lit (Kd.int .i32) _ 21 ?hg (N := 17) ?hd (xs := ([wrap32 (4352 + (wrap32 (Int.tdiv (wrap32 (a0 - 44032)) 588))), wrap32 (4449 + (wrap32 (Int.tdiv (Int.tmod (wrap32 (a0 - 44032)) 588) 28)))] : List Int)) (inner := [.int .i32 (wrap32 (4352 + (wrap32 (Int.tdiv (wrap32 (a0 - 44032)) 588)))), .int .i32 (wrap32 (4449 + (wrap32 (Int.tdiv (Int.tmod (wrap32 (a0 - 44032)) 588) 28))))]) (ok := fun _ => True) (okp := fun _ => True) ?hr ?hp (fun _ hk => hk) trivial (Below.refl _ _) (Nat.le_refl _) (by simp) ?_; (case hd => rfl); (case hg => rfl); (case hr => first | (go_simp; done) | (go_simp; rfl)); (case hp => exact (Reps.one (show Kd.M (Kd.int .i32) _ _ _ (wrap32 (4352 + (wrap32 (Int.tdiv (wrap32 (a0 - 44032)) 588)))) [.int .i32 (wrap32 (4352 + (wrap32 (Int.tdiv (wrap32 (a0 - 44032)) 588))))] from rfl) (Reps.one (show Kd.M (Kd.int .i32) _ _ _ (wrap32 (4449 + (wrap32 (Int.tdiv (Int.tmod (wrap32 (a0 - 44032)) 588) 28)))) [.int .i32 (wrap32 (4449 + (wrap32 (Int.tdiv (Int.tmod (wrap32 (a0 - 44032)) 588) 28))))] from rfl) (Reps.none _ _)))); intro v125 w9 ho10 hb hg_ hnew_; clear hg_ hnew_; (first | rw [← Ny124.out] at ho10 | (simp only [Int.reduceToNat] at ho10; rw [← Ny124.out] at ho10)); have n0_ := Aside0.mk (Kd.R_lower ho10 (below_size (by repeat (first | (with_reducible first | exact HB.out | apply below_alloc | apply pw_below_drewN | apply below_drew1) | exact HB.out)))); have n1_ := Aside0.mk (below_step (by repeat (first | (with_reducible first | exact HB.out | apply below_alloc | apply pw_below_drewN | apply below_drew1) | exact HB.out)) hb); clear HB; have HO126 := n0_; have HB := n1_; clear n0_ n1_; clear hb ho10))
      go_ret
      exact ⟨_, by first | rfl | (simp [errW_none, errW_some] <;> rfl) | (simp [*, errW_none, errW_some] <;> rfl), by (with_reducible repeat (first | apply Kd.R_alloc | apply Kd.R_drewN | apply Kd.R_drew)); exact HO126.out, by repeat (first | (with_reducible first | exact HB.out | apply below_alloc | apply pw_below_drewN | apply below_drew1) | exact HB.out)⟩

/-! ### orthoepylaw06_awake: function 13 -/
def orthoepylaw06_awake.f (k : Nat)  : Option (Bool) := (hangul_Split.f k 44033).bind fun t130 => ((hangul_Join.f k 4352 4449).bind fun bt133 => ((hangul_Join.f k bt133.1 4520).bind fun bt135 => ((hangul_Join.f k bt135.1 4520).bind fun bt137 => (if (t130.length : Int) = 3 then (if 0 < (t130.length : Int) then (if (rd t130 0) = 4352 then (if 1 < (t130.length : Int) then (if (rd t130 1) = 4449 then (if 2 < (t130.length : Int) then (if (rd t130 2) = 4520 then (if bt133.2 = true then (if bt133.1 = 44032 then (if bt135.2 = true then (if bt135.1 = 44033 then (if bt137.2 = true then (some false) else ((hangul_Kind.f k bt133.1).bind fun t142 => (if t142 = 4 then ((hangul_Kind.f k bt135.1).bind fun t143 => (if t143 = 5 then ((hangul_Kind.f k 97).bind fun t144 => (some (t144 == 0))) else (some false))) else (some false)))) else (some false)) else (some false)) else (some false)) else (some false)) else (some false)) else (none)) else (some false)) else (none)) else (some false)) else (none)) else (some false)))))
theorem orthoepylaw06_awake.mono : ∀ k, LeO (orthoepylaw06_awake.f k ) (orthoepylaw06_awake.f (k + 1) ) := by
  intro  k
  unfold orthoepylaw06_awake.f
  repeat' first
      | (with_reducible exact hangul_Join.mono _ _ _)
      | (with_reducible exact hangul_Kind.mono _ _)
      | (with_reducible exact hangul_Split.mono _ _)
      | (with_reducible exact LeO.refl _)
      | (with_reducible exact LeO.none _)
      | (with_reducible refine LeO.ite ?_ ?_)
      | (with_reducible refine LeO.bind ?_ (fun _ => ?_))
      | exact hangul_Join.mono _ _ _
      | exact hangul_Kind.mono _ _
      | exact hangul_Split.mono _ _
      | exact LeO.none _
      | refine LeO.ite ?_ ?_
      | refine LeO.bind ?_ (fun _ => ?_)
set_option maxHeartbeats 8000000 in
set_option maxRecDepth 100000 in
theorem orthoepylaw06_awake.calls (k : Nat)  (r : Bool) (w : World) (h : orthoepylaw06_awake.f k  = some r) :
    Calls Try.prog 13 #[] w fun e w' => e = .returned (.bool r) ∧ Below w.heap.size w w' := by
  have HB := Aside0.mk (Below.refl w.heap.size w)
  have H : ((hangul_Split.f k 44033).bind fun t130 => ((hangul_Join.f k 4352 4449).bind fun bt133 => ((hangul_Join.f k bt133.1 4520).bind fun bt135 => ((hangul_Join.f k bt135.1 4520).bind fun bt137 => (if (t130.length : Int) = 3 then (if 0 < (t130.length : Int) then (if (rd t130 0) = 4352 then (if 1 < (t130.length : Int) then (if (rd t130 1) = 4449 then (if 2 < (t130.length : Int) then (if (rd t130 2) = 4520 then (if bt133.2 = true then (if bt133.1 = 44032 then (if bt135.2 = true then (if bt135.1 = 44033 then (if bt137.2 = true then (some false) else ((hangul_Kind.f k bt133.1).bind fun t142 => (if t142 = 4 then ((hangul_Kind.f k bt135.1).bind fun t143 => (if t143 = 5 then ((hangul_Kind.f k 97).bind fun t144 => (some (t144 == 0))) else (some false))) else (some false)))) else (some false)) else (some false)) else (some false)) else (some false)) else (some false)) else (none)) else (some false)) else (none)) else (some false)) else (none)) else (some false)))))) = some r := h
  clear h
  replace H := Option.bind_eq_some_iff.mp H
  obtain ⟨t130, A10, H⟩ := H
  replace H : ((hangul_Join.f k 4352 4449).bind fun bt133 => ((hangul_Join.f k bt133.1 4520).bind fun bt135 => ((hangul_Join.f k bt135.1 4520).bind fun bt137 => (if (t130.length : Int) = 3 then (if 0 < (t130.length : Int) then (if (rd t130 0) = 4352 then (if 1 < (t130.length : Int) then (if (rd t130 1) = 4449 then (if 2 < (t130.length : Int) then (if (rd t130 2) = 4520 then (if bt133.2 = true then (if bt133.1 = 44032 then (if bt135.2 = true then (if bt135.1 = 44033 then (if bt137.2 = true then (some false) else ((hangul_Kind.f k bt133.1).bind fun t142 => (if t142 = 4 then ((hangul_Kind.f k bt135.1).bind fun t143 => (if t143 = 5 then ((hangul_Kind.f k 97).bind fun t144 => (some (t144 == 0))) else (some false))) else (some false)))) else (some false)) else (some false)) else (some false)) else (some false)) else (some false)) else (none)) else (some false)) else (none)) else (some false)) else (none)) else (some false))))) = some r := H
  have A1 := Aside0.mk A10
  clear A10
  replace H := Option.bind_eq_some_iff.mp H
  obtain ⟨⟨t133, t134⟩, A20, H⟩ := H
  replace H : ((hangul_Join.f k t133 4520).bind fun bt135 => ((hangul_Join.f k bt135.1 4520).bind fun bt137 => (if (t130.length : Int) = 3 then (if 0 < (t130.length : Int) then (if (rd t130 0) = 4352 then (if 1 < (t130.length : Int) then (if (rd t130 1) = 4449 then (if 2 < (t130.length : Int) then (if (rd t130 2) = 4520 then (if t134 = true then (if t133 = 44032 then (if bt135.2 = true then (if bt135.1 = 44033 then (if bt137.2 = true then (some false) else ((hangul_Kind.f k t133).bind fun t142 => (if t142 = 4 then ((hangul_Kind.f k bt135.1).bind fun t143 => (if t143 = 5 then ((hangul_Kind.f k 97).bind fun t144 => (some (t144 == 0))) else (some false))) else (some false)))) else (some false)) else (some false)) else (some false)) else (some false)) else (some false)) else (none)) else (some false)) else (none)) else (some false)) else (none)) else (some false)))) = some r := H
  have A2 := Aside0.mk A20
  clear A20
  replace H := Option.bind_eq_some_iff.mp H
  obtain ⟨⟨t135, t136⟩, A30, H⟩ := H
  replace H : ((hangul_Join.f k t135 4520).bind fun bt137 => (if (t130.length : Int) = 3 then (if 0 < (t130.length : Int) then (if (rd t130 0) = 4352 then (if 1 < (t130.length : Int) then (if (rd t130 1) = 4449 then (if 2 < (t130.length : Int) then (if (rd t130 2) = 4520 then (if t134 = true then (if t133 = 44032 then (if t136 = true then (if t135 = 44033 then (if bt137.2 = true then (some false) else ((hangul_Kind.f k t133).bind fun t142 => (if t142 = 4 then ((hangul_Kind.f k t135).bind fun t143 => (if t143 = 5 then ((hangul_Kind.f k 97).bind fun t144 => (some (t144 == 0))) else (some false))) else (some false)))) else (some false)) else (some false)) else (some false)) else (some false)) else (some false)) else (none)) else (some false)) else (none)) else (some false)) else (none)) else (some false))) = some r := H
  have A3 := Aside0.mk A30
  clear A30
  replace H := Option.bind_eq_some_iff.mp H
  obtain ⟨⟨t137, t138⟩, A40, H⟩ := H
  replace H : (if (t130.length : Int) = 3 then (if 0 < (t130.length : Int) then (if (rd t130 0) = 4352 then (if 1 < (t130.length : Int) then (if (rd t130 1) = 4449 then (if 2 < (t130.length : Int) then (if (rd t130 2) = 4520 then (if t134 = true then (if t133 = 44032 then (if t136 = true then (if t135 = 44033 then (if t138 = true then (some false) else ((hangul_Kind.f k t133).bind fun t142 => (if t142 = 4 then ((hangul_Kind.f k t135).bind fun t143 => (if t143 = 5 then ((hangul_Kind.f k 97).bind fun t144 => (some (t144 == 0))) else (some false))) else (some false)))) else (some false)) else (some false)) else (some false)) else (some false)) else (some false)) else (none)) else (some false)) else (none)) else (some false)) else (none)) else (some false)) = some r := H
  have A4 := Aside0.mk A40
  clear A40
  by_cases c5 : (t130.length : Int) = 3
  · rw [if_pos c5] at H
    have c5b0 : ((t130.length : Int) == 3) = true := beq_iff_eq.mpr c5
    have c5b1 : ((t130.length : Int) != 3) = false := bne_eq_false_iff_eq.mpr c5
    clear c5
    by_cases c6 : 0 < (t130.length : Int)
    · rw [if_pos c6] at H
      have c6b0 : decide (0 < (t130.length : Int)) = true := decide_eq_true c6
      have c6b1 : decide (0 < t130.length) = true := decide_eq_true (by omega)
      clear c6
      by_cases c7 : (rd t130 0) = 4352
      · rw [if_pos c7] at H
        have c7b0 : ((rd t130 0) == 4352) = true := beq_iff_eq.mpr c7
        have c7b1 : ((rd t130 0) != 4352) = false := bne_eq_false_iff_eq.mpr c7
        clear c7
        by_cases c8 : 1 < (t130.length : Int)
        · rw [if_pos c8] at H
          have c8b0 : decide (1 < (t130.length : Int)) = true := decide_eq_true c8
          have c8b1 : decide (1 < t130.length) = true := decide_eq_true (by omega)
          clear c8
          by_cases c9 : (rd t130 1) = 4449
          · rw [if_pos c9] at H
            have c9b0 : ((rd t130 1) == 4449) = true := beq_iff_eq.mpr c9
            have c9b1 : ((rd t130 1) != 4449) = false := bne_eq_false_iff_eq.mpr c9
            clear c9
            by_cases c10 : 2 < (t130.length : Int)
            · rw [if_pos c10] at H
              have c10b0 : decide (2 < (t130.length : Int)) = true := decide_eq_true c10
              have c10b1 : decide (2 < t130.length) = true := decide_eq_true (by omega)
              clear c10
              by_cases c11 : (rd t130 2) = 4520
              · rw [if_pos c11] at H
                have c11b0 : ((rd t130 2) == 4520) = true := beq_iff_eq.mpr c11
                have c11b1 : ((rd t130 2) != 4520) = false := bne_eq_false_iff_eq.mpr c11
                clear c11
                by_cases c12 : t134 = true
                · subst c12
                  have H1 : (if t133 = 44032 then (if t136 = true then (if t135 = 44033 then (if t138 = true then (some false) else ((hangul_Kind.f k t133).bind fun t142 => (if t142 = 4 then ((hangul_Kind.f k t135).bind fun t143 => (if t143 = 5 then ((hangul_Kind.f k 97).bind fun t144 => (some (t144 == 0))) else (some false))) else (some false)))) else (some false)) else (some false)) else (some false)) = some r := by rw [if_pos rfl] at H; exact H
                  clear H
                  have H := H1
                  clear H1
                  by_cases c13 : t133 = 44032
                  · rw [if_pos c13] at H
                    have c13b0 : (t133 == 44032) = true := beq_iff_eq.mpr c13
                    have c13b1 : (t133 != 44032) = false := bne_eq_false_iff_eq.mpr c13
                    clear c13
                    by_cases c14 : t136 = true
                    · subst c14
                      have H1 : (if t135 = 44033 then (if t138 = true then (some false) else ((hangul_Kind.f k t133).bind fun t142 => (if t142 = 4 then ((hangul_Kind.f k t135).bind fun t143 => (if t143 = 5 then ((hangul_Kind.f k 97).bind fun t144 => (some (t144 == 0))) else (some false))) else (some false)))) else (some false)) = some r := by rw [if_pos rfl] at H; exact H
                      clear H
                      have H := H1
                      clear H1
                      by_cases c15 : t135 = 44033
                      · rw [if_pos c15] at H
                        have c15b0 : (t135 == 44033) = true := beq_iff_eq.mpr c15
                        have c15b1 : (t135 != 44033) = false := bne_eq_false_iff_eq.mpr c15
                        clear c15
                        by_cases c16 : t138 = true
                        · subst c16
                          have H1 : (some false) = some r := by rw [if_pos rfl] at H; exact H
                          clear H
                          have H := H1
                          clear H1
                          obtain rfl := Option.some.inj H
                          go_enter Try.func13, Try.ntmps13
                          go_wp2_with (first | ((with_reducible refine gate_callee (f := 11) rfl ?_); refine goesL_ (some 8) rfl rfl Try.func11 (by kernel_rfl) rfl #[.int .i32 44033] rfl (by (try simp only [List.map_toArray, List.map_cons, List.map_nil]); first | done | rfl | (simp only [List.length_drop, List.length_take]; rfl)) ?_; (with_reducible refine (hangul_Split.calls k 44033 t130 _ A1.out).mono ?_); rintro e w17 ⟨v131, rfl, ho0, hb⟩; refine ⟨_, rfl, ?_⟩; have n0_ := Aside0.mk (Kd.R_lower ho0 (below_size (by repeat (first | (with_reducible first | exact HB.out | apply below_alloc | apply pw_below_drewN | apply below_drew1) | exact HB.out)))); have n1_ := Aside0.mk (below_step (by repeat (first | (with_reducible first | exact HB.out | apply below_alloc | apply pw_below_drewN | apply below_drew1) | exact HB.out)) hb); clear HB; have HO132 := n0_; have HB := n1_; clear n0_ n1_; (try clear hb); (try clear hb2); (try clear hk); (try clear hi); (try clear ho0)) | ((with_reducible refine gate_callee (f := 6) rfl ?_); refine goesL_ (some 10) rfl rfl Try.func6 (by kernel_rfl) rfl #[.int .i32 4352, .int .i32 4449] rfl (by (try simp only [List.map_toArray, List.map_cons, List.map_nil]); first | done | rfl | (simp only [List.length_drop, List.length_take]; rfl)) ?_; (with_reducible refine (hangul_Join.calls k 4352 4449 t133 true _ A2.out).mono ?_); rintro e w' ⟨rfl, ⟨nd, rfl⟩⟩; refine ⟨_, rfl, ?_⟩) | ((with_reducible refine gate_callee (f := 6) rfl ?_); refine goesL_ (some 15) rfl rfl Try.func6 (by kernel_rfl) rfl #[.int .i32 t133, .int .i32 4520] rfl (by (try simp only [List.map_toArray, List.map_cons, List.map_nil]); first | done | rfl | (simp only [List.length_drop, List.length_take]; rfl)) ?_; (with_reducible refine (hangul_Join.calls k t133 4520 t135 true _ A3.out).mono ?_); rintro e w' ⟨rfl, ⟨nd, rfl⟩⟩; refine ⟨_, rfl, ?_⟩) | ((with_reducible refine gate_callee (f := 6) rfl ?_); refine goesL_ (some 20) rfl rfl Try.func6 (by kernel_rfl) rfl #[.int .i32 t135, .int .i32 4520] rfl (by (try simp only [List.map_toArray, List.map_cons, List.map_nil]); first | done | rfl | (simp only [List.length_drop, List.length_take]; rfl)) ?_; (with_reducible refine (hangul_Join.calls k t135 4520 t137 true _ A4.out).mono ?_); rintro e w' ⟨rfl, ⟨nd, rfl⟩⟩; refine ⟨_, rfl, ?_⟩; obtain ⟨Ao18, co18, eo18⟩ := Kd.R_slice HO132.out; subst eo18; have p139 : 0 ≤ (0 : Int) := (by omega); have q139 : 0 < (t130.length : Int) := of_decide_eq_true (by first | (with_reducible assumption) | assumption); obtain ⟨ad139, e139, hx139_0⟩ := Kd.at_int (Kd.R_reads' HO132.out).2.2 0 p139 q139; cases e139; have qi139 : (0 < t130.length) = True := eq_true (by omega); (try rw [show ((0 : Int)).toNat = 0 from rfl] at hx139_0); (try rw [Addr.add_zero'] at hx139_0); replace p139 := eq_true p139; replace q139 := eq_true q139; have p140 : 0 ≤ (1 : Int) := (by omega); have q140 : 1 < (t130.length : Int) := of_decide_eq_true (by first | (with_reducible assumption) | assumption); obtain ⟨ad140, e140, hx140_0⟩ := Kd.at_int (Kd.R_reads' HO132.out).2.2 1 p140 q140; obtain rfl : ad139 = ad140 := (by injection e140); (try simp only [show (1 : Int).toNat = 1 from rfl, Nat.reduceMul, Nat.reduceEqDiff, Go.Addr.add, ↓reduceIte] at hx140_0); have qi140 : (1 < t130.length) = True := eq_true (by omega); (try rw [show ((1 : Int)).toNat = 1 from rfl] at hx140_0); replace p140 := eq_true p140; replace q140 := eq_true q140; have p141 : 0 ≤ (2 : Int) := (by omega); have q141 : 2 < (t130.length : Int) := of_decide_eq_true (by first | (with_reducible assumption) | assumption); obtain ⟨ad141, e141, hx141_0⟩ := Kd.at_int (Kd.R_reads' HO132.out).2.2 2 p141 q141; obtain rfl : ad139 = ad141 := (by injection e141); (try simp only [show (2 : Int).toNat = 2 from rfl, Nat.reduceMul, Nat.reduceEqDiff, Go.Addr.add, ↓reduceIte] at hx141_0); have qi141 : (2 < t130.length) = True := eq_true (by omega); (try rw [show ((2 : Int)).toNat = 2 from rfl] at hx141_0); replace p141 := eq_true p141; replace q141 := eq_true q141))
                          go_ret
                          exact ⟨by first | rfl | (simp [errW_none, errW_some] <;> rfl) | (simp [*, errW_none, errW_some] <;> rfl), by repeat (first | (with_reducible first | exact HB.out | apply below_alloc | apply pw_below_drewN | apply below_drew1) | exact HB.out)⟩
                        · replace c16 := Bool.eq_false_iff.mpr c16
                          subst c16
                          have H1 : ((hangul_Kind.f k t133).bind fun t142 => (if t142 = 4 then ((hangul_Kind.f k t135).bind fun t143 => (if t143 = 5 then ((hangul_Kind.f k 97).bind fun t144 => (some (t144 == 0))) else (some false))) else (some false))) = some r := by rw [if_neg (show ¬ (false = true) by decide)] at H; exact H
                          clear H
                          have H := H1
                          clear H1
                          replace H := Option.bind_eq_some_iff.mp H
                          obtain ⟨t142, A190, H⟩ := H
                          replace H : (if t142 = 4 then ((hangul_Kind.f k t135).bind fun t143 => (if t143 = 5 then ((hangul_Kind.f k 97).bind fun t144 => (some (t144 == 0))) else (some false))) else (some false)) = some r := H
                          have A19 := Aside0.mk A190
                          clear A190
                          by_cases c20 : t142 = 4
                          · rw [if_pos c20] at H
                            have c20b0 : (t142 == 4) = true := beq_iff_eq.mpr c20
                            have c20b1 : (t142 != 4) = false := bne_eq_false_iff_eq.mpr c20
                            clear c20
                            replace H := Option.bind_eq_some_iff.mp H
                            obtain ⟨t143, A210, H⟩ := H
                            replace H : (if t143 = 5 then ((hangul_Kind.f k 97).bind fun t144 => (some (t144 == 0))) else (some false)) = some r := H
                            have A21 := Aside0.mk A210
                            clear A210
                            by_cases c22 : t143 = 5
                            · rw [if_pos c22] at H
                              have c22b0 : (t143 == 5) = true := beq_iff_eq.mpr c22
                              have c22b1 : (t143 != 5) = false := bne_eq_false_iff_eq.mpr c22
                              clear c22
                              replace H := Option.bind_eq_some_iff.mp H
                              obtain ⟨t144, A230, H⟩ := H
                              replace H : (some (t144 == 0)) = some r := H
                              have A23 := Aside0.mk A230
                              clear A230
                              obtain rfl := Option.some.inj H
                              go_enter Try.func13, Try.ntmps13
                              go_wp2_with (first | ((with_reducible refine gate_callee (f := 11) rfl ?_); refine goesL_ (some 8) rfl rfl Try.func11 (by kernel_rfl) rfl #[.int .i32 44033] rfl (by (try simp only [List.map_toArray, List.map_cons, List.map_nil]); first | done | rfl | (simp only [List.length_drop, List.length_take]; rfl)) ?_; (with_reducible refine (hangul_Split.calls k 44033 t130 _ A1.out).mono ?_); rintro e w24 ⟨v131, rfl, ho0, hb⟩; refine ⟨_, rfl, ?_⟩; have n0_ := Aside0.mk (Kd.R_lower ho0 (below_size (by repeat (first | (with_reducible first | exact HB.out | apply below_alloc | apply pw_below_drewN | apply below_drew1) | exact HB.out)))); have n1_ := Aside0.mk (below_step (by repeat (first | (with_reducible first | exact HB.out | apply below_alloc | apply pw_below_drewN | apply below_drew1) | exact HB.out)) hb); clear HB; have HO132 := n0_; have HB := n1_; clear n0_ n1_; (try clear hb); (try clear hb2); (try clear hk); (try clear hi); (try clear ho0)) | ((with_reducible refine gate_callee (f := 6) rfl ?_); refine goesL_ (some 10) rfl rfl Try.func6 (by kernel_rfl) rfl #[.int .i32 4352, .int .i32 4449] rfl (by (try simp only [List.map_toArray, List.map_cons, List.map_nil]); first | done | rfl | (simp only [List.length_drop, List.length_take]; rfl)) ?_; (with_reducible refine (hangul_Join.calls k 4352 4449 t133 true _ A2.out).mono ?_); rintro e w' ⟨rfl, ⟨nd, rfl⟩⟩; refine ⟨_, rfl, ?_⟩) | ((with_reducible refine gate_callee (f := 6) rfl ?_); refine goesL_ (some 15) rfl rfl Try.func6 (by kernel_rfl) rfl #[.int .i32 t133, .int .i32 4520] rfl (by (try simp only [List.map_toArray, List.map_cons, List.map_nil]); first | done | rfl | (simp only [List.length_drop, List.length_take]; rfl)) ?_; (with_reducible refine (hangul_Join.calls k t133 4520 t135 true _ A3.out).mono ?_); rintro e w' ⟨rfl, ⟨nd, rfl⟩⟩; refine ⟨_, rfl, ?_⟩) | ((with_reducible refine gate_callee (f := 6) rfl ?_); refine goesL_ (some 20) rfl rfl Try.func6 (by kernel_rfl) rfl #[.int .i32 t135, .int .i32 4520] rfl (by (try simp only [List.map_toArray, List.map_cons, List.map_nil]); first | done | rfl | (simp only [List.length_drop, List.length_take]; rfl)) ?_; (with_reducible refine (hangul_Join.calls k t135 4520 t137 false _ A4.out).mono ?_); rintro e w' ⟨rfl, ⟨nd, rfl⟩⟩; refine ⟨_, rfl, ?_⟩; obtain ⟨Ao25, co25, eo25⟩ := Kd.R_slice HO132.out; subst eo25; have p139 : 0 ≤ (0 : Int) := (by omega); have q139 : 0 < (t130.length : Int) := of_decide_eq_true (by first | (with_reducible assumption) | assumption); obtain ⟨ad139, e139, hx139_0⟩ := Kd.at_int (Kd.R_reads' HO132.out).2.2 0 p139 q139; cases e139; have qi139 : (0 < t130.length) = True := eq_true (by omega); (try rw [show ((0 : Int)).toNat = 0 from rfl] at hx139_0); (try rw [Addr.add_zero'] at hx139_0); replace p139 := eq_true p139; replace q139 := eq_true q139; have p140 : 0 ≤ (1 : Int) := (by omega); have q140 : 1 < (t130.length : Int) := of_decide_eq_true (by first | (with_reducible assumption) | assumption); obtain ⟨ad140, e140, hx140_0⟩ := Kd.at_int (Kd.R_reads' HO132.out).2.2 1 p140 q140; obtain rfl : ad139 = ad140 := (by injection e140); (try simp only [show (1 : Int).toNat = 1 from rfl, Nat.reduceMul, Nat.reduceEqDiff, Go.Addr.add, ↓reduceIte] at hx140_0); have qi140 : (1 < t130.length) = True := eq_true (by omega); (try rw [show ((1 : Int)).toNat = 1 from rfl] at hx140_0); replace p140 := eq_true p140; replace q140 := eq_true q140; have p141 : 0 ≤ (2 : Int) := (by omega); have q141 : 2 < (t130.length : Int) := of_decide_eq_true (by first | (with_reducible assumption) | assumption); obtain ⟨ad141, e141, hx141_0⟩ := Kd.at_int (Kd.R_reads' HO132.out).2.2 2 p141 q141; obtain rfl : ad139 = ad141 := (by injection e141); (try simp only [show (2 : Int).toNat = 2 from rfl, Nat.reduceMul, Nat.reduceEqDiff, Go.Addr.add, ↓reduceIte] at hx141_0); have qi141 : (2 < t130.length) = True := eq_true (by omega); (try rw [show ((2 : Int)).toNat = 2 from rfl] at hx141_0); replace p141 := eq_true p141; replace q141 := eq_true q141) | (go_at_call 8; (with_reducible refine (hangul_Kind.calls k t133 t142 _ A19.out).mono ?_); rintro e w' ⟨rfl, ⟨nd, rfl⟩⟩) | (go_at_call 8; (with_reducible refine (hangul_Kind.calls k t135 t143 _ A21.out).mono ?_); rintro e w' ⟨rfl, ⟨nd, rfl⟩⟩) | (go_at_call 8; (with_reducible refine (hangul_Kind.calls k 97 t144 _ A23.out).mono ?_); rintro e w' ⟨rfl, ⟨nd, rfl⟩⟩))
                              go_ret
                              exact ⟨by first | rfl | (simp [errW_none, errW_some] <;> rfl) | (simp [*, errW_none, errW_some] <;> rfl), by repeat (first | (with_reducible first | exact HB.out | apply below_alloc | apply pw_below_drewN | apply below_drew1) | exact HB.out)⟩
                            · rw [if_neg c22] at H
                              have c22b0 : (t143 == 5) = false := beq_eq_false_iff_ne.mpr c22
                              have c22b1 : (t143 != 5) = true := bne_iff_ne.mpr c22
                              obtain rfl := Option.some.inj H
                              go_enter Try.func13, Try.ntmps13
                              go_wp2_with (first | ((with_reducible refine gate_callee (f := 11) rfl ?_); refine goesL_ (some 8) rfl rfl Try.func11 (by kernel_rfl) rfl #[.int .i32 44033] rfl (by (try simp only [List.map_toArray, List.map_cons, List.map_nil]); first | done | rfl | (simp only [List.length_drop, List.length_take]; rfl)) ?_; (with_reducible refine (hangul_Split.calls k 44033 t130 _ A1.out).mono ?_); rintro e w26 ⟨v131, rfl, ho0, hb⟩; refine ⟨_, rfl, ?_⟩; have n0_ := Aside0.mk (Kd.R_lower ho0 (below_size (by repeat (first | (with_reducible first | exact HB.out | apply below_alloc | apply pw_below_drewN | apply below_drew1) | exact HB.out)))); have n1_ := Aside0.mk (below_step (by repeat (first | (with_reducible first | exact HB.out | apply below_alloc | apply pw_below_drewN | apply below_drew1) | exact HB.out)) hb); clear HB; have HO132 := n0_; have HB := n1_; clear n0_ n1_; (try clear hb); (try clear hb2); (try clear hk); (try clear hi); (try clear ho0)) | ((with_reducible refine gate_callee (f := 6) rfl ?_); refine goesL_ (some 10) rfl rfl Try.func6 (by kernel_rfl) rfl #[.int .i32 4352, .int .i32 4449] rfl (by (try simp only [List.map_toArray, List.map_cons, List.map_nil]); first | done | rfl | (simp only [List.length_drop, List.length_take]; rfl)) ?_; (with_reducible refine (hangul_Join.calls k 4352 4449 t133 true _ A2.out).mono ?_); rintro e w' ⟨rfl, ⟨nd, rfl⟩⟩; refine ⟨_, rfl, ?_⟩) | ((with_reducible refine gate_callee (f := 6) rfl ?_); refine goesL_ (some 15) rfl rfl Try.func6 (by kernel_rfl) rfl #[.int .i32 t133, .int .i32 4520] rfl (by (try simp only [List.map_toArray, List.map_cons, List.map_nil]); first | done | rfl | (simp only [List.length_drop, List.length_take]; rfl)) ?_; (with_reducible refine (hangul_Join.calls k t133 4520 t135 true _ A3.out).mono ?_); rintro e w' ⟨rfl, ⟨nd, rfl⟩⟩; refine ⟨_, rfl, ?_⟩) | ((with_reducible refine gate_callee (f := 6) rfl ?_); refine goesL_ (some 20) rfl rfl Try.func6 (by kernel_rfl) rfl #[.int .i32 t135, .int .i32 4520] rfl (by (try simp only [List.map_toArray, List.map_cons, List.map_nil]); first | done | rfl | (simp only [List.length_drop, List.length_take]; rfl)) ?_; (with_reducible refine (hangul_Join.calls k t135 4520 t137 false _ A4.out).mono ?_); rintro e w' ⟨rfl, ⟨nd, rfl⟩⟩; refine ⟨_, rfl, ?_⟩; obtain ⟨Ao27, co27, eo27⟩ := Kd.R_slice HO132.out; subst eo27; have p139 : 0 ≤ (0 : Int) := (by omega); have q139 : 0 < (t130.length : Int) := of_decide_eq_true (by first | (with_reducible assumption) | assumption); obtain ⟨ad139, e139, hx139_0⟩ := Kd.at_int (Kd.R_reads' HO132.out).2.2 0 p139 q139; cases e139; have qi139 : (0 < t130.length) = True := eq_true (by omega); (try rw [show ((0 : Int)).toNat = 0 from rfl] at hx139_0); (try rw [Addr.add_zero'] at hx139_0); replace p139 := eq_true p139; replace q139 := eq_true q139; have p140 : 0 ≤ (1 : Int) := (by omega); have q140 : 1 < (t130.length : Int) := of_decide_eq_true (by first | (with_reducible assumption) | assumption); obtain ⟨ad140, e140, hx140_0⟩ := Kd.at_int (Kd.R_reads' HO132.out).2.2 1 p140 q140; obtain rfl : ad139 = ad140 := (by injection e140); (try simp only [show (1 : Int).toNat = 1 from rfl, Nat.reduceMul, Nat.reduceEqDiff, Go.Addr.add, ↓reduceIte] at hx140_0); have qi140 : (1 < t130.length) = True := eq_true (by omega); (try rw [show ((1 : Int)).toNat = 1 from rfl] at hx140_0); replace p140 := eq_true p140; replace q140 := eq_true q140; have p141 : 0 ≤ (2 : Int) := (by omega); have q141 : 2 < (t130.length : Int) := of_decide_eq_true (by first | (with_reducible assumption) | assumption); obtain ⟨ad141, e141, hx141_0⟩ := Kd.at_int (Kd.R_reads' HO132.out).2.2 2 p141 q141; obtain rfl : ad139 = ad141 := (by injection e141); (try simp only [show (2 : Int).toNat = 2 from rfl, Nat.reduceMul, Nat.reduceEqDiff, Go.Addr.add, ↓reduceIte] at hx141_0); have qi141 : (2 < t130.length) = True := eq_true (by omega); (try rw [show ((2 : Int)).toNat = 2 from rfl] at hx141_0); replace p141 := eq_true p141; replace q141 := eq_true q141) | (go_at_call 8; (with_reducible refine (hangul_Kind.calls k t133 t142 _ A19.out).mono ?_); rintro e w' ⟨rfl, ⟨nd, rfl⟩⟩) | (go_at_call 8; (with_reducible refine (hangul_Kind.calls k t135 t143 _ A21.out).mono ?_); rintro e w' ⟨rfl, ⟨nd, rfl⟩⟩))
                              go_ret
                              exact ⟨by first | rfl | (simp [errW_none, errW_some] <;> rfl) | (simp [*, errW_none, errW_some] <;> rfl), by repeat (first | (with_reducible first | exact HB.out | apply below_alloc | apply pw_below_drewN | apply below_drew1) | exact HB.out)⟩
                          · rw [if_neg c20] at H
                            have c20b0 : (t142 == 4) = false := beq_eq_false_iff_ne.mpr c20
                            have c20b1 : (t142 != 4) = true := bne_iff_ne.mpr c20
                            obtain rfl := Option.some.inj H
                            go_enter Try.func13, Try.ntmps13
                            go_wp2_with (first | ((with_reducible refine gate_callee (f := 11) rfl ?_); refine goesL_ (some 8) rfl rfl Try.func11 (by kernel_rfl) rfl #[.int .i32 44033] rfl (by (try simp only [List.map_toArray, List.map_cons, List.map_nil]); first | done | rfl | (simp only [List.length_drop, List.length_take]; rfl)) ?_; (with_reducible refine (hangul_Split.calls k 44033 t130 _ A1.out).mono ?_); rintro e w28 ⟨v131, rfl, ho0, hb⟩; refine ⟨_, rfl, ?_⟩; have n0_ := Aside0.mk (Kd.R_lower ho0 (below_size (by repeat (first | (with_reducible first | exact HB.out | apply below_alloc | apply pw_below_drewN | apply below_drew1) | exact HB.out)))); have n1_ := Aside0.mk (below_step (by repeat (first | (with_reducible first | exact HB.out | apply below_alloc | apply pw_below_drewN | apply below_drew1) | exact HB.out)) hb); clear HB; have HO132 := n0_; have HB := n1_; clear n0_ n1_; (try clear hb); (try clear hb2); (try clear hk); (try clear hi); (try clear ho0)) | ((with_reducible refine gate_callee (f := 6) rfl ?_); refine goesL_ (some 10) rfl rfl Try.func6 (by kernel_rfl) rfl #[.int .i32 4352, .int .i32 4449] rfl (by (try simp only [List.map_toArray, List.map_cons, List.map_nil]); first | done | rfl | (simp only [List.length_drop, List.length_take]; rfl)) ?_; (with_reducible refine (hangul_Join.calls k 4352 4449 t133 true _ A2.out).mono ?_); rintro e w' ⟨rfl, ⟨nd, rfl⟩⟩; refine ⟨_, rfl, ?_⟩) | ((with_reducible refine gate_callee (f := 6) rfl ?_); refine goesL_ (some 15) rfl rfl Try.func6 (by kernel_rfl) rfl #[.int .i32 t133, .int .i32 4520] rfl (by (try simp only [List.map_toArray, List.map_cons, List.map_nil]); first | done | rfl | (simp only [List.length_drop, List.length_take]; rfl)) ?_; (with_reducible refine (hangul_Join.calls k t133 4520 t135 true _ A3.out).mono ?_); rintro e w' ⟨rfl, ⟨nd, rfl⟩⟩; refine ⟨_, rfl, ?_⟩) | ((with_reducible refine gate_callee (f := 6) rfl ?_); refine goesL_ (some 20) rfl rfl Try.func6 (by kernel_rfl) rfl #[.int .i32 t135, .int .i32 4520] rfl (by (try simp only [List.map_toArray, List.map_cons, List.map_nil]); first | done | rfl | (simp only [List.length_drop, List.length_take]; rfl)) ?_; (with_reducible refine (hangul_Join.calls k t135 4520 t137 false _ A4.out).mono ?_); rintro e w' ⟨rfl, ⟨nd, rfl⟩⟩; refine ⟨_, rfl, ?_⟩; obtain ⟨Ao29, co29, eo29⟩ := Kd.R_slice HO132.out; subst eo29; have p139 : 0 ≤ (0 : Int) := (by omega); have q139 : 0 < (t130.length : Int) := of_decide_eq_true (by first | (with_reducible assumption) | assumption); obtain ⟨ad139, e139, hx139_0⟩ := Kd.at_int (Kd.R_reads' HO132.out).2.2 0 p139 q139; cases e139; have qi139 : (0 < t130.length) = True := eq_true (by omega); (try rw [show ((0 : Int)).toNat = 0 from rfl] at hx139_0); (try rw [Addr.add_zero'] at hx139_0); replace p139 := eq_true p139; replace q139 := eq_true q139; have p140 : 0 ≤ (1 : Int) := (by omega); have q140 : 1 < (t130.length : Int) := of_decide_eq_true (by first | (with_reducible assumption) | assumption); obtain ⟨ad140, e140, hx140_0⟩ := Kd.at_int (Kd.R_reads' HO132.out).2.2 1 p140 q140; obtain rfl : ad139 = ad140 := (by injection e140); (try simp only [show (1 : Int).toNat = 1 from rfl, Nat.reduceMul, Nat.reduceEqDiff, Go.Addr.add, ↓reduceIte] at hx140_0); have qi140 : (1 < t130.length) = True := eq_true (by omega); (try rw [show ((1 : Int)).toNat = 1 from rfl] at hx140_0); replace p140 := eq_true p140; replace q140 := eq_true q140; have p141 : 0 ≤ (2 : Int) := (by omega); have q141 : 2 < (t130.length : Int) := of_decide_eq_true (by first | (with_reducible assumption) | assumption); obtain ⟨ad141, e141, hx141_0⟩ := Kd.at_int (Kd.R_reads' HO132.out).2.2 2 p141 q141; obtain rfl : ad139 = ad141 := (by injection e141); (try simp only [show (2 : Int).toNat = 2 from rfl, Nat.reduceMul, Nat.reduceEqDiff, Go.Addr.add, ↓reduceIte] at hx141_0); have qi141 : (2 < t130.length) = True := eq_true (by omega); (try rw [show ((2 : Int)).toNat = 2 from rfl] at hx141_0); replace p141 := eq_true p141; replace q141 := eq_true q141) | (go_at_call 8; (with_reducible refine (hangul_Kind.calls k t133 t142 _ A19.out).mono ?_); rintro e w' ⟨rfl, ⟨nd, rfl⟩⟩))
                            go_ret
                            exact ⟨by first | rfl | (simp [errW_none, errW_some] <;> rfl) | (simp [*, errW_none, errW_some] <;> rfl), by repeat (first | (with_reducible first | exact HB.out | apply below_alloc | apply pw_below_drewN | apply below_drew1) | exact HB.out)⟩
                      · rw [if_neg c15] at H
                        have c15b0 : (t135 == 44033) = false := beq_eq_false_iff_ne.mpr c15
                        have c15b1 : (t135 != 44033) = true := bne_iff_ne.mpr c15
                        obtain rfl := Option.some.inj H
                        go_enter Try.func13, Try.ntmps13
                        go_wp2_with (first | ((with_reducible refine gate_callee (f := 11) rfl ?_); refine goesL_ (some 8) rfl rfl Try.func11 (by kernel_rfl) rfl #[.int .i32 44033] rfl (by (try simp only [List.map_toArray, List.map_cons, List.map_nil]); first | done | rfl | (simp only [List.length_drop, List.length_take]; rfl)) ?_; (with_reducible refine (hangul_Split.calls k 44033 t130 _ A1.out).mono ?_); rintro e w30 ⟨v131, rfl, ho0, hb⟩; refine ⟨_, rfl, ?_⟩; have n0_ := Aside0.mk (Kd.R_lower ho0 (below_size (by repeat (first | (with_reducible first | exact HB.out | apply below_alloc | apply pw_below_drewN | apply below_drew1) | exact HB.out)))); have n1_ := Aside0.mk (below_step (by repeat (first | (with_reducible first | exact HB.out | apply below_alloc | apply pw_below_drewN | apply below_drew1) | exact HB.out)) hb); clear HB; have HO132 := n0_; have HB := n1_; clear n0_ n1_; (try clear hb); (try clear hb2); (try clear hk); (try clear hi); (try clear ho0)) | ((with_reducible refine gate_callee (f := 6) rfl ?_); refine goesL_ (some 10) rfl rfl Try.func6 (by kernel_rfl) rfl #[.int .i32 4352, .int .i32 4449] rfl (by (try simp only [List.map_toArray, List.map_cons, List.map_nil]); first | done | rfl | (simp only [List.length_drop, List.length_take]; rfl)) ?_; (with_reducible refine (hangul_Join.calls k 4352 4449 t133 true _ A2.out).mono ?_); rintro e w' ⟨rfl, ⟨nd, rfl⟩⟩; refine ⟨_, rfl, ?_⟩) | ((with_reducible refine gate_callee (f := 6) rfl ?_); refine goesL_ (some 15) rfl rfl Try.func6 (by kernel_rfl) rfl #[.int .i32 t133, .int .i32 4520] rfl (by (try simp only [List.map_toArray, List.map_cons, List.map_nil]); first | done | rfl | (simp only [List.length_drop, List.length_take]; rfl)) ?_; (with_reducible refine (hangul_Join.calls k t133 4520 t135 true _ A3.out).mono ?_); rintro e w' ⟨rfl, ⟨nd, rfl⟩⟩; refine ⟨_, rfl, ?_⟩) | ((with_reducible refine gate_callee (f := 6) rfl ?_); refine goesL_ (some 20) rfl rfl Try.func6 (by kernel_rfl) rfl #[.int .i32 t135, .int .i32 4520] rfl (by (try simp only [List.map_toArray, List.map_cons, List.map_nil]); first | done | rfl | (simp only [List.length_drop, List.length_take]; rfl)) ?_; (with_reducible refine (hangul_Join.calls k t135 4520 t137 t138 _ A4.out).mono ?_); rintro e w' ⟨rfl, ⟨nd, rfl⟩⟩; refine ⟨_, rfl, ?_⟩; obtain ⟨Ao31, co31, eo31⟩ := Kd.R_slice HO132.out; subst eo31; have p139 : 0 ≤ (0 : Int) := (by omega); have q139 : 0 < (t130.length : Int) := of_decide_eq_true (by first | (with_reducible assumption) | assumption); obtain ⟨ad139, e139, hx139_0⟩ := Kd.at_int (Kd.R_reads' HO132.out).2.2 0 p139 q139; cases e139; have qi139 : (0 < t130.length) = True := eq_true (by omega); (try rw [show ((0 : Int)).toNat = 0 from rfl] at hx139_0); (try rw [Addr.add_zero'] at hx139_0); replace p139 := eq_true p139; replace q139 := eq_true q139; have p140 : 0 ≤ (1 : Int) := (by omega); have q140 : 1 < (t130.length : Int) := of_decide_eq_true (by first | (with_reducible assumption) | assumption); obtain ⟨ad140, e140, hx140_0⟩ := Kd.at_int (Kd.R_reads' HO132.out).2.2 1 p140 q140; obtain rfl : ad139 = ad140 := (by injection e140); (try simp only [show (1 : Int).toNat = 1 from rfl, Nat.reduceMul, Nat.reduceEqDiff, Go.Addr.add, ↓reduceIte] at hx140_0); have qi140 : (1 < t130.length) = True := eq_true (by omega); (try rw [show ((1 : Int)).toNat = 1 from rfl] at hx140_0); replace p140 := eq_true p140; replace q140 := eq_true q140; have p141 : 0 ≤ (2 : Int) := (by omega); have q141 : 2 < (t130.length : Int) := of_decide_eq_true (by first | (with_reducible assumption) | assumption); obtain ⟨ad141, e141, hx141_0⟩ := Kd.at_int (Kd.R_reads' HO132.out).2.2 2 p141 q141; obtain rfl : ad139 = ad141 := (by injection e141); (try simp only [show (2 : Int).toNat = 2 from rfl, Nat.reduceMul, Nat.reduceEqDiff, Go.Addr.add, ↓reduceIte] at hx141_0); have qi141 : (2 < t130.length) = True := eq_true (by omega); (try rw [show ((2 : Int)).toNat = 2 from rfl] at hx141_0); replace p141 := eq_true p141; replace q141 := eq_true q141))
                        go_ret
                        exact ⟨by first | rfl | (simp [errW_none, errW_some] <;> rfl) | (simp [*, errW_none, errW_some] <;> rfl), by repeat (first | (with_reducible first | exact HB.out | apply below_alloc | apply pw_below_drewN | apply below_drew1) | exact HB.out)⟩
                    · replace c14 := Bool.eq_false_iff.mpr c14
                      subst c14
                      have H1 : (some false) = some r := by rw [if_neg (show ¬ (false = true) by decide)] at H; exact H
                      clear H
                      have H := H1
                      clear H1
                      obtain rfl := Option.some.inj H
                      go_enter Try.func13, Try.ntmps13
                      go_wp2_with (first | ((with_reducible refine gate_callee (f := 11) rfl ?_); refine goesL_ (some 8) rfl rfl Try.func11 (by kernel_rfl) rfl #[.int .i32 44033] rfl (by (try simp only [List.map_toArray, List.map_cons, List.map_nil]); first | done | rfl | (simp only [List.length_drop, List.length_take]; rfl)) ?_; (with_reducible refine (hangul_Split.calls k 44033 t130 _ A1.out).mono ?_); rintro e w32 ⟨v131, rfl, ho0, hb⟩; refine ⟨_, rfl, ?_⟩; have n0_ := Aside0.mk (Kd.R_lower ho0 (below_size (by repeat (first | (with_reducible first | exact HB.out | apply below_alloc | apply pw_below_drewN | apply below_drew1) | exact HB.out)))); have n1_ := Aside0.mk (below_step (by repeat (first | (with_reducible first | exact HB.out | apply below_alloc | apply pw_below_drewN | apply below_drew1) | exact HB.out)) hb); clear HB; have HO132 := n0_; have HB := n1_; clear n0_ n1_; (try clear hb); (try clear hb2); (try clear hk); (try clear hi); (try clear ho0)) | ((with_reducible refine gate_callee (f := 6) rfl ?_); refine goesL_ (some 10) rfl rfl Try.func6 (by kernel_rfl) rfl #[.int .i32 4352, .int .i32 4449] rfl (by (try simp only [List.map_toArray, List.map_cons, List.map_nil]); first | done | rfl | (simp only [List.length_drop, List.length_take]; rfl)) ?_; (with_reducible refine (hangul_Join.calls k 4352 4449 t133 true _ A2.out).mono ?_); rintro e w' ⟨rfl, ⟨nd, rfl⟩⟩; refine ⟨_, rfl, ?_⟩) | ((with_reducible refine gate_callee (f := 6) rfl ?_); refine goesL_ (some 15) rfl rfl Try.func6 (by kernel_rfl) rfl #[.int .i32 t133, .int .i32 4520] rfl (by (try simp only [List.map_toArray, List.map_cons, List.map_nil]); first | done | rfl | (simp only [List.length_drop, List.length_take]; rfl)) ?_; (with_reducible refine (hangul_Join.calls k t133 4520 t135 false _ A3.out).mono ?_); rintro e w' ⟨rfl, ⟨nd, rfl⟩⟩; refine ⟨_, rfl, ?_⟩) | ((with_reducible refine gate_callee (f := 6) rfl ?_); refine goesL_ (some 20) rfl rfl Try.func6 (by kernel_rfl) rfl #[.int .i32 t135, .int .i32 4520] rfl (by (try simp only [List.map_toArray, List.map_cons, List.map_nil]); first | done | rfl | (simp only [List.length_drop, List.length_take]; rfl)) ?_; (with_reducible refine (hangul_Join.calls k t135 4520 t137 t138 _ A4.out).mono ?_); rintro e w' ⟨rfl, ⟨nd, rfl⟩⟩; refine ⟨_, rfl, ?_⟩; obtain ⟨Ao33, co33, eo33⟩ := Kd.R_slice HO132.out; subst eo33; have p139 : 0 ≤ (0 : Int) := (by omega); have q139 : 0 < (t130.length : Int) := of_decide_eq_true (by first | (with_reducible assumption) | assumption); obtain ⟨ad139, e139, hx139_0⟩ := Kd.at_int (Kd.R_reads' HO132.out).2.2 0 p139 q139; cases e139; have qi139 : (0 < t130.length) = True := eq_true (by omega); (try rw [show ((0 : Int)).toNat = 0 from rfl] at hx139_0); (try rw [Addr.add_zero'] at hx139_0); replace p139 := eq_true p139; replace q139 := eq_true q139; have p140 : 0 ≤ (1 : Int) := (by omega); have q140 : 1 < (t130.length : Int) := of_decide_eq_true (by first | (with_reducible assumption) | assumption); obtain ⟨ad140, e140, hx140_0⟩ := Kd.at_int (Kd.R_reads' HO132.out).2.2 1 p140 q140; obtain rfl : ad139 = ad140 := (by injection e140); (try simp only [show (1 : Int).toNat = 1 from rfl, Nat.reduceMul, Nat.reduceEqDiff, Go.Addr.add, ↓reduceIte] at hx140_0); have qi140 : (1 < t130.length) = True := eq_true (by omega); (try rw [show ((1 : Int)).toNat = 1 from rfl] at hx140_0); replace p140 := eq_true p140; replace q140 := eq_true q140; have p141 : 0 ≤ (2 : Int) := (by omega); have q141 : 2 < (t130.length : Int) := of_decide_eq_true (by first | (with_reducible assumption) | assumption); obtain ⟨ad141, e141, hx141_0⟩ := Kd.at_int (Kd.R_reads' HO132.out).2.2 2 p141 q141; obtain rfl : ad139 = ad141 := (by injection e141); (try simp only [show (2 : Int).toNat = 2 from rfl, Nat.reduceMul, Nat.reduceEqDiff, Go.Addr.add, ↓reduceIte] at hx141_0); have qi141 : (2 < t130.length) = True := eq_true (by omega); (try rw [show ((2 : Int)).toNat = 2 from rfl] at hx141_0); replace p141 := eq_true p141; replace q141 := eq_true q141))
                      go_ret
                      exact ⟨by first | rfl | (simp [errW_none, errW_some] <;> rfl) | (simp [*, errW_none, errW_some] <;> rfl), by repeat (first | (with_reducible first | exact HB.out | apply below_alloc | apply pw_below_drewN | apply below_drew1) | exact HB.out)⟩
                  · rw [if_neg c13] at H
                    have c13b0 : (t133 == 44032) = false := beq_eq_false_iff_ne.mpr c13
                    have c13b1 : (t133 != 44032) = true := bne_iff_ne.mpr c13
                    obtain rfl := Option.some.inj H
                    go_enter Try.func13, Try.ntmps13
                    go_wp2_with (first | ((with_reducible refine gate_callee (f := 11) rfl ?_); refine goesL_ (some 8) rfl rfl Try.func11 (by kernel_rfl) rfl #[.int .i32 44033] rfl (by (try simp only [List.map_toArray, List.map_cons, List.map_nil]); first | done | rfl | (simp only [List.length_drop, List.length_take]; rfl)) ?_; (with_reducible refine (hangul_Split.calls k 44033 t130 _ A1.out).mono ?_); rintro e w34 ⟨v131, rfl, ho0, hb⟩; refine ⟨_, rfl, ?_⟩; have n0_ := Aside0.mk (Kd.R_lower ho0 (below_size (by repeat (first | (with_reducible first | exact HB.out | apply below_alloc | apply pw_below_drewN | apply below_drew1) | exact HB.out)))); have n1_ := Aside0.mk (below_step (by repeat (first | (with_reducible first | exact HB.out | apply below_alloc | apply pw_below_drewN | apply below_drew1) | exact HB.out)) hb); clear HB; have HO132 := n0_; have HB := n1_; clear n0_ n1_; (try clear hb); (try clear hb2); (try clear hk); (try clear hi); (try clear ho0)) | ((with_reducible refine gate_callee (f := 6) rfl ?_); refine goesL_ (some 10) rfl rfl Try.func6 (by kernel_rfl) rfl #[.int .i32 4352, .int .i32 4449] rfl (by (try simp only [List.map_toArray, List.map_cons, List.map_nil]); first | done | rfl | (simp only [List.length_drop, List.length_take]; rfl)) ?_; (with_reducible refine (hangul_Join.calls k 4352 4449 t133 true _ A2.out).mono ?_); rintro e w' ⟨rfl, ⟨nd, rfl⟩⟩; refine ⟨_, rfl, ?_⟩) | ((with_reducible refine gate_callee (f := 6) rfl ?_); refine goesL_ (some 15) rfl rfl Try.func6 (by kernel_rfl) rfl #[.int .i32 t133, .int .i32 4520] rfl (by (try simp only [List.map_toArray, List.map_cons, List.map_nil]); first | done | rfl | (simp only [List.length_drop, List.length_take]; rfl)) ?_; (with_reducible refine (hangul_Join.calls k t133 4520 t135 t136 _ A3.out).mono ?_); rintro e w' ⟨rfl, ⟨nd, rfl⟩⟩; refine ⟨_, rfl, ?_⟩) | ((with_reducible refine gate_callee (f := 6) rfl ?_); refine goesL_ (some 20) rfl rfl Try.func6 (by kernel_rfl) rfl #[.int .i32 t135, .int .i32 4520] rfl (by (try simp only [List.map_toArray, List.map_cons, List.map_nil]); first | done | rfl | (simp only [List.length_drop, List.length_take]; rfl)) ?_; (with_reducible refine (hangul_Join.calls k t135 4520 t137 t138 _ A4.out).mono ?_); rintro e w' ⟨rfl, ⟨nd, rfl⟩⟩; refine ⟨_, rfl, ?_⟩; obtain ⟨Ao35, co35, eo35⟩ := Kd.R_slice HO132.out; subst eo35; have p139 : 0 ≤ (0 : Int) := (by omega); have q139 : 0 < (t130.length : Int) := of_decide_eq_true (by first | (with_reducible assumption) | assumption); obtain ⟨ad139, e139, hx139_0⟩ := Kd.at_int (Kd.R_reads' HO132.out).2.2 0 p139 q139; cases e139; have qi139 : (0 < t130.length) = True := eq_true (by omega); (try rw [show ((0 : Int)).toNat = 0 from rfl] at hx139_0); (try rw [Addr.add_zero'] at hx139_0); replace p139 := eq_true p139; replace q139 := eq_true q139; have p140 : 0 ≤ (1 : Int) := (by omega); have q140 : 1 < (t130.length : Int) := of_decide_eq_true (by first | (with_reducible assumption) | assumption); obtain ⟨ad140, e140, hx140_0⟩ := Kd.at_int (Kd.R_reads' HO132.out).2.2 1 p140 q140; obtain rfl : ad139 = ad140 := (by injection e140); (try simp only [show (1 : Int).toNat = 1 from rfl, Nat.reduceMul, Nat.reduceEqDiff, Go.Addr.add, ↓reduceIte] at hx140_0); have qi140 : (1 < t130.length) = True := eq_true (by omega); (try rw [show ((1 : Int)).toNat = 1 from rfl] at hx140_0); replace p140 := eq_true p140; replace q140 := eq_true q140; have p141 : 0 ≤ (2 : Int) := (by omega); have q141 : 2 < (t130.length : Int) := of_decide_eq_true (by first | (with_reducible assumption) | assumption); obtain ⟨ad141, e141, hx141_0⟩ := Kd.at_int (Kd.R_reads' HO132.out).2.2 2 p141 q141; obtain rfl : ad139 = ad141 := (by injection e141); (try simp only [show (2 : Int).toNat = 2 from rfl, Nat.reduceMul, Nat.reduceEqDiff, Go.Addr.add, ↓reduceIte] at hx141_0); have qi141 : (2 < t130.length) = True := eq_true (by omega); (try rw [show ((2 : Int)).toNat = 2 from rfl] at hx141_0); replace p141 := eq_true p141; replace q141 := eq_true q141))
                    go_ret
                    exact ⟨by first | rfl | (simp [errW_none, errW_some] <;> rfl) | (simp [*, errW_none, errW_some] <;> rfl), by repeat (first | (with_reducible first | exact HB.out | apply below_alloc | apply pw_below_drewN | apply below_drew1) | exact HB.out)⟩
                · replace c12 := Bool.eq_false_iff.mpr c12
                  subst c12
                  have H1 : (some false) = some r := by rw [if_neg (show ¬ (false = true) by decide)] at H; exact H
                  clear H
                  have H := H1
                  clear H1
                  obtain rfl := Option.some.inj H
                  go_enter Try.func13, Try.ntmps13
                  go_wp2_with (first | ((with_reducible refine gate_callee (f := 11) rfl ?_); refine goesL_ (some 8) rfl rfl Try.func11 (by kernel_rfl) rfl #[.int .i32 44033] rfl (by (try simp only [List.map_toArray, List.map_cons, List.map_nil]); first | done | rfl | (simp only [List.length_drop, List.length_take]; rfl)) ?_; (with_reducible refine (hangul_Split.calls k 44033 t130 _ A1.out).mono ?_); rintro e w36 ⟨v131, rfl, ho0, hb⟩; refine ⟨_, rfl, ?_⟩; have n0_ := Aside0.mk (Kd.R_lower ho0 (below_size (by repeat (first | (with_reducible first | exact HB.out | apply below_alloc | apply pw_below_drewN | apply below_drew1) | exact HB.out)))); have n1_ := Aside0.mk (below_step (by repeat (first | (with_reducible first | exact HB.out | apply below_alloc | apply pw_below_drewN | apply below_drew1) | exact HB.out)) hb); clear HB; have HO132 := n0_; have HB := n1_; clear n0_ n1_; (try clear hb); (try clear hb2); (try clear hk); (try clear hi); (try clear ho0)) | ((with_reducible refine gate_callee (f := 6) rfl ?_); refine goesL_ (some 10) rfl rfl Try.func6 (by kernel_rfl) rfl #[.int .i32 4352, .int .i32 4449] rfl (by (try simp only [List.map_toArray, List.map_cons, List.map_nil]); first | done | rfl | (simp only [List.length_drop, List.length_take]; rfl)) ?_; (with_reducible refine (hangul_Join.calls k 4352 4449 t133 false _ A2.out).mono ?_); rintro e w' ⟨rfl, ⟨nd, rfl⟩⟩; refine ⟨_, rfl, ?_⟩) | ((with_reducible refine gate_callee (f := 6) rfl ?_); refine goesL_ (some 15) rfl rfl Try.func6 (by kernel_rfl) rfl #[.int .i32 t133, .int .i32 4520] rfl (by (try simp only [List.map_toArray, List.map_cons, List.map_nil]); first | done | rfl | (simp only [List.length_drop, List.length_take]; rfl)) ?_; (with_reducible refine (hangul_Join.calls k t133 4520 t135 t136 _ A3.out).mono ?_); rintro e w' ⟨rfl, ⟨nd, rfl⟩⟩; refine ⟨_, rfl, ?_⟩) | ((with_reducible refine gate_callee (f := 6) rfl ?_); refine goesL_ (some 20) rfl rfl Try.func6 (by kernel_rfl) rfl #[.int .i32 t135, .int .i32 4520] rfl (by (try simp only [List.map_toArray, List.map_cons, List.map_nil]); first | done | rfl | (simp only [List.length_drop, List.length_take]; rfl)) ?_; (with_reducible refine (hangul_Join.calls k t135 4520 t137 t138 _ A4.out).mono ?_); rintro e w' ⟨rfl, ⟨nd, rfl⟩⟩; refine ⟨_, rfl, ?_⟩; obtain ⟨Ao37, co37, eo37⟩ := Kd.R_slice HO132.out; subst eo37; have p139 : 0 ≤ (0 : Int) := (by omega); have q139 : 0 < (t130.length : Int) := of_decide_eq_true (by first | (with_reducible assumption) | assumption); obtain ⟨ad139, e139, hx139_0⟩ := Kd.at_int (Kd.R_reads' HO132.out).2.2 0 p139 q139; cases e139; have qi139 : (0 < t130.length) = True := eq_true (by omega); (try rw [show ((0 : Int)).toNat = 0 from rfl] at hx139_0); (try rw [Addr.add_zero'] at hx139_0); replace p139 := eq_true p139; replace q139 := eq_true q139; have p140 : 0 ≤ (1 : Int) := (by omega); have q140 : 1 < (t130.length : Int) := of_decide_eq_true (by first | (with_reducible assumption) | assumption); obtain ⟨ad140, e140, hx140_0⟩ := Kd.at_int (Kd.R_reads' HO132.out).2.2 1 p140 q140; obtain rfl : ad139 = ad140 := (by injection e140); (try simp only [show (1 : Int).toNat = 1 from rfl, Nat.reduceMul, Nat.reduceEqDiff, Go.Addr.add, ↓reduceIte] at hx140_0); have qi140 : (1 < t130.length) = True := eq_true (by omega); (try rw [show ((1 : Int)).toNat = 1 from rfl] at hx140_0); replace p140 := eq_true p140; replace q140 := eq_true q140; have p141 : 0 ≤ (2 : Int) := (by omega); have q141 : 2 < (t130.length : Int) := of_decide_eq_true (by first | (with_reducible assumption) | assumption); obtain ⟨ad141, e141, hx141_0⟩ := Kd.at_int (Kd.R_reads' HO132.out).2.2 2 p141 q141; obtain rfl : ad139 = ad141 := (by injection e141); (try simp only [show (2 : Int).toNat = 2 from rfl, Nat.reduceMul, Nat.reduceEqDiff, Go.Addr.add, ↓reduceIte] at hx141_0); have qi141 : (2 < t130.length) = True := eq_true (by omega); (try rw [show ((2 : Int)).toNat = 2 from rfl] at hx141_0); replace p141 := eq_true p141; replace q141 := eq_true q141))
                  go_ret
                  exact ⟨by first | rfl | (simp [errW_none, errW_some] <;> rfl) | (simp [*, errW_none, errW_some] <;> rfl), by repeat (first | (with_reducible first | exact HB.out | apply below_alloc | apply pw_below_drewN | apply below_drew1) | exact HB.out)⟩
              · rw [if_neg c11] at H
                have c11b0 : ((rd t130 2) == 4520) = false := beq_eq_false_iff_ne.mpr c11
                have c11b1 : ((rd t130 2) != 4520) = true := bne_iff_ne.mpr c11
                obtain rfl := Option.some.inj H
                go_enter Try.func13, Try.ntmps13
                go_wp2_with (first | ((with_reducible refine gate_callee (f := 11) rfl ?_); refine goesL_ (some 8) rfl rfl Try.func11 (by kernel_rfl) rfl #[.int .i32 44033] rfl (by (try simp only [List.map_toArray, List.map_cons, List.map_nil]); first | done | rfl | (simp only [List.length_drop, List.length_take]; rfl)) ?_; (with_reducible refine (hangul_Split.calls k 44033 t130 _ A1.out).mono ?_); rintro e w38 ⟨v131, rfl, ho0, hb⟩; refine ⟨_, rfl, ?_⟩; have n0_ := Aside0.mk (Kd.R_lower ho0 (below_size (by repeat (first | (with_reducible first | exact HB.out | apply below_alloc | apply pw_below_drewN | apply below_drew1) | exact HB.out)))); have n1_ := Aside0.mk (below_step (by repeat (first | (with_reducible first | exact HB.out | apply below_alloc | apply pw_below_drewN | apply below_drew1) | exact HB.out)) hb); clear HB; have HO132 := n0_; have HB := n1_; clear n0_ n1_; (try clear hb); (try clear hb2); (try clear hk); (try clear hi); (try clear ho0)) | ((with_reducible refine gate_callee (f := 6) rfl ?_); refine goesL_ (some 10) rfl rfl Try.func6 (by kernel_rfl) rfl #[.int .i32 4352, .int .i32 4449] rfl (by (try simp only [List.map_toArray, List.map_cons, List.map_nil]); first | done | rfl | (simp only [List.length_drop, List.length_take]; rfl)) ?_; (with_reducible refine (hangul_Join.calls k 4352 4449 t133 t134 _ A2.out).mono ?_); rintro e w' ⟨rfl, ⟨nd, rfl⟩⟩; refine ⟨_, rfl, ?_⟩) | ((with_reducible refine gate_callee (f := 6) rfl ?_); refine goesL_ (some 15) rfl rfl Try.func6 (by kernel_rfl) rfl #[.int .i32 t133, .int .i32 4520] rfl (by (try simp only [List.map_toArray, List.map_cons, List.map_nil]); first | done | rfl | (simp only [List.length_drop, List.length_take]; rfl)) ?_; (with_reducible refine (hangul_Join.calls k t133 4520 t135 t136 _ A3.out).mono ?_); rintro e w' ⟨rfl, ⟨nd, rfl⟩⟩; refine ⟨_, rfl, ?_⟩) | ((with_reducible refine gate_callee (f := 6) rfl ?_); refine goesL_ (some 20) rfl rfl Try.func6 (by kernel_rfl) rfl #[.int .i32 t135, .int .i32 4520] rfl (by (try simp only [List.map_toArray, List.map_cons, List.map_nil]); first | done | rfl | (simp only [List.length_drop, List.length_take]; rfl)) ?_; (with_reducible refine (hangul_Join.calls k t135 4520 t137 t138 _ A4.out).mono ?_); rintro e w' ⟨rfl, ⟨nd, rfl⟩⟩; refine ⟨_, rfl, ?_⟩; obtain ⟨Ao39, co39, eo39⟩ := Kd.R_slice HO132.out; subst eo39; have p139 : 0 ≤ (0 : Int) := (by omega); have q139 : 0 < (t130.length : Int) := of_decide_eq_true (by first | (with_reducible assumption) | assumption); obtain ⟨ad139, e139, hx139_0⟩ := Kd.at_int (Kd.R_reads' HO132.out).2.2 0 p139 q139; cases e139; have qi139 : (0 < t130.length) = True := eq_true (by omega); (try rw [show ((0 : Int)).toNat = 0 from rfl] at hx139_0); (try rw [Addr.add_zero'] at hx139_0); replace p139 := eq_true p139; replace q139 := eq_true q139; have p140 : 0 ≤ (1 : Int) := (by omega); have q140 : 1 < (t130.length : Int) := of_decide_eq_true (by first | (with_reducible assumption) | assumption); obtain ⟨ad140, e140, hx140_0⟩ := Kd.at_int (Kd.R_reads' HO132.out).2.2 1 p140 q140; obtain rfl : ad139 = ad140 := (by injection e140); (try simp only [show (1 : Int).toNat = 1 from rfl, Nat.reduceMul, Nat.reduceEqDiff, Go.Addr.add, ↓reduceIte] at hx140_0); have qi140 : (1 < t130.length) = True := eq_true (by omega); (try rw [show ((1 : Int)).toNat = 1 from rfl] at hx140_0); replace p140 := eq_true p140; replace q140 := eq_true q140; have p141 : 0 ≤ (2 : Int) := (by omega); have q141 : 2 < (t130.length : Int) := of_decide_eq_true (by first | (with_reducible assumption) | assumption); obtain ⟨ad141, e141, hx141_0⟩ := Kd.at_int (Kd.R_reads' HO132.out).2.2 2 p141 q141; obtain rfl : ad139 = ad141 := (by injection e141); (try simp only [show (2 : Int).toNat = 2 from rfl, Nat.reduceMul, Nat.reduceEqDiff, Go.Addr.add, ↓reduceIte] at hx141_0); have qi141 : (2 < t130.length) = True := eq_true (by omega); (try rw [show ((2 : Int)).toNat = 2 from rfl] at hx141_0); replace p141 := eq_true p141; replace q141 := eq_true q141))
                go_ret
                exact ⟨by first | rfl | (simp [errW_none, errW_some] <;> rfl) | (simp [*, errW_none, errW_some] <;> rfl), by repeat (first | (with_reducible first | exact HB.out | apply below_alloc | apply pw_below_drewN | apply below_drew1) | exact HB.out)⟩
            · rw [if_neg c10] at H
              exact absurd H (by simp)
          · rw [if_neg c9] at H
            have c9b0 : ((rd t130 1) == 4449) = false := beq_eq_false_iff_ne.mpr c9
            have c9b1 : ((rd t130 1) != 4449) = true := bne_iff_ne.mpr c9
            obtain rfl := Option.some.inj H
            go_enter Try.func13, Try.ntmps13
            go_wp2_with (first | ((with_reducible refine gate_callee (f := 11) rfl ?_); refine goesL_ (some 8) rfl rfl Try.func11 (by kernel_rfl) rfl #[.int .i32 44033] rfl (by (try simp only [List.map_toArray, List.map_cons, List.map_nil]); first | done | rfl | (simp only [List.length_drop, List.length_take]; rfl)) ?_; (with_reducible refine (hangul_Split.calls k 44033 t130 _ A1.out).mono ?_); rintro e w40 ⟨v131, rfl, ho0, hb⟩; refine ⟨_, rfl, ?_⟩; have n0_ := Aside0.mk (Kd.R_lower ho0 (below_size (by repeat (first | (with_reducible first | exact HB.out | apply below_alloc | apply pw_below_drewN | apply below_drew1) | exact HB.out)))); have n1_ := Aside0.mk (below_step (by repeat (first | (with_reducible first | exact HB.out | apply below_alloc | apply pw_below_drewN | apply below_drew1) | exact HB.out)) hb); clear HB; have HO132 := n0_; have HB := n1_; clear n0_ n1_; (try clear hb); (try clear hb2); (try clear hk); (try clear hi); (try clear ho0)) | ((with_reducible refine gate_callee (f := 6) rfl ?_); refine goesL_ (some 10) rfl rfl Try.func6 (by kernel_rfl) rfl #[.int .i32 4352, .int .i32 4449] rfl (by (try simp only [List.map_toArray, List.map_cons, List.map_nil]); first | done | rfl | (simp only [List.length_drop, List.length_take]; rfl)) ?_; (with_reducible refine (hangul_Join.calls k 4352 4449 t133 t134 _ A2.out).mono ?_); rintro e w' ⟨rfl, ⟨nd, rfl⟩⟩; refine ⟨_, rfl, ?_⟩) | ((with_reducible refine gate_callee (f := 6) rfl ?_); refine goesL_ (some 15) rfl rfl Try.func6 (by kernel_rfl) rfl #[.int .i32 t133, .int .i32 4520] rfl (by (try simp only [List.map_toArray, List.map_cons, List.map_nil]); first | done | rfl | (simp only [List.length_drop, List.length_take]; rfl)) ?_; (with_reducible refine (hangul_Join.calls k t133 4520 t135 t136 _ A3.out).mono ?_); rintro e w' ⟨rfl, ⟨nd, rfl⟩⟩; refine ⟨_, rfl, ?_⟩) | ((with_reducible refine gate_callee (f := 6) rfl ?_); refine goesL_ (some 20) rfl rfl Try.func6 (by kernel_rfl) rfl #[.int .i32 t135, .int .i32 4520] rfl (by (try simp only [List.map_toArray, List.map_cons, List.map_nil]); first | done | rfl | (simp only [List.length_drop, List.length_take]; rfl)) ?_; (with_reducible refine (hangul_Join.calls k t135 4520 t137 t138 _ A4.out).mono ?_); rintro e w' ⟨rfl, ⟨nd, rfl⟩⟩; refine ⟨_, rfl, ?_⟩; obtain ⟨Ao41, co41, eo41⟩ := Kd.R_slice HO132.out; subst eo41; have p139 : 0 ≤ (0 : Int) := (by omega); have q139 : 0 < (t130.length : Int) := of_decide_eq_true (by first | (with_reducible assumption) | assumption); obtain ⟨ad139, e139, hx139_0⟩ := Kd.at_int (Kd.R_reads' HO132.out).2.2 0 p139 q139; cases e139; have qi139 : (0 < t130.length) = True := eq_true (by omega); (try rw [show ((0 : Int)).toNat = 0 from rfl] at hx139_0); (try rw [Addr.add_zero'] at hx139_0); replace p139 := eq_true p139; replace q139 := eq_true q139; have p140 : 0 ≤ (1 : Int) := (by omega); have q140 : 1 < (t130.length : Int) := of_decide_eq_true (by first | (with_reducible assumption) | assumption); obtain ⟨ad140, e140, hx140_0⟩ := Kd.at_int (Kd.R_reads' HO132.out).2.2 1 p140 q140; obtain rfl : ad139 = ad140 := (by injection e140); (try simp only [show (1 : Int).toNat = 1 from rfl, Nat.reduceMul, Nat.reduceEqDiff, Go.Addr.add, ↓reduceIte] at hx140_0); have qi140 : (1 < t130.length) = True := eq_true (by omega); (try rw [show ((1 : Int)).toNat = 1 from rfl] at hx140_0); replace p140 := eq_true p140; replace q140 := eq_true q140))
            go_ret
            exact ⟨by first | rfl | (simp [errW_none, errW_some] <;> rfl) | (simp [*, errW_none, errW_some] <;> rfl), by repeat (first | (with_reducible first | exact HB.out | apply below_alloc | apply pw_below_drewN | apply below_drew1) | exact HB.out)⟩
        · rw [if_neg c8] at H
          exact absurd H (by simp)
      · rw [if_neg c7] at H
        have c7b0 : ((rd t130 0) == 4352) = false := beq_eq_false_iff_ne.mpr c7
        have c7b1 : ((rd t130 0) != 4352) = true := bne_iff_ne.mpr c7
        obtain rfl := Option.some.inj H
        go_enter Try.func13, Try.ntmps13
        go_wp2_with (first | ((with_reducible refine gate_callee (f := 11) rfl ?_); refine goesL_ (some 8) rfl rfl Try.func11 (by kernel_rfl) rfl #[.int .i32 44033] rfl (by (try simp only [List.map_toArray, List.map_cons, List.map_nil]); first | done | rfl | (simp only [List.length_drop, List.length_take]; rfl)) ?_; (with_reducible refine (hangul_Split.calls k 44033 t130 _ A1.out).mono ?_); rintro e w42 ⟨v131, rfl, ho0, hb⟩; refine ⟨_, rfl, ?_⟩; have n0_ := Aside0.mk (Kd.R_lower ho0 (below_size (by repeat (first | (with_reducible first | exact HB.out | apply below_alloc | apply pw_below_drewN | apply below_drew1) | exact HB.out)))); have n1_ := Aside0.mk (below_step (by repeat (first | (with_reducible first | exact HB.out | apply below_alloc | apply pw_below_drewN | apply below_drew1) | exact HB.out)) hb); clear HB; have HO132 := n0_; have HB := n1_; clear n0_ n1_; (try clear hb); (try clear hb2); (try clear hk); (try clear hi); (try clear ho0)) | ((with_reducible refine gate_callee (f := 6) rfl ?_); refine goesL_ (some 10) rfl rfl Try.func6 (by kernel_rfl) rfl #[.int .i32 4352, .int .i32 4449] rfl (by (try simp only [List.map_toArray, List.map_cons, List.map_nil]); first | done | rfl | (simp only [List.length_drop, List.length_take]; rfl)) ?_; (with_reducible refine (hangul_Join.calls k 4352 4449 t133 t134 _ A2.out).mono ?_); rintro e w' ⟨rfl, ⟨nd, rfl⟩⟩; refine ⟨_, rfl, ?_⟩) | ((with_reducible refine gate_callee (f := 6) rfl ?_); refine goesL_ (some 15) rfl rfl Try.func6 (by kernel_rfl) rfl #[.int .i32 t133, .int .i32 4520] rfl (by (try simp only [List.map_toArray, List.map_cons, List.map_nil]); first | done | rfl | (simp only [List.length_drop, List.length_take]; rfl)) ?_; (with_reducible refine (hangul_Join.calls k t133 4520 t135 t136 _ A3.out).mono ?_); rintro e w' ⟨rfl, ⟨nd, rfl⟩⟩; refine ⟨_, rfl, ?_⟩) | ((with_reducible refine gate_callee (f := 6) rfl ?_); refine goesL_ (some 20) rfl rfl Try.func6 (by kernel_rfl) rfl #[.int .i32 t135, .int .i32 4520] rfl (by (try simp only [List.map_toArray, List.map_cons, List.map_nil]); first | done | rfl | (simp only [List.length_drop, List.length_take]; rfl)) ?_; (with_reducible refine (hangul_Join.calls k t135 4520 t137 t138 _ A4.out).mono ?_); rintro e w' ⟨rfl, ⟨nd, rfl⟩⟩; refine ⟨_, rfl, ?_⟩; obtain ⟨Ao43, co43, eo43⟩ := Kd.R_slice HO132.out; subst eo43; have p139 : 0 ≤ (0 : Int) := (by omega); have q139 : 0 < (t130.length : Int) := of_decide_eq_true (by first | (with_reducible assumption) | assumption); obtain ⟨ad139, e139, hx139_0⟩ := Kd.at_int (Kd.R_reads' HO132.out).2.2 0 p139 q139; cases e139; have qi139 : (0 < t130.length) = True := eq_true (by omega); (try rw [show ((0 : Int)).toNat = 0 from rfl] at hx139_0); (try rw [Addr.add_zero'] at hx139_0); replace p139 := eq_true p139; replace q139 := eq_true q139))
        go_ret
        exact ⟨by first | rfl | (simp [errW_none, errW_some] <;> rfl) | (simp [*, errW_none, errW_some] <;> rfl), by repeat (first | (with_reducible first | exact HB.out | apply below_alloc | apply pw_below_drewN | apply below_drew1) | exact HB.out)⟩
    · rw [if_neg c6] at H
      exact absurd H (by simp)
  · rw [if_neg c5] at H
    have c5b0 : ((t130.length : Int) == 3) = false := beq_eq_false_iff_ne.mpr c5
    have c5b1 : ((t130.length : Int) != 3) = true := bne_iff_ne.mpr c5
    obtain rfl := Option.some.inj H
    go_enter Try.func13, Try.ntmps13
    go_wp2_with (first | ((with_reducible refine gate_callee (f := 11) rfl ?_); refine goesL_ (some 8) rfl rfl Try.func11 (by kernel_rfl) rfl #[.int .i32 44033] rfl (by (try simp only [List.map_toArray, List.map_cons, List.map_nil]); first | done | rfl | (simp only [List.length_drop, List.length_take]; rfl)) ?_; (with_reducible refine (hangul_Split.calls k 44033 t130 _ A1.out).mono ?_); rintro e w44 ⟨v131, rfl, ho0, hb⟩; refine ⟨_, rfl, ?_⟩; have n0_ := Aside0.mk (Kd.R_lower ho0 (below_size (by repeat (first | (with_reducible first | exact HB.out | apply below_alloc | apply pw_below_drewN | apply below_drew1) | exact HB.out)))); have n1_ := Aside0.mk (below_step (by repeat (first | (with_reducible first | exact HB.out | apply below_alloc | apply pw_below_drewN | apply below_drew1) | exact HB.out)) hb); clear HB; have HO132 := n0_; have HB := n1_; clear n0_ n1_; (try clear hb); (try clear hb2); (try clear hk); (try clear hi); (try clear ho0)) | ((with_reducible refine gate_callee (f := 6) rfl ?_); refine goesL_ (some 10) rfl rfl Try.func6 (by kernel_rfl) rfl #[.int .i32 4352, .int .i32 4449] rfl (by (try simp only [List.map_toArray, List.map_cons, List.map_nil]); first | done | rfl | (simp only [List.length_drop, List.length_take]; rfl)) ?_; (with_reducible refine (hangul_Join.calls k 4352 4449 t133 t134 _ A2.out).mono ?_); rintro e w' ⟨rfl, ⟨nd, rfl⟩⟩; refine ⟨_, rfl, ?_⟩) | ((with_reducible refine gate_callee (f := 6) rfl ?_); refine goesL_ (some 15) rfl rfl Try.func6 (by kernel_rfl) rfl #[.int .i32 t133, .int .i32 4520] rfl (by (try simp only [List.map_toArray, List.map_cons, List.map_nil]); first | done | rfl | (simp only [List.length_drop, List.length_take]; rfl)) ?_; (with_reducible refine (hangul_Join.calls k t133 4520 t135 t136 _ A3.out).mono ?_); rintro e w' ⟨rfl, ⟨nd, rfl⟩⟩; refine ⟨_, rfl, ?_⟩) | ((with_reducible refine gate_callee (f := 6) rfl ?_); refine goesL_ (some 20) rfl rfl Try.func6 (by kernel_rfl) rfl #[.int .i32 t135, .int .i32 4520] rfl (by (try simp only [List.map_toArray, List.map_cons, List.map_nil]); first | done | rfl | (simp only [List.length_drop, List.length_take]; rfl)) ?_; (with_reducible refine (hangul_Join.calls k t135 4520 t137 t138 _ A4.out).mono ?_); rintro e w' ⟨rfl, ⟨nd, rfl⟩⟩; refine ⟨_, rfl, ?_⟩; obtain ⟨Ao45, co45, eo45⟩ := Kd.R_slice HO132.out; subst eo45))
    go_ret
    exact ⟨by first | rfl | (simp [errW_none, errW_some] <;> rfl) | (simp [*, errW_none, errW_some] <;> rfl), by repeat (first | (with_reducible first | exact HB.out | apply below_alloc | apply pw_below_drewN | apply below_drew1) | exact HB.out)⟩

/-! ### orthoepylaw06_HangulAll: function 3 -/
def orthoepylaw06_HangulAll.f (k : Nat) (a0 : Int) (a1 : Int) (a2 : Int) : Option (Bool) := (hangul_Join.f k a1 a2).bind fun bt145 => ((orthoepyref06_Join.f k a1 a2).bind fun bt147 => ((hangul_Kind.f k a0).bind fun t149 => ((orthoepyref06_Kind.f k a0).bind fun t150 => (if t149 = t150 then ((hangul_Kind.f k a1).bind fun t151 => ((orthoepyref06_Kind.f k a1).bind fun t152 => (if t151 = t152 then ((hangul_Split.f k a0).bind fun t153 => ((orthoepyref06_Split.f k a0).bind fun t156 => ((orthoepyref07_Same.f k t153 t156).bind fun t159 => (if t159 = true then (if bt145.1 = bt147.1 then (if (bt145.2 == bt147.2) = true then ((orthoepylaw06_awake.f k).bind fun t160 => (some t160)) else (some false)) else (some false)) else (some false))))) else (some false)))) else (some false)))))
theorem orthoepylaw06_HangulAll.mono : ∀ a0 a1 a2 k, LeO (orthoepylaw06_HangulAll.f k a0 a1 a2) (orthoepylaw06_HangulAll.f (k + 1) a0 a1 a2) := by
  intro a0 a1 a2 k
  unfold orthoepylaw06_HangulAll.f
  repeat' first
      | (with_reducible exact hangul_Join.mono _ _ _)
      | (with_reducible exact hangul_Kind.mono _ _)
      | (with_reducible exact hangul_Split.mono _ _)
      | (with_reducible exact orthoepylaw06_awake.mono _)
      | (with_reducible exact orthoepyref06_Join.mono _ _ _)
      | (with_reducible exact orthoepyref06_Kind.mono _ _)
      | (with_reducible exact orthoepyref06_Split.mono _ _)
      | (with_reducible exact orthoepyref07_Same.mono _ _ _)
      | (with_reducible exact LeO.refl _)
      | (with_reducible exact LeO.none _)
      | (with_reducible refine LeO.ite ?_ ?_)
      | (with_reducible refine LeO.bind ?_ (fun _ => ?_))
      | exact hangul_Join.mono _ _ _
      | exact hangul_Kind.mono _ _
      | exact hangul_Split.mono _ _
      | exact orthoepylaw06_awake.mono _
      | exact orthoepyref06_Join.mono _ _ _
      | exact orthoepyref06_Kind.mono _ _
      | exact orthoepyref06_Split.mono _ _
      | exact orthoepyref07_Same.mono _ _ _
      | exact LeO.none _
      | refine LeO.ite ?_ ?_
      | refine LeO.bind ?_ (fun _ => ?_)
set_option maxHeartbeats 8000000 in
set_option maxRecDepth 100000 in
theorem orthoepylaw06_HangulAll.calls (k : Nat) (a0 : Int) (a1 : Int) (a2 : Int) (r : Bool) (w : World) (h : orthoepylaw06_HangulAll.f k a0 a1 a2 = some r) :
    Calls Try.prog 3 #[.int .i32 a0, .int .i32 a1, .int .i32 a2] w fun e w' => e = .returned (.bool r) ∧ Below w.heap.size w w' := by
  have HB := Aside0.mk (Below.refl w.heap.size w)
  have H : ((hangul_Join.f k a1 a2).bind fun bt145 => ((orthoepyref06_Join.f k a1 a2).bind fun bt147 => ((hangul_Kind.f k a0).bind fun t149 => ((orthoepyref06_Kind.f k a0).bind fun t150 => (if t149 = t150 then ((hangul_Kind.f k a1).bind fun t151 => ((orthoepyref06_Kind.f k a1).bind fun t152 => (if t151 = t152 then ((hangul_Split.f k a0).bind fun t153 => ((orthoepyref06_Split.f k a0).bind fun t156 => ((orthoepyref07_Same.f k t153 t156).bind fun t159 => (if t159 = true then (if bt145.1 = bt147.1 then (if (bt145.2 == bt147.2) = true then ((orthoepylaw06_awake.f k).bind fun t160 => (some t160)) else (some false)) else (some false)) else (some false))))) else (some false)))) else (some false)))))) = some r := h
  clear h
  replace H := Option.bind_eq_some_iff.mp H
  obtain ⟨⟨t145, t146⟩, A40, H⟩ := H
  replace H : ((orthoepyref06_Join.f k a1 a2).bind fun bt147 => ((hangul_Kind.f k a0).bind fun t149 => ((orthoepyref06_Kind.f k a0).bind fun t150 => (if t149 = t150 then ((hangul_Kind.f k a1).bind fun t151 => ((orthoepyref06_Kind.f k a1).bind fun t152 => (if t151 = t152 then ((hangul_Split.f k a0).bind fun t153 => ((orthoepyref06_Split.f k a0).bind fun t156 => ((orthoepyref07_Same.f k t153 t156).bind fun t159 => (if t159 = true then (if t145 = bt147.1 then (if (t146 == bt147.2) = true then ((orthoepylaw06_awake.f k).bind fun t160 => (some t160)) else (some false)) else (some false)) else (some false))))) else (some false)))) else (some false))))) = some r := H
  have A4 := Aside0.mk A40
  clear A40
  replace H := Option.bind_eq_some_iff.mp H
  obtain ⟨⟨t147, t148⟩, A50, H⟩ := H
  replace H : ((hangul_Kind.f k a0).bind fun t149 => ((orthoepyref06_Kind.f k a0).bind fun t150 => (if t149 = t150 then ((hangul_Kind.f k a1).bind fun t151 => ((orthoepyref06_Kind.f k a1).bind fun t152 => (if t151 = t152 then ((hangul_Split.f k a0).bind fun t153 => ((orthoepyref06_Split.f k a0).bind fun t156 => ((orthoepyref07_Same.f k t153 t156).bind fun t159 => (if t159 = true then (if t145 = t147 then (if (t146 == t148) = true then ((orthoepylaw06_awake.f k).bind fun t160 => (some t160)) else (some false)) else (some false)) else (some false))))) else (some false)))) else (some false)))) = some r := H
  have A5 := Aside0.mk A50
  clear A50
  replace H := Option.bind_eq_some_iff.mp H
  obtain ⟨t149, A60, H⟩ := H
  replace H : ((orthoepyref06_Kind.f k a0).bind fun t150 => (if t149 = t150 then ((hangul_Kind.f k a1).bind fun t151 => ((orthoepyref06_Kind.f k a1).bind fun t152 => (if t151 = t152 then ((hangul_Split.f k a0).bind fun t153 => ((orthoepyref06_Split.f k a0).bind fun t156 => ((orthoepyref07_Same.f k t153 t156).bind fun t159 => (if t159 = true then (if t145 = t147 then (if (t146 == t148) = true then ((orthoepylaw06_awake.f k).bind fun t160 => (some t160)) else (some false)) else (some false)) else (some false))))) else (some false)))) else (some false))) = some r := H
  have A6 := Aside0.mk A60
  clear A60
  replace H := Option.bind_eq_some_iff.mp H
  obtain ⟨t150, A70, H⟩ := H
  replace H : (if t149 = t150 then ((hangul_Kind.f k a1).bind fun t151 => ((orthoepyref06_Kind.f k a1).bind fun t152 => (if t151 = t152 then ((hangul_Split.f k a0).bind fun t153 => ((orthoepyref06_Split.f k a0).bind fun t156 => ((orthoepyref07_Same.f k t153 t156).bind fun t159 => (if t159 = true then (if t145 = t147 then (if (t146 == t148) = true then ((orthoepylaw06_awake.f k).bind fun t160 => (some t160)) else (some false)) else (some false)) else (some false))))) else (some false)))) else (some false)) = some r := H
  have A7 := Aside0.mk A70
  clear A70
  by_cases c8 : t149 = t150
  · rw [if_pos c8] at H
    have c8b0 : (t149 == t150) = true := beq_iff_eq.mpr c8
    have c8b1 : (t149 != t150) = false := bne_eq_false_iff_eq.mpr c8
    clear c8
    replace H := Option.bind_eq_some_iff.mp H
    obtain ⟨t151, A90, H⟩ := H
    replace H : ((orthoepyref06_Kind.f k a1).bind fun t152 => (if t151 = t152 then ((hangul_Split.f k a0).bind fun t153 => ((orthoepyref06_Split.f k a0).bind fun t156 => ((orthoepyref07_Same.f k t153 t156).bind fun t159 => (if t159 = true then (if t145 = t147 then (if (t146 == t148) = true then ((orthoepylaw06_awake.f k).bind fun t160 => (some t160)) else (some false)) else (some false)) else (some false))))) else (some false))) = some r := H
    have A9 := Aside0.mk A90
    clear A90
    replace H := Option.bind_eq_some_iff.mp H
    obtain ⟨t152, A100, H⟩ := H
    replace H : (if t151 = t152 then ((hangul_Split.f k a0).bind fun t153 => ((orthoepyref06_Split.f k a0).bind fun t156 => ((orthoepyref07_Same.f k t153 t156).bind fun t159 => (if t159 = true then (if t145 = t147 then (if (t146 == t148) = true then ((orthoepylaw06_awake.f k).bind fun t160 => (some t160)) else (some false)) else (some false)) else (some false))))) else (some false)) = some r := H
    have A10 := Aside0.mk A100
    clear A100
    by_cases c11 : t151 = t152
    · rw [if_pos c11] at H
      have c11b0 : (t151 == t152) = true := beq_iff_eq.mpr c11
      have c11b1 : (t151 != t152) = false := bne_eq_false_iff_eq.mpr c11
      clear c11
      replace H := Option.bind_eq_some_iff.mp H
      obtain ⟨t153, A120, H⟩ := H
      replace H : ((orthoepyref06_Split.f k a0).bind fun t156 => ((orthoepyref07_Same.f k t153 t156).bind fun t159 => (if t159 = true then (if t145 = t147 then (if (t146 == t148) = true then ((orthoepylaw06_awake.f k).bind fun t160 => (some t160)) else (some false)) else (some false)) else (some false)))) = some r := H
      have A12 := Aside0.mk A120
      clear A120
      replace H := Option.bind_eq_some_iff.mp H
      obtain ⟨t156, A130, H⟩ := H
      replace H : ((orthoepyref07_Same.f k t153 t156).bind fun t159 => (if t159 = true then (if t145 = t147 then (if (t146 == t148) = true then ((orthoepylaw06_awake.f k).bind fun t160 => (some t160)) else (some false)) else (some false)) else (some false))) = some r := H
      have A13 := Aside0.mk A130
      clear A130
      replace H := Option.bind_eq_some_iff.mp H
      obtain ⟨t159, A140, H⟩ := H
      replace H : (if t159 = true then (if t145 = t147 then (if (t146 == t148) = true then ((orthoepylaw06_awake.f k).bind fun t160 => (some t160)) else (some false)) else (some false)) else (some false)) = some r := H
      have A14 := Aside0.mk A140
      clear A140
      by_cases c15 : t159 = true
      · subst c15
        have H1 : (if t145 = t147 then (if (t146 == t148) = true then ((orthoepylaw06_awake.f k).bind fun t160 => (some t160)) else (some false)) else (some false)) = some r := by rw [if_pos rfl] at H; exact H
        clear H
        have H := H1
        clear H1
        by_cases c16 : t145 = t147
        · rw [if_pos c16] at H
          have c16b0 : (t145 == t147) = true := beq_iff_eq.mpr c16
          have c16b1 : (t145 != t147) = false := bne_eq_false_iff_eq.mpr c16
          clear c16
          by_cases c17 : (t146 == t148) = true
          · rw [if_pos c17] at H
            have c17b0 : (t146 == t148) = true := c17
            (try (have c17b1 : decide (t146 = t148) = true := by simpa using c17))
            (try (have c17b2 : (t146 == t148) = true := by simpa using c17))
            clear c17
            replace H := Option.bind_eq_some_iff.mp H
            obtain ⟨t160, A180, H⟩ := H
            replace H : (some t160) = some r := H
            have A18 := Aside0.mk A180
            clear A180
            obtain rfl := Option.some.inj H
            go_enter Try.func3, Try.ntmps3
            go_wp2_with (first | ((with_reducible refine gate_callee (f := 6) rfl ?_); refine goesL_ (some 14) rfl rfl Try.func6 (by kernel_rfl) rfl #[.int .i32 a1, .int .i32 a2] rfl (by (try simp only [List.map_toArray, List.map_cons, List.map_nil]); first | done | rfl | (simp only [List.length_drop, List.length_take]; rfl)) ?_; (with_reducible refine (hangul_Join.calls k a1 a2 t145 t146 _ A4.out).mono ?_); rintro e w' ⟨rfl, ⟨nd, rfl⟩⟩; refine ⟨_, rfl, ?_⟩) | ((with_reducible refine gate_callee (f := 7) rfl ?_); refine goesL_ (some 20) rfl rfl Try.func7 (by kernel_rfl) rfl #[.int .i32 a1, .int .i32 a2] rfl (by (try simp only [List.map_toArray, List.map_cons, List.map_nil]); first | done | rfl | (simp only [List.length_drop, List.length_take]; rfl)) ?_; (with_reducible refine (orthoepyref06_Join.calls k a1 a2 t147 t148 _ A5.out).mono ?_); rintro e w' ⟨rfl, ⟨nd, rfl⟩⟩; refine ⟨_, rfl, ?_⟩) | ((with_reducible refine gate_callee (f := 8) rfl ?_); refine goesL_ (some 24) rfl rfl Try.func8 (by kernel_rfl) rfl #[.int .i32 a0] rfl (by (try simp only [List.map_toArray, List.map_cons, List.map_nil]); first | done | rfl | (simp only [List.length_drop, List.length_take]; rfl)) ?_; (with_reducible refine (hangul_Kind.calls k a0 t149 _ A6.out).mono ?_); rintro e w' ⟨rfl, ⟨nd, rfl⟩⟩; refine ⟨_, rfl, ?_⟩) | ((with_reducible refine gate_callee (f := 9) rfl ?_); refine goesL_ (some 26) rfl rfl Try.func9 (by kernel_rfl) rfl #[.int .i32 a0] rfl (by (try simp only [List.map_toArray, List.map_cons, List.map_nil]); first | done | rfl | (simp only [List.length_drop, List.length_take]; rfl)) ?_; (with_reducible refine (orthoepyref06_Kind.calls k a0 t150 _ A7.out).mono ?_); rintro e w' ⟨rfl, ⟨nd, rfl⟩⟩; refine ⟨_, rfl, ?_⟩) | (go_at_call 8; (with_reducible refine (hangul_Kind.calls k a1 t151 _ A9.out).mono ?_); rintro e w' ⟨rfl, ⟨nd, rfl⟩⟩) | (go_at_call 9; (with_reducible refine (orthoepyref06_Kind.calls k a1 t152 _ A10.out).mono ?_); rintro e w' ⟨rfl, ⟨nd, rfl⟩⟩) | (go_at_call 11; (with_reducible refine (hangul_Split.calls k a0 t153 _ A12.out).mono ?_); rintro e w19 ⟨v154, rfl, ho0, hb⟩; have n0_ := Aside0.mk (Kd.R_lower ho0 (below_size (by repeat (first | (with_reducible first | exact HB.out | apply below_alloc | apply pw_below_drewN | apply below_drew1) | exact HB.out)))); have n1_ := Aside0.mk (below_step (by repeat (first | (with_reducible first | exact HB.out | apply below_alloc | apply pw_below_drewN | apply below_drew1) | exact HB.out)) hb); clear HB; have HO155 := n0_; have HB := n1_; clear n0_ n1_; (try clear hb); (try clear hb2); (try clear hk); (try clear hi); (try clear ho0)) | (go_at_call 12; (with_reducible refine (orthoepyref06_Split.calls k a0 t156 _ A13.out).mono ?_); rintro e w20 ⟨v157, rfl, ho0, hb⟩; have n0_ := Aside0.mk (Kd.R_elder' (by (with_reducible repeat (first | apply Kd.R_alloc | apply Kd.R_drewN | apply Kd.R_drew)); exact HO155.out) (Kd.R_base ho0) hb); have n1_ := Aside0.mk (Kd.R_lower (Kd.R_new' ho0 (Kd.R_lt (by (with_reducible repeat (first | apply Kd.R_alloc | apply Kd.R_drewN | apply Kd.R_drew)); exact HO155.out))) (below_size (by repeat (first | (with_reducible first | exact HB.out | apply below_alloc | apply pw_below_drewN | apply below_drew1) | exact HB.out)))); have n2_ := Aside0.mk (below_step (by repeat (first | (with_reducible first | exact HB.out | apply below_alloc | apply pw_below_drewN | apply below_drew1) | exact HB.out)) hb); clear HO155; clear HB; have HO155 := n0_; have HO158 := n1_; have HB := n2_; clear n0_ n1_ n2_; (try clear hb); (try clear hb2); (try clear hk); (try clear hi); (try clear ho0); obtain ⟨Ao21, co21, eo21⟩ := Kd.R_slice HO155.out; subst eo21; obtain ⟨Ao22, co22, eo22⟩ := Kd.R_slice HO158.out; subst eo22) | (go_at_call 10; (with_reducible refine (orthoepyref07_Same.calls k _ _ t153 _ _ t156 true _ ?side1 ?side2 ?side3 ?side4 A14.out).mono ?_); (case side1 => repeat (first | exact (Kd.R_reads' HO155.out).2.2 | (with_reducible refine Kd.C_alloc ?_ _) | (with_reducible refine Kd.C_drewN ?_ _) | (with_reducible refine Kd.C_drew ?_))); (case side2 => exact (Kd.R_reads' HO155.out).2.1); (case side3 => repeat (first | exact (Kd.R_reads' HO158.out).2.2 | (with_reducible refine Kd.C_alloc ?_ _) | (with_reducible refine Kd.C_drewN ?_ _) | (with_reducible refine Kd.C_drew ?_))); (case side4 => exact (Kd.R_reads' HO158.out).2.1); rintro e w' ⟨rfl, ⟨nd, rfl⟩⟩) | (go_at_call 13; (with_reducible refine (orthoepylaw06_awake.calls k  t160 _ A18.out).mono ?_); rintro e w23 ⟨rfl, hb⟩; have n0_ := Aside0.mk (Kd.R_below (by (with_reducible repeat (first | apply Kd.R_alloc | apply Kd.R_drewN | apply Kd.R_drew)); exact HO155.out) hb); have n1_ := Aside0.mk (Kd.R_below (by (with_reducible repeat (first | apply Kd.R_alloc | apply Kd.R_drewN | apply Kd.R_drew)); exact HO158.out) hb); have n2_ := Aside0.mk (below_step (by repeat (first | (with_reducible first | exact HB.out | apply below_alloc | apply pw_below_drewN | apply below_drew1) | exact HB.out)) hb); clear HO155; clear HO158; clear HB; have HO155 := n0_; have HO158 := n1_; have HB := n2_; clear n0_ n1_ n2_; (try clear hb); (try clear hb2); (try clear hk); (try clear hi)))
            go_ret
            exact ⟨by first | rfl | (simp [errW_none, errW_some] <;> rfl) | (simp [*, errW_none, errW_some] <;> rfl), by repeat (first | (with_reducible first | exact HB.out | apply below_alloc | apply pw_below_drewN | apply below_drew1) | exact HB.out)⟩
          · rw [if_neg c17] at H
            have c17b0 : (t146 == t148) = false := by simpa using c17
            (try (have c17b1 : decide (t146 = t148) = false := by simpa using c17))
            (try (have c17b2 : (t146 == t148) = false := by simpa using c17))
            (try (have c17b3 : ¬ (t146 = t148) := by simpa using c17))
            clear c17
            obtain rfl := Option.some.inj H
            go_enter Try.func3, Try.ntmps3
            go_wp2_with (first | ((with_reducible refine gate_callee (f := 6) rfl ?_); refine goesL_ (some 14) rfl rfl Try.func6 (by kernel_rfl) rfl #[.int .i32 a1, .int .i32 a2] rfl (by (try simp only [List.map_toArray, List.map_cons, List.map_nil]); first | done | rfl | (simp only [List.length_drop, List.length_take]; rfl)) ?_; (with_reducible refine (hangul_Join.calls k a1 a2 t145 t146 _ A4.out).mono ?_); rintro e w' ⟨rfl, ⟨nd, rfl⟩⟩; refine ⟨_, rfl, ?_⟩) | ((with_reducible refine gate_callee (f := 7) rfl ?_); refine goesL_ (some 20) rfl rfl Try.func7 (by kernel_rfl) rfl #[.int .i32 a1, .int .i32 a2] rfl (by (try simp only [List.map_toArray, List.map_cons, List.map_nil]); first | done | rfl | (simp only [List.length_drop, List.length_take]; rfl)) ?_; (with_reducible refine (orthoepyref06_Join.calls k a1 a2 t147 t148 _ A5.out).mono ?_); rintro e w' ⟨rfl, ⟨nd, rfl⟩⟩; refine ⟨_, rfl, ?_⟩) | ((with_reducible refine gate_callee (f := 8) rfl ?_); refine goesL_ (some 24) rfl rfl Try.func8 (by kernel_rfl) rfl #[.int .i32 a0] rfl (by (try simp only [List.map_toArray, List.map_cons, List.map_nil]); first | done | rfl | (simp only [List.length_drop, List.length_take]; rfl)) ?_; (with_reducible refine (hangul_Kind.calls k a0 t149 _ A6.out).mono ?_); rintro e w' ⟨rfl, ⟨nd, rfl⟩⟩; refine ⟨_, rfl, ?_⟩) | ((with_reducible refine gate_callee (f := 9) rfl ?_); refine goesL_ (some 26) rfl rfl Try.func9 (by kernel_rfl) rfl #[.int .i32 a0] rfl (by (try simp only [List.map_toArray, List.map_cons, List.map_nil]); first | done | rfl | (simp only [List.length_drop, List.length_take]; rfl)) ?_; (with_reducible refine (orthoepyref06_Kind.calls k a0 t150 _ A7.out).mono ?_); rintro e w' ⟨rfl, ⟨nd, rfl⟩⟩; refine ⟨_, rfl, ?_⟩) | (go_at_call 8; (with_reducible refine (hangul_Kind.calls k a1 t151 _ A9.out).mono ?_); rintro e w' ⟨rfl, ⟨nd, rfl⟩⟩) | (go_at_call 9; (with_reducible refine (orthoepyref06_Kind.calls k a1 t152 _ A10.out).mono ?_); rintro e w' ⟨rfl, ⟨nd, rfl⟩⟩) | (go_at_call 11; (with_reducible refine (hangul_Split.calls k a0 t153 _ A12.out).mono ?_); rintro e w24 ⟨v154, rfl, ho0, hb⟩; have n0_ := Aside0.mk (Kd.R_lower ho0 (below_size (by repeat (first | (with_reducible first | exact HB.out | apply below_alloc | apply pw_below_drewN | apply below_drew1) | exact HB.out)))); have n1_ := Aside0.mk (below_step (by repeat (first | (with_reducible first | exact HB.out | apply below_alloc | apply pw_below_drewN | apply below_drew1) | exact HB.out)) hb); clear HB; have HO155 := n0_; have HB := n1_; clear n0_ n1_; (try clear hb); (try clear hb2); (try clear hk); (try clear hi); (try clear ho0)) | (go_at_call 12; (with_reducible refine (orthoepyref06_Split.calls k a0 t156 _ A13.out).mono ?_); rintro e w25 ⟨v157, rfl, ho0, hb⟩; have n0_ := Aside0.mk (Kd.R_elder' (by (with_reducible repeat (first | apply Kd.R_alloc | apply Kd.R_drewN | apply Kd.R_drew)); exact HO155.out) (Kd.R_base ho0) hb); have n1_ := Aside0.mk (Kd.R_lower (Kd.R_new' ho0 (Kd.R_lt (by (with_reducible repeat (first | apply Kd.R_alloc | apply Kd.R_drewN | apply Kd.R_drew)); exact HO155.out))) (below_size (by repeat (first | (with_reducible first | exact HB.out | apply below_alloc | apply pw_below_drewN | apply below_drew1) | exact HB.out)))); have n2_ := Aside0.mk (below_step (by repeat (first | (with_reducible first | exact HB.out | apply below_alloc | apply pw_below_drewN | apply below_drew1) | exact HB.out)) hb); clear HO155; clear HB; have HO155 := n0_; have HO158 := n1_; have HB := n2_; clear n0_ n1_ n2_; (try clear hb); (try clear hb2); (try clear hk); (try clear hi); (try clear ho0); obtain ⟨Ao26, co26, eo26⟩ := Kd.R_slice HO155.out; subst eo26; obtain ⟨Ao27, co27, eo27⟩ := Kd.R_slice HO158.out; subst eo27) | (go_at_call 10; (with_reducible refine (orthoepyref07_Same.calls k _ _ t153 _ _ t156 true _ ?side1 ?side2 ?side3 ?side4 A14.out).mono ?_); (case side1 => repeat (first | exact (Kd.R_reads' HO155.out).2.2 | (with_reducible refine Kd.C_alloc ?_ _) | (with_reducible refine Kd.C_drewN ?_ _) | (with_reducible refine Kd.C_drew ?_))); (case side2 => exact (Kd.R_reads' HO155.out).2.1); (case side3 => repeat (first | exact (Kd.R_reads' HO158.out).2.2 | (with_reducible refine Kd.C_alloc ?_ _) | (with_reducible refine Kd.C_drewN ?_ _) | (with_reducible refine Kd.C_drew ?_))); (case side4 => exact (Kd.R_reads' HO158.out).2.1); rintro e w' ⟨rfl, ⟨nd, rfl⟩⟩))
            go_ret
            exact ⟨by first | rfl | (simp [errW_none, errW_some] <;> rfl) | (simp [*, errW_none, errW_some] <;> rfl), by repeat (first | (with_reducible first | exact HB.out | apply below_alloc | apply pw_below_drewN | apply below_drew1) | exact HB.out)⟩
        · rw [if_neg c16] at H
          have c16b0 : (t145 == t147) = false := beq_eq_false_iff_ne.mpr c16
          have c16b1 : (t145 != t147) = true := bne_iff_ne.mpr c16
          obtain rfl := Option.some.inj H
          go_enter Try.func3, Try.ntmps3
          go_wp2_with (first | ((with_reducible refine gate_callee (f := 6) rfl ?_); refine goesL_ (some 14) rfl rfl Try.func6 (by kernel_rfl) rfl #[.int .i32 a1, .int .i32 a2] rfl (by (try simp only [List.map_toArray, List.map_cons, List.map_nil]); first | done | rfl | (simp only [List.length_drop, List.length_take]; rfl)) ?_; (with_reducible refine (hangul_Join.calls k a1 a2 t145 t146 _ A4.out).mono ?_); rintro e w' ⟨rfl, ⟨nd, rfl⟩⟩; refine ⟨_, rfl, ?_⟩) | ((with_reducible refine gate_callee (f := 7) rfl ?_); refine goesL_ (some 20) rfl rfl Try.func7 (by kernel_rfl) rfl #[.int .i32 a1, .int .i32 a2] rfl (by (try simp only [List.map_toArray, List.map_cons, List.map_nil]); first | done | rfl | (simp only [List.length_drop, List.length_take]; rfl)) ?_; (with_reducible refine (orthoepyref06_Join.calls k a1 a2 t147 t148 _ A5.out).mono ?_); rintro e w' ⟨rfl, ⟨nd, rfl⟩⟩; refine ⟨_, rfl, ?_⟩) | ((with_reducible refine gate_callee (f := 8) rfl ?_); refine goesL_ (some 24) rfl rfl Try.func8 (by kernel_rfl) rfl #[.int .i32 a0] rfl (by (try simp only [List.map_toArray, List.map_cons, List.map_nil]); first | done | rfl | (simp only [List.length_drop, List.length_take]; rfl)) ?_; (with_reducible refine (hangul_Kind.calls k a0 t149 _ A6.out).mono ?_); rintro e w' ⟨rfl, ⟨nd, rfl⟩⟩; refine ⟨_, rfl, ?_⟩) | ((with_reducible refine gate_callee (f := 9) rfl ?_); refine goesL_ (some 26) rfl rfl Try.func9 (by kernel_rfl) rfl #[.int .i32 a0] rfl (by (try simp only [List.map_toArray, List.map_cons, List.map_nil]); first | done | rfl | (simp only [List.length_drop, List.length_take]; rfl)) ?_; (with_reducible refine (orthoepyref06_Kind.calls k a0 t150 _ A7.out).mono ?_); rintro e w' ⟨rfl, ⟨nd, rfl⟩⟩; refine ⟨_, rfl, ?_⟩) | (go_at_call 8; (with_reducible refine (hangul_Kind.calls k a1 t151 _ A9.out).mono ?_); rintro e w' ⟨rfl, ⟨nd, rfl⟩⟩) | (go_at_call 9; (with_reducible refine (orthoepyref06_Kind.calls k a1 t152 _ A10.out).mono ?_); rintro e w' ⟨rfl, ⟨nd, rfl⟩⟩) | (go_at_call 11; (with_reducible refine (hangul_Split.calls k a0 t153 _ A12.out).mono ?_); rintro e w28 ⟨v154, rfl, ho0, hb⟩; have n0_ := Aside0.mk (Kd.R_lower ho0 (below_size (by repeat (first | (with_reducible first | exact HB.out | apply below_alloc | apply pw_below_drewN | apply below_drew1) | exact HB.out)))); have n1_ := Aside0.mk (below_step (by repeat (first | (with_reducible first | exact HB.out | apply below_alloc | apply pw_below_drewN | apply below_drew1) | exact HB.out)) hb); clear HB; have HO155 := n0_; have HB := n1_; clear n0_ n1_; (try clear hb); (try clear hb2); (try clear hk); (try clear hi); (try clear ho0)) | (go_at_call 12; (with_reducible refine (orthoepyref06_Split.calls k a0 t156 _ A13.out).mono ?_); rintro e w29 ⟨v157, rfl, ho0, hb⟩; have n0_ := Aside0.mk (Kd.R_elder' (by (with_reducible repeat (first | apply Kd.R_alloc | apply Kd.R_drewN | apply Kd.R_drew)); exact HO155.out) (Kd.R_base ho0) hb); have n1_ := Aside0.mk (Kd.R_lower (Kd.R_new' ho0 (Kd.R_lt (by (with_reducible repeat (first | apply Kd.R_alloc | apply Kd.R_drewN | apply Kd.R_drew)); exact HO155.out))) (below_size (by repeat (first | (with_reducible first | exact HB.out | apply below_alloc | apply pw_below_drewN | apply below_drew1) | exact HB.out)))); have n2_ := Aside0.mk (below_step (by repeat (first | (with_reducible first | exact HB.out | apply below_alloc | apply pw_below_drewN | apply below_drew1) | exact HB.out)) hb); clear HO155; clear HB; have HO155 := n0_; have HO158 := n1_; have HB := n2_; clear n0_ n1_ n2_; (try clear hb); (try clear hb2); (try clear hk); (try clear hi); (try clear ho0); obtain ⟨Ao30, co30, eo30⟩ := Kd.R_slice HO155.out; subst eo30; obtain ⟨Ao31, co31, eo31⟩ := Kd.R_slice HO158.out; subst eo31) | (go_at_call 10; (with_reducible refine (orthoepyref07_Same.calls k _ _ t153 _ _ t156 true _ ?side1 ?side2 ?side3 ?side4 A14.out).mono ?_); (case side1 => repeat (first | exact (Kd.R_reads' HO155.out).2.2 | (with_reducible refine Kd.C_alloc ?_ _) | (with_reducible refine Kd.C_drewN ?_ _) | (with_reducible refine Kd.C_drew ?_))); (case side2 => exact (Kd.R_reads' HO155.out).2.1); (case side3 => repeat (first | exact (Kd.R_reads' HO158.out).2.2 | (with_reducible refine Kd.C_alloc ?_ _) | (with_reducible refine Kd.C_drewN ?_ _) | (with_reducible refine Kd.C_drew ?_))); (case side4 => exact (Kd.R_reads' HO158.out).2.1); rintro e w' ⟨rfl, ⟨nd, rfl⟩⟩))
          go_ret
          exact ⟨by first | rfl | (simp [errW_none, errW_some] <;> rfl) | (simp [*, errW_none, errW_some] <;> rfl), by repeat (first | (with_reducible first | exact HB.out | apply below_alloc | apply pw_below_drewN | apply below_drew1) | exact HB.out)⟩
      · replace c15 := Bool.eq_false_iff.mpr c15
        subst c15
        have H1 : (some false) = some r := by rw [if_neg (show ¬ (false = true) by decide)] at H; exact H
        clear H
        have H := H1
        clear H1
        obtain rfl := Option.some.inj H
        go_enter Try.func3, Try.ntmps3
        go_wp2_with (first | ((with_reducible refine gate_callee (f := 6) rfl ?_); refine goesL_ (some 14) rfl rfl Try.func6 (by kernel_rfl) rfl #[.int .i32 a1, .int .i32 a2] rfl (by (try simp only [List.map_toArray, List.map_cons, List.map_nil]); first | done | rfl | (simp only [List.length_drop, List.length_take]; rfl)) ?_; (with_reducible refine (hangul_Join.calls k a1 a2 t145 t146 _ A4.out).mono ?_); rintro e w' ⟨rfl, ⟨nd, rfl⟩⟩; refine ⟨_, rfl, ?_⟩) | ((with_reducible refine gate_callee (f := 7) rfl ?_); refine goesL_ (some 20) rfl rfl Try.func7 (by kernel_rfl) rfl #[.int .i32 a1, .int .i32 a2] rfl (by (try simp only [List.map_toArray, List.map_cons, List.map_nil]); first | done | rfl | (simp only [List.length_drop, List.length_take]; rfl)) ?_; (with_reducible refine (orthoepyref06_Join.calls k a1 a2 t147 t148 _ A5.out).mono ?_); rintro e w' ⟨rfl, ⟨nd, rfl⟩⟩; refine ⟨_, rfl, ?_⟩) | ((with_reducible refine gate_callee (f := 8) rfl ?_); refine goesL_ (some 24) rfl rfl Try.func8 (by kernel_rfl) rfl #[.int .i32 a0] rfl (by (try simp only [List.map_toArray, List.map_cons, List.map_nil]); first | done | rfl | (simp only [List.length_drop, List.length_take]; rfl)) ?_; (with_reducible refine (hangul_Kind.calls k a0 t149 _ A6.out).mono ?_); rintro e w' ⟨rfl, ⟨nd, rfl⟩⟩; refine ⟨_, rfl, ?_⟩) | ((with_reducible refine gate_callee (f := 9) rfl ?_); refine goesL_ (some 26) rfl rfl Try.func9 (by kernel_rfl) rfl #[.int .i32 a0] rfl (by (try simp only [List.map_toArray, List.map_cons, List.map_nil]); first | done | rfl | (simp only [List.length_drop, List.length_take]; rfl)) ?_; (with_reducible refine (orthoepyref06_Kind.calls k a0 t150 _ A7.out).mono ?_); rintro e w' ⟨rfl, ⟨nd, rfl⟩⟩; refine ⟨_, rfl, ?_⟩) | (go_at_call 8; (with_reducible refine (hangul_Kind.calls k a1 t151 _ A9.out).mono ?_); rintro e w' ⟨rfl, ⟨nd, rfl⟩⟩) | (go_at_call 9; (with_reducible refine (orthoepyref06_Kind.calls k a1 t152 _ A10.out).mono ?_); rintro e w' ⟨rfl, ⟨nd, rfl⟩⟩) | (go_at_call 11; (with_reducible refine (hangul_Split.calls k a0 t153 _ A12.out).mono ?_); rintro e w32 ⟨v154, rfl, ho0, hb⟩; have n0_ := Aside0.mk (Kd.R_lower ho0 (below_size (by repeat (first | (with_reducible first | exact HB.out | apply below_alloc | apply pw_below_drewN | apply below_drew1) | exact HB.out)))); have n1_ := Aside0.mk (below_step (by repeat (first | (with_reducible first | exact HB.out | apply below_alloc | apply pw_below_drewN | apply below_drew1) | exact HB.out)) hb); clear HB; have HO155 := n0_; have HB := n1_; clear n0_ n1_; (try clear hb); (try clear hb2); (try clear hk); (try clear hi); (try clear ho0)) | (go_at_call 12; (with_reducible refine (orthoepyref06_Split.calls k a0 t156 _ A13.out).mono ?_); rintro e w33 ⟨v157, rfl, ho0, hb⟩; have n0_ := Aside0.mk (Kd.R_elder' (by (with_reducible repeat (first | apply Kd.R_alloc | apply Kd.R_drewN | apply Kd.R_drew)); exact HO155.out) (Kd.R_base ho0) hb); have n1_ := Aside0.mk (Kd.R_lower (Kd.R_new' ho0 (Kd.R_lt (by (with_reducible repeat (first | apply Kd.R_alloc | apply Kd.R_drewN | apply Kd.R_drew)); exact HO155.out))) (below_size (by repeat (first | (with_reducible first | exact HB.out | apply below_alloc | apply pw_below_drewN | apply below_drew1) | exact HB.out)))); have n2_ := Aside0.mk (below_step (by repeat (first | (with_reducible first | exact HB.out | apply below_alloc | apply pw_below_drewN | apply below_drew1) | exact HB.out)) hb); clear HO155; clear HB; have HO155 := n0_; have HO158 := n1_; have HB := n2_; clear n0_ n1_ n2_; (try clear hb); (try clear hb2); (try clear hk); (try clear hi); (try clear ho0); obtain ⟨Ao34, co34, eo34⟩ := Kd.R_slice HO155.out; subst eo34; obtain ⟨Ao35, co35, eo35⟩ := Kd.R_slice HO158.out; subst eo35) | (go_at_call 10; (with_reducible refine (orthoepyref07_Same.calls k _ _ t153 _ _ t156 false _ ?side1 ?side2 ?side3 ?side4 A14.out).mono ?_); (case side1 => repeat (first | exact (Kd.R_reads' HO155.out).2.2 | (with_reducible refine Kd.C_alloc ?_ _) | (with_reducible refine Kd.C_drewN ?_ _) | (with_reducible refine Kd.C_drew ?_))); (case side2 => exact (Kd.R_reads' HO155.out).2.1); (case side3 => repeat (first | exact (Kd.R_reads' HO158.out).2.2 | (with_reducible refine Kd.C_alloc ?_ _) | (with_reducible refine Kd.C_drewN ?_ _) | (with_reducible refine Kd.C_drew ?_))); (case side4 => exact (Kd.R_reads' HO158.out).2.1); rintro e w' ⟨rfl, ⟨nd, rfl⟩⟩))
        go_ret
        exact ⟨by first | rfl | (simp [errW_none, errW_some] <;> rfl) | (simp [*, errW_none, errW_some] <;> rfl), by repeat (first | (with_reducible first | exact HB.out | apply below_alloc | apply pw_below_drewN | apply below_drew1) | exact HB.out)⟩
    · rw [if_neg c11] at H
      have c11b0 : (t151 == t152) = false := beq_eq_false_iff_ne.mpr c11
      have c11b1 : (t151 != t152) = true := bne_iff_ne.mpr c11
      obtain rfl := Option.some.inj H
      go_enter Try.func3, Try.ntmps3
      go_wp2_with (first | ((with_reducible refine gate_callee (f := 6) rfl ?_); refine goesL_ (some 14) rfl rfl Try.func6 (by kernel_rfl) rfl #[.int .i32 a1, .int .i32 a2] rfl (by (try simp only [List.map_toArray, List.map_cons, List.map_nil]); first | done | rfl | (simp only [List.length_drop, List.length_take]; rfl)) ?_; (with_reducible refine (hangul_Join.calls k a1 a2 t145 t146 _ A4.out).mono ?_); rintro e w' ⟨rfl, ⟨nd, rfl⟩⟩; refine ⟨_, rfl, ?_⟩) | ((with_reducible refine gate_callee (f := 7) rfl ?_); refine goesL_ (some 20) rfl rfl Try.func7 (by kernel_rfl) rfl #[.int .i32 a1, .int .i32 a2] rfl (by (try simp only [List.map_toArray, List.map_cons, List.map_nil]); first | done | rfl | (simp only [List.length_drop, List.length_take]; rfl)) ?_; (with_reducible refine (orthoepyref06_Join.calls k a1 a2 t147 t148 _ A5.out).mono ?_); rintro e w' ⟨rfl, ⟨nd, rfl⟩⟩; refine ⟨_, rfl, ?_⟩) | ((with_reducible refine gate_callee (f := 8) rfl ?_); refine goesL_ (some 24) rfl rfl Try.func8 (by kernel_rfl) rfl #[.int .i32 a0] rfl (by (try simp only [List.map_toArray, List.map_cons, List.map_nil]); first | done | rfl | (simp only [List.length_drop, List.length_take]; rfl)) ?_; (with_reducible refine (hangul_Kind.calls k a0 t149 _ A6.out).mono ?_); rintro e w' ⟨rfl, ⟨nd, rfl⟩⟩; refine ⟨_, rfl, ?_⟩) | ((with_reducible refine gate_callee (f := 9) rfl ?_); refine goesL_ (some 26) rfl rfl Try.func9 (by kernel_rfl) rfl #[.int .i32 a0] rfl (by (try simp only [List.map_toArray, List.map_cons, List.map_nil]); first | done | rfl | (simp only [List.length_drop, List.length_take]; rfl)) ?_; (with_reducible refine (orthoepyref06_Kind.calls k a0 t150 _ A7.out).mono ?_); rintro e w' ⟨rfl, ⟨nd, rfl⟩⟩; refine ⟨_, rfl, ?_⟩) | (go_at_call 8; (with_reducible refine (hangul_Kind.calls k a1 t151 _ A9.out).mono ?_); rintro e w' ⟨rfl, ⟨nd, rfl⟩⟩) | (go_at_call 9; (with_reducible refine (orthoepyref06_Kind.calls k a1 t152 _ A10.out).mono ?_); rintro e w' ⟨rfl, ⟨nd, rfl⟩⟩))
      go_ret
      exact ⟨by first | rfl | (simp [errW_none, errW_some] <;> rfl) | (simp [*, errW_none, errW_some] <;> rfl), by repeat (first | (with_reducible first | exact HB.out | apply below_alloc | apply pw_below_drewN | apply below_drew1) | exact HB.out)⟩
  · rw [if_neg c8] at H
    have c8b0 : (t149 == t150) = false := beq_eq_false_iff_ne.mpr c8
    have c8b1 : (t149 != t150) = true := bne_iff_ne.mpr c8
    obtain rfl := Option.some.inj H
    go_enter Try.func3, Try.ntmps3
    go_wp2_with (first | ((with_reducible refine gate_callee (f := 6) rfl ?_); refine goesL_ (some 14) rfl rfl Try.func6 (by kernel_rfl) rfl #[.int .i32 a1, .int .i32 a2] rfl (by (try simp only [List.map_toArray, List.map_cons, List.map_nil]); first | done | rfl | (simp only [List.length_drop, List.length_take]; rfl)) ?_; (with_reducible refine (hangul_Join.calls k a1 a2 t145 t146 _ A4.out).mono ?_); rintro e w' ⟨rfl, ⟨nd, rfl⟩⟩; refine ⟨_, rfl, ?_⟩) | ((with_reducible refine gate_callee (f := 7) rfl ?_); refine goesL_ (some 20) rfl rfl Try.func7 (by kernel_rfl) rfl #[.int .i32 a1, .int .i32 a2] rfl (by (try simp only [List.map_toArray, List.map_cons, List.map_nil]); first | done | rfl | (simp only [List.length_drop, List.length_take]; rfl)) ?_; (with_reducible refine (orthoepyref06_Join.calls k a1 a2 t147 t148 _ A5.out).mono ?_); rintro e w' ⟨rfl, ⟨nd, rfl⟩⟩; refine ⟨_, rfl, ?_⟩) | ((with_reducible refine gate_callee (f := 8) rfl ?_); refine goesL_ (some 24) rfl rfl Try.func8 (by kernel_rfl) rfl #[.int .i32 a0] rfl (by (try simp only [List.map_toArray, List.map_cons, List.map_nil]); first | done | rfl | (simp only [List.length_drop, List.length_take]; rfl)) ?_; (with_reducible refine (hangul_Kind.calls k a0 t149 _ A6.out).mono ?_); rintro e w' ⟨rfl, ⟨nd, rfl⟩⟩; refine ⟨_, rfl, ?_⟩) | ((with_reducible refine gate_callee (f := 9) rfl ?_); refine goesL_ (some 26) rfl rfl Try.func9 (by kernel_rfl) rfl #[.int .i32 a0] rfl (by (try simp only [List.map_toArray, List.map_cons, List.map_nil]); first | done | rfl | (simp only [List.length_drop, List.length_take]; rfl)) ?_; (with_reducible refine (orthoepyref06_Kind.calls k a0 t150 _ A7.out).mono ?_); rintro e w' ⟨rfl, ⟨nd, rfl⟩⟩; refine ⟨_, rfl, ?_⟩))
    go_ret
    exact ⟨by first | rfl | (simp [errW_none, errW_some] <;> rfl) | (simp [*, errW_none, errW_some] <;> rfl), by repeat (first | (with_reducible first | exact HB.out | apply below_alloc | apply pw_below_drewN | apply below_drew1) | exact HB.out)⟩

/-- THE ONE PURE STATEMENT of orthoepylaw06_HangulAll: yours. -/
def orthoepylaw06_HangulAll.Pure : Prop := ∀ (a0 : Int) (a1 : Int) (a2 : Int), (Lit.int .i32 a0).wf = true → (Lit.int .i32 a1).wf = true → (Lit.int .i32 a2).wf = true → ∃ k, orthoepylaw06_HangulAll.f k a0 a1 a2 = some true
theorem orthoepylaw06_HangulAll.walk (P : orthoepylaw06_HangulAll.Pure) (a0 : Int) (a1 : Int) (a2 : Int) (w : World) (w0 : (Lit.int .i32 a0).wf = true) (w1 : (Lit.int .i32 a1).wf = true) (w2 : (Lit.int .i32 a2).wf = true) :
    Calls Try.prog 3 #[.int .i32 a0, .int .i32 a1, .int .i32 a2] w fun e w' => e = .returned (.bool true) ∧ Below w.heap.size w w' := by
  obtain ⟨k, h⟩ := P a0 a1 a2 w0 w1 w2
  refine (orthoepylaw06_HangulAll.calls k a0 a1 a2 true w h).mono ?_
  rintro e w' ⟨rfl, hd⟩
  exact ⟨rfl, hd⟩

end Go.Proofs.Ytabgbcgllcopeaa.PHangulAll
