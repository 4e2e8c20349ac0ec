-- PRINTED BY print.sh 35421559b90ae4d0a3588c463048766b98c2df88dd9212a6774a882060cdf62d: not written by this session
import Derived.Test.YtabgbcgllcopeaaPHangulCountsx0
import Derived.Test.YtabgbcgllcopeaaPHangulCountsx1
namespace Go.Proofs.Ytabgbcgllcopeaa.PHangulCounts
open Go.RowKit Go.Proofs.YtabgbcgllcopeaaW.PrintWords Go.Proofs.YtabgbcgllcopeaaW.PrintLast Go.Proofs.YtabgbcgllcopeaaW.PrintMore
attribute [local go_sem] max2_int min2_int max_two min_two max_three min_three max_four min_four   -- for this text's walks alone
set_option linter.unusedVariables false
set_option linter.unusedSimpArgs false

/-! ### orthoepylaw06_HangulCounts: function 5 -/
def orthoepylaw06_HangulCounts.j0 : Nat → Int → Int → Bool → Option (Bool)
  | 0, _, _, _ => none
  | k + 1, x9, x10, x47 => if x47 = true then (some false) else ((hangul_Join.f k x10 (wrap32 (wrap64 (4519 + x9)))).bind fun bt138 => (if x9 = 0 then (if bt138.2 = true then (some false) else (if bt138.1 = 0 then ((orthoepylaw06_awake.f k).bind fun t140 => (some t140)) else (some false))) else (if bt138.2 = true then (if bt138.1 = (wrap32 (x10 + (wrap32 (x9)))) then ((hangul_Kind.f k bt138.1).bind fun t141 => (if t141 = 5 then ((orthoepylaw06_awake.f k).bind fun t142 => (some t142)) else (some false))) else (some false)) else (some false))))
def orthoepylaw06_HangulCounts.f (k : Nat) (a0 : Int) (a1 : Int) (a2 : Int) : Option (Bool) := (orthoepylaw00_Place.f a0 19).bind fun t132 => ((orthoepylaw00_Place.f a1 21).bind fun t133 => ((orthoepylaw00_Place.f a2 28).bind fun t134 => ((hangul_Join.f k (wrap32 (wrap64 (4352 + t132))) (wrap32 (wrap64 (4449 + t133)))).bind fun bt135 => (if bt135.2 = true then (if bt135.1 = (wrap32 (wrap64 (44032 + (wrap64 ((wrap64 ((wrap64 (t132 * 21)) + t133)) * 28))))) then ((hangul_Kind.f k bt135.1).bind fun t137 => (orthoepylaw06_HangulCounts.j0 k t134 bt135.1 (t137 != 4))) else (orthoepylaw06_HangulCounts.j0 k t134 bt135.1 true)) else (orthoepylaw06_HangulCounts.j0 k t134 bt135.1 true)))))
theorem orthoepylaw06_HangulCounts.mono_l : ∀ k, (∀ y0 y1 y2, LeO (orthoepylaw06_HangulCounts.j0 k y0 y1 y2) (orthoepylaw06_HangulCounts.j0 (k + 1) y0 y1 y2))
  | 0 => fun _ _ _ r h => by simp [orthoepylaw06_HangulCounts.j0] at h
  | k + 1 => by
    have ih0 := orthoepylaw06_HangulCounts.mono_l k
    · intro y0 y1 y2
      unfold orthoepylaw06_HangulCounts.j0
      repeat' first
      | (with_reducible exact ih0 _ _ _)
      | (with_reducible exact hangul_Join.mono _ _ _)
      | (with_reducible exact hangul_Kind.mono _ _)
      | (with_reducible exact orthoepylaw06_awake.mono _)
      | (with_reducible exact LeO.refl _)
      | (with_reducible exact LeO.none _)
      | (with_reducible refine LeO.ite ?_ ?_)
      | (with_reducible refine LeO.bind ?_ (fun _ => ?_))
      | exact ih0 _ _ _
      | exact hangul_Join.mono _ _ _
      | exact hangul_Kind.mono _ _
      | exact orthoepylaw06_awake.mono _
      | exact LeO.none _
      | refine LeO.ite ?_ ?_
      | refine LeO.bind ?_ (fun _ => ?_)
theorem orthoepylaw06_HangulCounts.mono : ∀ a0 a1 a2 k, LeO (orthoepylaw06_HangulCounts.f k a0 a1 a2) (orthoepylaw06_HangulCounts.f (k + 1) a0 a1 a2) := by
  intro a0 a1 a2 k
  have ih0 := orthoepylaw06_HangulCounts.mono_l k
  unfold orthoepylaw06_HangulCounts.f
  repeat' first
      | (with_reducible exact ih0 _ _ _)
      | (with_reducible exact hangul_Join.mono _ _ _)
      | (with_reducible exact hangul_Kind.mono _ _)
      | (with_reducible exact orthoepylaw06_awake.mono _)
      | (with_reducible exact LeO.refl _)
      | (with_reducible exact LeO.none _)
      | (with_reducible refine LeO.ite ?_ ?_)
      | (with_reducible refine LeO.bind ?_ (fun _ => ?_))
      | exact ih0 _ _ _
      | exact hangul_Join.mono _ _ _
      | exact hangul_Kind.mono _ _
      | exact orthoepylaw06_awake.mono _
      | exact LeO.none _
      | refine LeO.ite ?_ ?_
      | refine LeO.bind ?_ (fun _ => ?_)
set_option maxHeartbeats 8000000 in
set_option maxRecDepth 100000 in
theorem orthoepylaw06_HangulCounts.calls (k : Nat) (a0 : Int) (a1 : Int) (a2 : Int) (r : Bool) (w : World) (h : orthoepylaw06_HangulCounts.f k a0 a1 a2 = some r) :
    Calls Try.prog 5 #[.int .i64 a0, .int .i64 a1, .int .i64 a2] w fun e w' => e = .returned (.bool r) ∧ Below w.heap.size w w' := by
  have HB := Aside0.mk (Below.refl w.heap.size w)
  have H : ((orthoepylaw00_Place.f a0 19).bind fun t132 => ((orthoepylaw00_Place.f a1 21).bind fun t133 => ((orthoepylaw00_Place.f a2 28).bind fun t134 => ((hangul_Join.f k (wrap32 (wrap64 (4352 + t132))) (wrap32 (wrap64 (4449 + t133)))).bind fun bt135 => (if bt135.2 = true then (if bt135.1 = (wrap32 (wrap64 (44032 + (wrap64 ((wrap64 ((wrap64 (t132 * 21)) + t133)) * 28))))) then ((hangul_Kind.f k bt135.1).bind fun t137 => (orthoepylaw06_HangulCounts.j0 k t134 bt135.1 (t137 != 4))) else (orthoepylaw06_HangulCounts.j0 k t134 bt135.1 true)) else (orthoepylaw06_HangulCounts.j0 k t134 bt135.1 true)))))) = some r := h
  clear h
  replace H := Option.bind_eq_some_iff.mp H
  obtain ⟨t132, A40, H⟩ := H
  replace H : ((orthoepylaw00_Place.f a1 21).bind fun t133 => ((orthoepylaw00_Place.f a2 28).bind fun t134 => ((hangul_Join.f k (wrap32 (wrap64 (4352 + t132))) (wrap32 (wrap64 (4449 + t133)))).bind fun bt135 => (if bt135.2 = true then (if bt135.1 = (wrap32 (wrap64 (44032 + (wrap64 ((wrap64 ((wrap64 (t132 * 21)) + t133)) * 28))))) then ((hangul_Kind.f k bt135.1).bind fun t137 => (orthoepylaw06_HangulCounts.j0 k t134 bt135.1 (t137 != 4))) else (orthoepylaw06_HangulCounts.j0 k t134 bt135.1 true)) else (orthoepylaw06_HangulCounts.j0 k t134 bt135.1 true))))) = some r := H
  have A4 := Aside0.mk A40
  clear A40
  replace H := Option.bind_eq_some_iff.mp H
  obtain ⟨t133, A50, H⟩ := H
  replace H : ((orthoepylaw00_Place.f a2 28).bind fun t134 => ((hangul_Join.f k (wrap32 (wrap64 (4352 + t132))) (wrap32 (wrap64 (4449 + t133)))).bind fun bt135 => (if bt135.2 = true then (if bt135.1 = (wrap32 (wrap64 (44032 + (wrap64 ((wrap64 ((wrap64 (t132 * 21)) + t133)) * 28))))) then ((hangul_Kind.f k bt135.1).bind fun t137 => (orthoepylaw06_HangulCounts.j0 k t134 bt135.1 (t137 != 4))) else (orthoepylaw06_HangulCounts.j0 k t134 bt135.1 true)) else (orthoepylaw06_HangulCounts.j0 k t134 bt135.1 true)))) = some r := H
  have A5 := Aside0.mk A50
  clear A50
  replace H := Option.bind_eq_some_iff.mp H
  obtain ⟨t134, A60, H⟩ := H
  replace H : ((hangul_Join.f k (wrap32 (wrap64 (4352 + t132))) (wrap32 (wrap64 (4449 + t133)))).bind fun bt135 => (if bt135.2 = true then (if bt135.1 = (wrap32 (wrap64 (44032 + (wrap64 ((wrap64 ((wrap64 (t132 * 21)) + t133)) * 28))))) then ((hangul_Kind.f k bt135.1).bind fun t137 => (orthoepylaw06_HangulCounts.j0 k t134 bt135.1 (t137 != 4))) else (orthoepylaw06_HangulCounts.j0 k t134 bt135.1 true)) else (orthoepylaw06_HangulCounts.j0 k t134 bt135.1 true))) = some r := H
  have A6 := Aside0.mk A60
  clear A60
  replace H := Option.bind_eq_some_iff.mp H
  obtain ⟨⟨t135, t136⟩, A70, H⟩ := H
  replace H : (if t136 = true then (if t135 = (wrap32 (wrap64 (44032 + (wrap64 ((wrap64 ((wrap64 (t132 * 21)) + t133)) * 28))))) then ((hangul_Kind.f k t135).bind fun t137 => (orthoepylaw06_HangulCounts.j0 k t134 t135 (t137 != 4))) else (orthoepylaw06_HangulCounts.j0 k t134 t135 true)) else (orthoepylaw06_HangulCounts.j0 k t134 t135 true)) = some r := H
  have A7 := Aside0.mk A70
  clear A70
  have HC8 := Aside0.mk H
  clear H
  go_enter Try.func5, Try.ntmps5
  go_upto_region 3 with (first | ((with_reducible refine gate_callee (f := 14) rfl ?_); refine goesL_ (some 15) rfl rfl Try.func14 (by kernel_rfl) rfl #[.int .i64 a0, .int .i64 19] rfl (by (try simp only [List.map_toArray, List.map_cons, List.map_nil]); first | done | rfl | (simp only [List.length_drop, List.length_take]; rfl)) ?_; (with_reducible refine (orthoepylaw00_Place.calls a0 19 t132 _ A4.out).mono ?_); rintro e w' ⟨rfl, ⟨nd, rfl⟩⟩; refine ⟨_, rfl, ?_⟩) | ((with_reducible refine gate_callee (f := 14) rfl ?_); refine goesL_ (some 17) rfl rfl Try.func14 (by kernel_rfl) rfl #[.int .i64 a1, .int .i64 21] rfl (by (try simp only [List.map_toArray, List.map_cons, List.map_nil]); first | done | rfl | (simp only [List.length_drop, List.length_take]; rfl)) ?_; (with_reducible refine (orthoepylaw00_Place.calls a1 21 t133 _ A5.out).mono ?_); rintro e w' ⟨rfl, ⟨nd, rfl⟩⟩; refine ⟨_, rfl, ?_⟩) | ((with_reducible refine gate_callee (f := 14) rfl ?_); refine goesL_ (some 19) rfl rfl Try.func14 (by kernel_rfl) rfl #[.int .i64 a2, .int .i64 28] rfl (by (try simp only [List.map_toArray, List.map_cons, List.map_nil]); first | done | rfl | (simp only [List.length_drop, List.length_take]; rfl)) ?_; (with_reducible refine (orthoepylaw00_Place.calls a2 28 t134 _ A6.out).mono ?_); rintro e w' ⟨rfl, ⟨nd, rfl⟩⟩; refine ⟨_, rfl, ?_⟩) | ((with_reducible refine gate_callee (f := 6) rfl ?_); refine goesL_ (some 27) rfl rfl Try.func6 (by kernel_rfl) rfl #[.int .i32 (wrap32 (wrap64 (4352 + t132))), .int .i32 (wrap32 (wrap64 (4449 + t133)))] rfl (by (try simp only [List.map_toArray, List.map_cons, List.map_nil]); first | done | rfl | (simp only [List.length_drop, List.length_take]; rfl)) ?_; (with_reducible refine (hangul_Join.calls k (wrap32 (wrap64 (4352 + t132))) (wrap32 (wrap64 (4449 + t133))) t135 t136 _ A7.out).mono ?_); rintro e w' ⟨rfl, ⟨nd, rfl⟩⟩; refine ⟨_, rfl, ?_⟩))
  (try simp only [Act.put, List.setIfInBounds_toArray, List.set_cons_zero, List.set_cons_succ])
  go_cut [47] (fun v47 wc => ∃ (kq : Nat) (x47_7 : Bool), v47 = .bool x47_7 ∧ Aside0 (orthoepylaw06_HangulCounts.j0 kq t134 t135 x47_7 = some r) ∧ Aside0 (kq ≤ k) ∧ Aside0 (Below w.heap.size w wc))
  case first =>
    have H := HC8.out
    clear HC8
    by_cases c9 : t136 = true
    · subst c9
      have H1 : (if t135 = (wrap32 (wrap64 (44032 + (wrap64 ((wrap64 ((wrap64 (t132 * 21)) + t133)) * 28))))) then ((hangul_Kind.f k t135).bind fun t137 => (orthoepylaw06_HangulCounts.j0 k t134 t135 (t137 != 4))) else (orthoepylaw06_HangulCounts.j0 k t134 t135 true)) = some r := by rw [if_pos rfl] at H; exact H
      clear H
      have H := H1
      clear H1
      by_cases c10 : t135 = (wrap32 (wrap64 (44032 + (wrap64 ((wrap64 ((wrap64 (t132 * 21)) + t133)) * 28)))))
      · rw [if_pos c10] at H
        have c10b0 : (t135 == (wrap32 (wrap64 (44032 + (wrap64 ((wrap64 ((wrap64 (t132 * 21)) + t133)) * 28)))))) = true := beq_iff_eq.mpr c10
        have c10b1 : (t135 != (wrap32 (wrap64 (44032 + (wrap64 ((wrap64 ((wrap64 (t132 * 21)) + t133)) * 28)))))) = false := bne_eq_false_iff_eq.mpr c10
        clear c10
        (first | rw [c10b0] | (simp only [i64_w, i32_w]; rw [c10b0]) | skip)
        replace H := Option.bind_eq_some_iff.mp H
        obtain ⟨t137, A110, H⟩ := H
        replace H : (orthoepylaw06_HangulCounts.j0 k t134 t135 (t137 != 4)) = some r := H
        have A11 := Aside0.mk A110
        clear A110
        have H' := Aside0.mk H
        clear H
        go_wp2_with (first | (go_at_call 8; (with_reducible refine (hangul_Kind.calls k t135 t137 _ A11.out).mono ?_); rintro e w' ⟨rfl, ⟨nd, rfl⟩⟩))
        go_meet
        case rel => exact ⟨_, ((t137 != 4)), (by first | rfl | (simp; done) | (simp [*]; done)), H', ⟨by first | omega | exact Nat.le_refl _⟩, ⟨by repeat (first | (with_reducible first | exact HB.out | apply below_alloc | apply pw_below_drewN | apply below_drew1) | exact HB.out)⟩⟩
      · rw [if_neg c10] at H
        have c10b0 : (t135 == (wrap32 (wrap64 (44032 + (wrap64 ((wrap64 ((wrap64 (t132 * 21)) + t133)) * 28)))))) = false := beq_eq_false_iff_ne.mpr c10
        have c10b1 : (t135 != (wrap32 (wrap64 (44032 + (wrap64 ((wrap64 ((wrap64 (t132 * 21)) + t133)) * 28)))))) = true := bne_iff_ne.mpr c10
        (first | rw [c10b0] | (simp only [i64_w, i32_w]; rw [c10b0]) | skip)
        have H' := Aside0.mk H
        clear H
        go_wp2
        go_meet
        case rel => exact ⟨_, (true), (by first | rfl | (simp; done) | (simp [*]; done)), H', ⟨by first | omega | exact Nat.le_refl _⟩, ⟨by repeat (first | (with_reducible first | exact HB.out | apply below_alloc | apply pw_below_drewN | apply below_drew1) | exact HB.out)⟩⟩
    · replace c9 := Bool.eq_false_iff.mpr c9
      subst c9
      have H1 : (orthoepylaw06_HangulCounts.j0 k t134 t135 true) = some r := by rw [if_neg (show ¬ (false = true) by decide)] at H; exact H
      clear H
      have H := H1
      clear H1
      have H' := Aside0.mk H
      clear H
      go_wp2
      go_meet
      case rel => exact ⟨_, (true), (by first | rfl | (simp; done) | (simp [*]; done)), H', ⟨by first | omega | exact Nat.le_refl _⟩, ⟨by repeat (first | (with_reducible first | exact HB.out | apply below_alloc | apply pw_below_drewN | apply below_drew1) | exact HB.out)⟩⟩
  case rest =>
    clear HC8
    try clear c1
    try clear p2
    try clear p3
    try clear c5
    try clear c6
    try clear p6
    try clear c9
    try clear c10
    try clear c10b0
    try clear c10b1
    obtain ⟨kq, x47_7, rfl, HA, HJ7, HB⟩ := hcut
    cases kq with
    | zero => exact absurd HA.out (by simp [orthoepylaw06_HangulCounts.j0])
    | succ kj7 =>
      have H := HA.out
      clear HA
      simp only [orthoepylaw06_HangulCounts.j0] at H
      by_cases c12 : x47_7 = true
      · subst c12
        have H1 : (some false) = some r := by rw [if_pos rfl] at H; exact H
        clear H
        have H := H1
        clear H1
        obtain rfl := Option.some.inj H
        go_wp2
        go_ret
        exact ⟨by first | rfl | (simp [errW_none, errW_some] <;> rfl) | (simp [*, errW_none, errW_some] <;> rfl), by repeat (first | (with_reducible first | exact HB.out | apply below_alloc | apply pw_below_drewN | apply below_drew1) | exact HB.out)⟩
      · replace c12 := Bool.eq_false_iff.mpr c12
        subst c12
        have H1 : ((hangul_Join.f kj7 t135 (wrap32 (wrap64 (4519 + t134)))).bind fun bt138 => (if t134 = 0 then (if bt138.2 = true then (some false) else (if bt138.1 = 0 then ((orthoepylaw06_awake.f kj7).bind fun t140 => (some t140)) else (some false))) else (if bt138.2 = true then (if bt138.1 = (wrap32 (t135 + (wrap32 (t134)))) then ((hangul_Kind.f kj7 bt138.1).bind fun t141 => (if t141 = 5 then ((orthoepylaw06_awake.f kj7).bind fun t142 => (some t142)) else (some false))) else (some false)) else (some false)))) = some r := by rw [if_neg (show ¬ (false = true) by decide)] at H; exact H
        clear H
        have H := H1
        clear H1
        replace H := Option.bind_eq_some_iff.mp H
        obtain ⟨⟨t138, t139⟩, A130, H⟩ := H
        replace H : (if t134 = 0 then (if t139 = true then (some false) else (if t138 = 0 then ((orthoepylaw06_awake.f kj7).bind fun t140 => (some t140)) else (some false))) else (if t139 = true then (if t138 = (wrap32 (t135 + (wrap32 (t134)))) then ((hangul_Kind.f kj7 t138).bind fun t141 => (if t141 = 5 then ((orthoepylaw06_awake.f kj7).bind fun t142 => (some t142)) else (some false))) else (some false)) else (some false))) = some r := H
        have A13 := Aside0.mk A130
        clear A130
        by_cases c14 : t134 = 0
        · rw [if_pos c14] at H
          have c14b0 : (t134 == 0) = true := beq_iff_eq.mpr c14
          have c14b1 : (t134 != 0) = false := bne_eq_false_iff_eq.mpr c14
          clear c14
          by_cases c15 : t139 = true
          · subst c15
            have H1 : (some false) = some r := by rw [if_pos rfl] at H; exact H
            clear H
            have H := H1
            clear H1
            obtain rfl := Option.some.inj H
            go_wp2_with (first | ((with_reducible refine gate_callee (f := 6) rfl ?_); refine goesL_ (some 53) rfl rfl Try.func6 (by kernel_rfl) rfl #[.int .i32 t135, .int .i32 (wrap32 (wrap64 (4519 + t134)))] rfl (by (try simp only [List.map_toArray, List.map_cons, List.map_nil]); first | done | rfl | (simp only [List.length_drop, List.length_take]; rfl)) ?_; (with_reducible refine (hangul_Join.calls kj7 t135 (wrap32 (wrap64 (4519 + t134))) t138 true _ A13.out).mono ?_); rintro e w' ⟨rfl, ⟨nd, rfl⟩⟩; refine ⟨_, rfl, ?_⟩))
            go_ret
            exact ⟨by first | rfl | (simp [errW_none, errW_some] <;> rfl) | (simp [*, errW_none, errW_some] <;> rfl), by repeat (first | (with_reducible first | exact HB.out | apply below_alloc | apply pw_below_drewN | apply below_drew1) | exact HB.out)⟩
          · replace c15 := Bool.eq_false_iff.mpr c15
            subst c15
            have H1 : (if t138 = 0 then ((orthoepylaw06_awake.f kj7).bind fun t140 => (some t140)) else (some false)) = some r := by rw [if_neg (show ¬ (false = true) by decide)] at H; exact H
            clear H
            have H := H1
            clear H1
            by_cases c16 : t138 = 0
            · rw [if_pos c16] at H
              have c16b0 : (t138 == 0) = true := beq_iff_eq.mpr c16
              have c16b1 : (t138 != 0) = false := bne_eq_false_iff_eq.mpr c16
              clear c16
              replace H := Option.bind_eq_some_iff.mp H
              obtain ⟨t140, A170, H⟩ := H
              replace H : (some t140) = some r := H
              have A17 := Aside0.mk A170
              clear A170
              obtain rfl := Option.some.inj H
              go_wp2_with (first | ((with_reducible refine gate_callee (f := 6) rfl ?_); refine goesL_ (some 53) rfl rfl Try.func6 (by kernel_rfl) rfl #[.int .i32 t135, .int .i32 (wrap32 (wrap64 (4519 + t134)))] rfl (by (try simp only [List.map_toArray, List.map_cons, List.map_nil]); first | done | rfl | (simp only [List.length_drop, List.length_take]; rfl)) ?_; (with_reducible refine (hangul_Join.calls kj7 t135 (wrap32 (wrap64 (4519 + t134))) t138 false _ A13.out).mono ?_); rintro e w' ⟨rfl, ⟨nd, rfl⟩⟩; refine ⟨_, rfl, ?_⟩) | (go_at_call 13; (with_reducible refine (orthoepylaw06_awake.calls kj7  t140 _ A17.out).mono ?_); rintro e w18 ⟨rfl, hb⟩; have n0_ := Aside0.mk (below_step (by repeat (first | (with_reducible first | exact HB.out | apply below_alloc | apply pw_below_drewN | apply below_drew1) | exact HB.out)) hb); clear HB; have HB := n0_; clear n0_; (try clear hb); (try clear hb2); (try clear hk); (try clear hi)))
              go_ret
              exact ⟨by first | rfl | (simp [errW_none, errW_some] <;> rfl) | (simp [*, errW_none, errW_some] <;> rfl), by repeat (first | (with_reducible first | exact HB.out | apply below_alloc | apply pw_below_drewN | apply below_drew1) | exact HB.out)⟩
            · rw [if_neg c16] at H
              have c16b0 : (t138 == 0) = false := beq_eq_false_iff_ne.mpr c16
              have c16b1 : (t138 != 0) = true := bne_iff_ne.mpr c16
              obtain rfl := Option.some.inj H
              go_wp2_with (first | ((with_reducible refine gate_callee (f := 6) rfl ?_); refine goesL_ (some 53) rfl rfl Try.func6 (by kernel_rfl) rfl #[.int .i32 t135, .int .i32 (wrap32 (wrap64 (4519 + t134)))] rfl (by (try simp only [List.map_toArray, List.map_cons, List.map_nil]); first | done | rfl | (simp only [List.length_drop, List.length_take]; rfl)) ?_; (with_reducible refine (hangul_Join.calls kj7 t135 (wrap32 (wrap64 (4519 + t134))) t138 false _ A13.out).mono ?_); rintro e w' ⟨rfl, ⟨nd, rfl⟩⟩; refine ⟨_, rfl, ?_⟩))
              go_ret
              exact ⟨by first | rfl | (simp [errW_none, errW_some] <;> rfl) | (simp [*, errW_none, errW_some] <;> rfl), by repeat (first | (with_reducible first | exact HB.out | apply below_alloc | apply pw_below_drewN | apply below_drew1) | exact HB.out)⟩
        · rw [if_neg c14] at H
          have c14b0 : (t134 == 0) = false := beq_eq_false_iff_ne.mpr c14
          have c14b1 : (t134 != 0) = true := bne_iff_ne.mpr c14
          by_cases c19 : t139 = true
          · subst c19
            have H1 : (if t138 = (wrap32 (t135 + (wrap32 (t134)))) then ((hangul_Kind.f kj7 t138).bind fun t141 => (if t141 = 5 then ((orthoepylaw06_awake.f kj7).bind fun t142 => (some t142)) else (some false))) else (some false)) = some r := by rw [if_pos rfl] at H; exact H
            clear H
            have H := H1
            clear H1
            by_cases c20 : t138 = (wrap32 (t135 + (wrap32 (t134))))
            · rw [if_pos c20] at H
              have c20b0 : (t138 == (wrap32 (t135 + (wrap32 (t134))))) = true := beq_iff_eq.mpr c20
              have c20b1 : (t138 != (wrap32 (t135 + (wrap32 (t134))))) = false := bne_eq_false_iff_eq.mpr c20
              clear c20
              replace H := Option.bind_eq_some_iff.mp H
              obtain ⟨t141, A210, H⟩ := H
              replace H : (if t141 = 5 then ((orthoepylaw06_awake.f kj7).bind fun t142 => (some t142)) else (some false)) = some r := H
              have A21 := Aside0.mk A210
              clear A210
              by_cases c22 : t141 = 5
              · rw [if_pos c22] at H
                have c22b0 : (t141 == 5) = true := beq_iff_eq.mpr c22
                have c22b1 : (t141 != 5) = false := bne_eq_false_iff_eq.mpr c22
                clear c22
                replace H := Option.bind_eq_some_iff.mp H
                obtain ⟨t142, A230, H⟩ := H
                replace H : (some t142) = some r := H
                have A23 := Aside0.mk A230
                clear A230
                obtain rfl := Option.some.inj H
                go_wp2_with (first | ((with_reducible refine gate_callee (f := 6) rfl ?_); refine goesL_ (some 53) rfl rfl Try.func6 (by kernel_rfl) rfl #[.int .i32 t135, .int .i32 (wrap32 (wrap64 (4519 + t134)))] rfl (by (try simp only [List.map_toArray, List.map_cons, List.map_nil]); first | done | rfl | (simp only [List.length_drop, List.length_take]; rfl)) ?_; (with_reducible refine (hangul_Join.calls kj7 t135 (wrap32 (wrap64 (4519 + t134))) t138 true _ A13.out).mono ?_); rintro e w' ⟨rfl, ⟨nd, rfl⟩⟩; refine ⟨_, rfl, ?_⟩) | (go_at_call 8; (with_reducible refine (hangul_Kind.calls kj7 t138 t141 _ A21.out).mono ?_); rintro e w' ⟨rfl, ⟨nd, rfl⟩⟩) | (go_at_call 13; (with_reducible refine (orthoepylaw06_awake.calls kj7  t142 _ A23.out).mono ?_); rintro e w24 ⟨rfl, hb⟩; have n0_ := Aside0.mk (below_step (by repeat (first | (with_reducible first | exact HB.out | apply below_alloc | apply pw_below_drewN | apply below_drew1) | exact HB.out)) hb); clear HB; have HB := n0_; clear n0_; (try clear hb); (try clear hb2); (try clear hk); (try clear hi)))
                go_ret
                exact ⟨by first | rfl | (simp [errW_none, errW_some] <;> rfl) | (simp [*, errW_none, errW_some] <;> rfl), by repeat (first | (with_reducible first | exact HB.out | apply below_alloc | apply pw_below_drewN | apply below_drew1) | exact HB.out)⟩
              · rw [if_neg c22] at H
                have c22b0 : (t141 == 5) = false := beq_eq_false_iff_ne.mpr c22
                have c22b1 : (t141 != 5) = true := bne_iff_ne.mpr c22
                obtain rfl := Option.some.inj H
                go_wp2_with (first | ((with_reducible refine gate_callee (f := 6) rfl ?_); refine goesL_ (some 53) rfl rfl Try.func6 (by kernel_rfl) rfl #[.int .i32 t135, .int .i32 (wrap32 (wrap64 (4519 + t134)))] rfl (by (try simp only [List.map_toArray, List.map_cons, List.map_nil]); first | done | rfl | (simp only [List.length_drop, List.length_take]; rfl)) ?_; (with_reducible refine (hangul_Join.calls kj7 t135 (wrap32 (wrap64 (4519 + t134))) t138 true _ A13.out).mono ?_); rintro e w' ⟨rfl, ⟨nd, rfl⟩⟩; refine ⟨_, rfl, ?_⟩) | (go_at_call 8; (with_reducible refine (hangul_Kind.calls kj7 t138 t141 _ A21.out).mono ?_); rintro e w' ⟨rfl, ⟨nd, rfl⟩⟩))
                go_ret
                exact ⟨by first | rfl | (simp [errW_none, errW_some] <;> rfl) | (simp [*, errW_none, errW_some] <;> rfl), by repeat (first | (with_reducible first | exact HB.out | apply below_alloc | apply pw_below_drewN | apply below_drew1) | exact HB.out)⟩
            · rw [if_neg c20] at H
              have c20b0 : (t138 == (wrap32 (t135 + (wrap32 (t134))))) = false := beq_eq_false_iff_ne.mpr c20
              have c20b1 : (t138 != (wrap32 (t135 + (wrap32 (t134))))) = true := bne_iff_ne.mpr c20
              obtain rfl := Option.some.inj H
              go_wp2_with (first | ((with_reducible refine gate_callee (f := 6) rfl ?_); refine goesL_ (some 53) rfl rfl Try.func6 (by kernel_rfl) rfl #[.int .i32 t135, .int .i32 (wrap32 (wrap64 (4519 + t134)))] rfl (by (try simp only [List.map_toArray, List.map_cons, List.map_nil]); first | done | rfl | (simp only [List.length_drop, List.length_take]; rfl)) ?_; (with_reducible refine (hangul_Join.calls kj7 t135 (wrap32 (wrap64 (4519 + t134))) t138 true _ A13.out).mono ?_); rintro e w' ⟨rfl, ⟨nd, rfl⟩⟩; refine ⟨_, rfl, ?_⟩))
              go_ret
              exact ⟨by first | rfl | (simp [errW_none, errW_some] <;> rfl) | (simp [*, errW_none, errW_some] <;> rfl), by repeat (first | (with_reducible first | exact HB.out | apply below_alloc | apply pw_below_drewN | apply below_drew1) | exact HB.out)⟩
          · replace c19 := Bool.eq_false_iff.mpr c19
            subst c19
            have H1 : (some false) = some r := by rw [if_neg (show ¬ (false = true) by decide)] at H; exact H
            clear H
            have H := H1
            clear H1
            obtain rfl := Option.some.inj H
            go_wp2_with (first | ((with_reducible refine gate_callee (f := 6) rfl ?_); refine goesL_ (some 53) rfl rfl Try.func6 (by kernel_rfl) rfl #[.int .i32 t135, .int .i32 (wrap32 (wrap64 (4519 + t134)))] rfl (by (try simp only [List.map_toArray, List.map_cons, List.map_nil]); first | done | rfl | (simp only [List.length_drop, List.length_take]; rfl)) ?_; (with_reducible refine (hangul_Join.calls kj7 t135 (wrap32 (wrap64 (4519 + t134))) t138 false _ A13.out).mono ?_); rintro e w' ⟨rfl, ⟨nd, rfl⟩⟩; refine ⟨_, rfl, ?_⟩))
            go_ret
            exact ⟨by first | rfl | (simp [errW_none, errW_some] <;> rfl) | (simp [*, errW_none, errW_some] <;> rfl), by repeat (first | (with_reducible first | exact HB.out | apply below_alloc | apply pw_below_drewN | apply below_drew1) | exact HB.out)⟩

/-- THE ONE PURE STATEMENT of orthoepylaw06_HangulCounts: yours. -/
def orthoepylaw06_HangulCounts.Pure : Prop := ∀ (a0 : Int) (a1 : Int) (a2 : Int), (Lit.int .i64 a0).wf = true → (Lit.int .i64 a1).wf = true → (Lit.int .i64 a2).wf = true → ∃ k, orthoepylaw06_HangulCounts.f k a0 a1 a2 = some true
theorem orthoepylaw06_HangulCounts.walk (P : orthoepylaw06_HangulCounts.Pure) (a0 : Int) (a1 : Int) (a2 : Int) (w : World) (w0 : (Lit.int .i64 a0).wf = true) (w1 : (Lit.int .i64 a1).wf = true) (w2 : (Lit.int .i64 a2).wf = true) :
    Calls Try.prog 5 #[.int .i64 a0, .int .i64 a1, .int .i64 a2] w fun e w' => e = .returned (.bool true) ∧ Below w.heap.size w w' := by
  obtain ⟨k, h⟩ := P a0 a1 a2 w0 w1 w2
  refine (orthoepylaw06_HangulCounts.calls k a0 a1 a2 true w h).mono ?_
  rintro e w' ⟨rfl, hd⟩
  exact ⟨rfl, hd⟩

end Go.Proofs.Ytabgbcgllcopeaa.PHangulCounts
