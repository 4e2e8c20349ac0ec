-- The machine's side of laws, written by a program of this session (wip/gen/pp.sh). Lean checks it.
import Derived.Test.YtajinnlaajhoeaaPTwox0
import Derived.Test.YtajinnlaajhoeaaPTwox1
namespace Go.Proofs.Ytajinnlaajhoeaa.PTwo
open Go.RowKit Go.Proofs.YtajinnlaajhoeaaW.PrintWords Go.Proofs.YtajinnlaajhoeaaW.PrintLast
set_option linter.unusedVariables false
set_option linter.unusedSimpArgs false

/-! ### orthoepylaw21_OrderThree: function 8 -/
def orthoepylaw21_OrderThree.j0 : Nat → ByteArray → ByteArray → Bool → Option (Bool)
  | 0, _, _, _ => none
  | k + 1, x0, x1, x27 => if x27 = true then (some false) else ((order_Less.f x0 x1).bind fun t292 => ((order_Less.f x1 x0).bind fun t293 => (if ((t292 != t293) == (x0.toList != x1.toList)) = true then ((order_Less.f x0 x1).bind fun t294 => (if t294 = true then ((order_Less.f x1 x0).bind fun t295 => (if t295 = true then (some false) else ((orthoepylaw21_awake.f).bind fun t296 => (some t296)))) else ((orthoepylaw21_awake.f).bind fun t297 => (some t297)))) else (some false))))
def orthoepylaw21_OrderThree.f (k : Nat) (a0 : ByteArray) (a1 : ByteArray) (a2 : ByteArray) : Option (Bool) := (orthoepylaw21_right.f k (([a0, a1, a2] : List ByteArray))).bind fun t287 => (if t287 = true then ((order_Less.f a0 a1).bind fun t289 => (if t289 = true then ((order_Less.f a1 a2).bind fun t290 => (if t290 = true then ((order_Less.f a0 a2).bind fun t291 => (orthoepylaw21_OrderThree.j0 k a0 a1 (!t291))) else (orthoepylaw21_OrderThree.j0 k a0 a1 false))) else (orthoepylaw21_OrderThree.j0 k a0 a1 false))) else ((orthoepylaw21_awake.f).bind fun t288 => (some t288)))
theorem orthoepylaw21_OrderThree.mono_l : ∀ k, (∀ y0 y1 y2, LeO (orthoepylaw21_OrderThree.j0 k y0 y1 y2) (orthoepylaw21_OrderThree.j0 (k + 1) y0 y1 y2))
  | 0 => fun _ _ _ r h => by simp [orthoepylaw21_OrderThree.j0] at h
  | k + 1 => by
    have ih0 := orthoepylaw21_OrderThree.mono_l k
    · intro y0 y1 y2
      unfold orthoepylaw21_OrderThree.j0
      repeat' first
      | (with_reducible exact ih0 _ _ _)
      | (with_reducible exact orthoepylaw21_right.mono _ _)
      | (with_reducible exact LeO.refl _)
      | (with_reducible exact LeO.none _)
      | (with_reducible refine LeO.ite ?_ ?_)
      | (with_reducible refine LeO.bind ?_ (fun _ => ?_))
      | exact ih0 _ _ _
      | exact orthoepylaw21_right.mono _ _
      | exact LeO.none _
      | refine LeO.ite ?_ ?_
      | refine LeO.bind ?_ (fun _ => ?_)
theorem orthoepylaw21_OrderThree.mono : ∀ a0 a1 a2 k, LeO (orthoepylaw21_OrderThree.f k a0 a1 a2) (orthoepylaw21_OrderThree.f (k + 1) a0 a1 a2) := by
  intro a0 a1 a2 k
  have ih0 := orthoepylaw21_OrderThree.mono_l k
  unfold orthoepylaw21_OrderThree.f
  repeat' first
      | (with_reducible exact ih0 _ _ _)
      | (with_reducible exact orthoepylaw21_right.mono _ _)
      | (with_reducible exact LeO.refl _)
      | (with_reducible exact LeO.none _)
      | (with_reducible refine LeO.ite ?_ ?_)
      | (with_reducible refine LeO.bind ?_ (fun _ => ?_))
      | exact ih0 _ _ _
      | exact orthoepylaw21_right.mono _ _
      | exact LeO.none _
      | refine LeO.ite ?_ ?_
      | refine LeO.bind ?_ (fun _ => ?_)
set_option maxHeartbeats 8000000 in
set_option maxRecDepth 100000 in
theorem orthoepylaw21_OrderThree.calls (k : Nat) (a0 : ByteArray) (a1 : ByteArray) (a2 : ByteArray) (r : Bool) (w : World) (h : orthoepylaw21_OrderThree.f k a0 a1 a2 = some r) (hT_ : Aside0 (r = true)) :
    Calls Try.prog 8 #[.string a0, .string a1, .string a2] w fun e w' => e = .returned (.bool r) ∧ Below w.heap.size w w' := by
  have HB := Aside0.mk (Below.refl w.heap.size w)
  have H : ((orthoepylaw21_right.f k (([a0, a1, a2] : List ByteArray))).bind fun t287 => (if t287 = true then ((order_Less.f a0 a1).bind fun t289 => (if t289 = true then ((order_Less.f a1 a2).bind fun t290 => (if t290 = true then ((order_Less.f a0 a2).bind fun t291 => (orthoepylaw21_OrderThree.j0 k a0 a1 (!t291))) else (orthoepylaw21_OrderThree.j0 k a0 a1 false))) else (orthoepylaw21_OrderThree.j0 k a0 a1 false))) else ((orthoepylaw21_awake.f).bind fun t288 => (some t288)))) = some r := h
  clear h
  obtain ⟨y284, hy284⟩ : ∃ y_ : List ByteArray, y_ = (([a0, a1, a2] : List ByteArray)) := ⟨_, rfl⟩
  replace H : ((orthoepylaw21_right.f k y284).bind fun t287 => (if t287 = true then ((order_Less.f a0 a1).bind fun t289 => (if t289 = true then ((order_Less.f a1 a2).bind fun t290 => (if t290 = true then ((order_Less.f a0 a2).bind fun t291 => (orthoepylaw21_OrderThree.j0 k a0 a1 (!t291))) else (orthoepylaw21_OrderThree.j0 k a0 a1 false))) else (orthoepylaw21_OrderThree.j0 k a0 a1 false))) else ((orthoepylaw21_awake.f).bind fun t288 => (some t288)))) = some r := by first | (rw [hy284]; with_reducible exact H) | (have H2_ := (Option.bind_some _ _).symm.trans H; rw [hy284]; with_reducible exact H2_) | (have H2_ := (Option.bind_some _ _).symm.trans H; with_reducible exact H2_) | with_reducible exact H | (rw [hy284]; exact H) | exact H
  have Ny284 := Aside0.mk hy284
  clear hy284
  replace H := Option.bind_eq_some_iff.mp H
  obtain ⟨t287, A40, H⟩ := H
  replace H : (if t287 = true then ((order_Less.f a0 a1).bind fun t289 => (if t289 = true then ((order_Less.f a1 a2).bind fun t290 => (if t290 = true then ((order_Less.f a0 a2).bind fun t291 => (orthoepylaw21_OrderThree.j0 k a0 a1 (!t291))) else (orthoepylaw21_OrderThree.j0 k a0 a1 false))) else (orthoepylaw21_OrderThree.j0 k a0 a1 false))) else ((orthoepylaw21_awake.f).bind fun t288 => (some t288))) = some r := H
  have A4 := Aside0.mk A40
  clear A40
  by_cases c5 : t287 = true
  · subst c5
    have H1 : ((order_Less.f a0 a1).bind fun t289 => (if t289 = true then ((order_Less.f a1 a2).bind fun t290 => (if t290 = true then ((order_Less.f a0 a2).bind fun t291 => (orthoepylaw21_OrderThree.j0 k a0 a1 (!t291))) else (orthoepylaw21_OrderThree.j0 k a0 a1 false))) else (orthoepylaw21_OrderThree.j0 k a0 a1 false))) = some r := by rw [if_pos rfl] at H; exact H
    clear H
    have H := H1
    clear H1
    have HC6 := Aside0.mk H
    clear H
    go_enter Try.func8, Try.ntmps8
    go_upto_region 3 with (first | ((with_reducible refine gate_dst (N := 10) rfl ?_); refine Kd.R_lit Kd.string _ 9 ?hg (N := 10) ?hd (xs := ([a0, a1, a2] : List ByteArray)) (inner := [.string a0, .string a1, .string a2]) (ok := fun _ => True) (okp := fun _ => True) ?hr ?hp (fun _ hk => hk) trivial (Below.refl _ _) (Nat.le_refl _) (by simp) ?_; (case hd => rfl); (case hg => rfl); (case hr => first | (go_simp; done) | (go_simp; rfl)); (case hp => exact (Reps.one (show Kd.M Kd.string _ _ _ a0 [.string a0] from rfl) (Reps.one (show Kd.M Kd.string _ _ _ a1 [.string a1] from rfl) (Reps.one (show Kd.M Kd.string _ _ _ a2 [.string a2] from rfl) (Reps.none _ _))))); intro v285 w7 ho8 hb hg_ hnew_; clear hg_ hnew_; (first | rw [← Ny284.out] at ho8 | (simp only [Int.reduceToNat] at ho8; rw [← Ny284.out] at ho8)); have n0_ := Aside0.mk (Kd.R_lower ho8 (below_size (by repeat (first | (with_reducible first | exact HB.out | apply below_alloc | apply pw_below_drewN | apply below_drew1) | exact HB.out)))); have n1_ := Aside0.mk (below_step (by repeat (first | (with_reducible first | exact HB.out | apply below_alloc | apply pw_below_drewN | apply below_drew1) | exact HB.out)) hb); clear HB; have HO286 := n0_; have HB := n1_; clear n0_ n1_; clear hb ho8; obtain ⟨Ao9, co9, eo9⟩ := Kd.R_slice HO286.out; subst eo9) | ((with_reducible refine gate_callee (f := 10) rfl ?_); refine goesL_ (some 11) rfl rfl Try.func10 (by kernel_rfl) rfl #[.slice Ao9 y284.length co9] rfl (by (try simp only [List.map_toArray, List.map_cons, List.map_nil]); first | done | rfl | (simp only [List.length_drop, List.length_take]; rfl)) ?_; (with_reducible refine (orthoepylaw21_right.calls k _ _ y284 true _ ?side1 ?side2 A4.out).mono ?_); (case side1 => repeat (first | exact (Kd.R_reads' HO286.out).2.2 | (with_reducible refine Kd.C_alloc ?_ _) | (with_reducible refine Kd.C_drewN ?_ _) | (with_reducible refine Kd.C_drew ?_))); (case side2 => exact (Kd.R_reads' HO286.out).2.1); rintro e w10 ⟨rfl, hb⟩; refine ⟨_, rfl, ?_⟩; have n0_ := Aside0.mk (Kd.R_below (by (with_reducible repeat (first | apply Kd.R_alloc | apply Kd.R_drewN | apply Kd.R_drew)); exact HO286.out) hb); have n1_ := Aside0.mk (below_step (by repeat (first | (with_reducible first | exact HB.out | apply below_alloc | apply pw_below_drewN | apply below_drew1) | exact HB.out)) hb); clear HO286; clear HB; have HO286 := n0_; have HB := n1_; clear n0_ n1_; (try clear hb); (try clear hb2); (try clear hk); (try clear hi)))
    (try simp only [Act.put, List.setIfInBounds_toArray, List.set_cons_zero, List.set_cons_succ])
    go_cut [27] (fun v27 wc => ∃ (kq : Nat) (x27_5 : Bool), v27 = .bool x27_5 ∧ Aside0 (orthoepylaw21_OrderThree.j0 kq a0 a1 x27_5 = some r) ∧ Aside0 (kq ≤ k) ∧ Aside0 (Below w.heap.size w wc))
    case first =>
      have H := HC6.out
      clear HC6
      replace H := Option.bind_eq_some_iff.mp H
      obtain ⟨t289, A110, H⟩ := H
      replace H : (if t289 = true then ((order_Less.f a1 a2).bind fun t290 => (if t290 = true then ((order_Less.f a0 a2).bind fun t291 => (orthoepylaw21_OrderThree.j0 k a0 a1 (!t291))) else (orthoepylaw21_OrderThree.j0 k a0 a1 false))) else (orthoepylaw21_OrderThree.j0 k a0 a1 false)) = some r := H
      have A11 := Aside0.mk A110
      clear A110
      by_cases c12 : t289 = true
      · subst c12
        have H1 : ((order_Less.f a1 a2).bind fun t290 => (if t290 = true then ((order_Less.f a0 a2).bind fun t291 => (orthoepylaw21_OrderThree.j0 k a0 a1 (!t291))) else (orthoepylaw21_OrderThree.j0 k a0 a1 false))) = some r := by rw [if_pos rfl] at H; exact H
        clear H
        have H := H1
        clear H1
        replace H := Option.bind_eq_some_iff.mp H
        obtain ⟨t290, A130, H⟩ := H
        replace H : (if t290 = true then ((order_Less.f a0 a2).bind fun t291 => (orthoepylaw21_OrderThree.j0 k a0 a1 (!t291))) else (orthoepylaw21_OrderThree.j0 k a0 a1 false)) = some r := H
        have A13 := Aside0.mk A130
        clear A130
        by_cases c14 : t290 = true
        · subst c14
          have H1 : ((order_Less.f a0 a2).bind fun t291 => (orthoepylaw21_OrderThree.j0 k a0 a1 (!t291))) = some r := by rw [if_pos rfl] at H; exact H
          clear H
          have H := H1
          clear H1
          replace H := Option.bind_eq_some_iff.mp H
          obtain ⟨t291, A150, H⟩ := H
          replace H : (orthoepylaw21_OrderThree.j0 k a0 a1 (!t291)) = some r := H
          have A15 := Aside0.mk A150
          clear A150
          have H' := Aside0.mk H
          clear H
          go_wp2_with (first | ((with_reducible refine gate_callee (f := 12) rfl ?_); refine goesL_ (some 16) rfl rfl Try.func12 (by kernel_rfl) rfl #[.string a0, .string a1] rfl (by (try simp only [List.map_toArray, List.map_cons, List.map_nil]); first | done | rfl | (simp only [List.length_drop, List.length_take]; rfl)) ?_; (with_reducible refine (order_Less.calls a0 a1 true _ A11.out).mono ?_); rintro e w16 ⟨rfl, hb⟩; refine ⟨_, rfl, ?_⟩; have n0_ := Aside0.mk (Kd.R_below (by (with_reducible repeat (first | apply Kd.R_alloc | apply Kd.R_drewN | apply Kd.R_drew)); exact HO286.out) hb); have n1_ := Aside0.mk (below_step (by repeat (first | (with_reducible first | exact HB.out | apply below_alloc | apply pw_below_drewN | apply below_drew1) | exact HB.out)) hb); clear HO286; clear HB; have HO286 := n0_; have HB := n1_; clear n0_ n1_; (try clear hb); (try clear hb2); (try clear hk); (try clear hi)) | (go_at_call 12; (with_reducible refine (order_Less.calls a1 a2 true _ A13.out).mono ?_); rintro e w17 ⟨rfl, hb⟩; have n0_ := Aside0.mk (Kd.R_below (by (with_reducible repeat (first | apply Kd.R_alloc | apply Kd.R_drewN | apply Kd.R_drew)); exact HO286.out) hb); have n1_ := Aside0.mk (below_step (by repeat (first | (with_reducible first | exact HB.out | apply below_alloc | apply pw_below_drewN | apply below_drew1) | exact HB.out)) hb); clear HO286; clear HB; have HO286 := n0_; have HB := n1_; clear n0_ n1_; (try clear hb); (try clear hb2); (try clear hk); (try clear hi)) | (go_at_call 12; (with_reducible refine (order_Less.calls a0 a2 t291 _ A15.out).mono ?_); rintro e w18 ⟨rfl, hb⟩; have n0_ := Aside0.mk (Kd.R_below (by (with_reducible repeat (first | apply Kd.R_alloc | apply Kd.R_drewN | apply Kd.R_drew)); exact HO286.out) hb); have n1_ := Aside0.mk (below_step (by repeat (first | (with_reducible first | exact HB.out | apply below_alloc | apply pw_below_drewN | apply below_drew1) | exact HB.out)) hb); clear HO286; clear HB; have HO286 := n0_; have HB := n1_; clear n0_ n1_; (try clear hb); (try clear hb2); (try clear hk); (try clear hi)))
          go_meet
          case rel => exact ⟨_, (!t291), (by first | rfl | (simp; done) | (simp [*]; done)), H', ⟨by first | omega | exact Nat.le_refl _⟩, ⟨by repeat (first | (with_reducible first | exact HB.out | apply below_alloc | apply pw_below_drewN | apply below_drew1) | exact HB.out)⟩⟩
        · replace c14 := Bool.eq_false_iff.mpr c14
          subst c14
          have H1 : (orthoepylaw21_OrderThree.j0 k a0 a1 false) = some r := by rw [if_neg (show ¬ (false = true) by decide)] at H; exact H
          clear H
          have H := H1
          clear H1
          have H' := Aside0.mk H
          clear H
          go_wp2_with (first | ((with_reducible refine gate_callee (f := 12) rfl ?_); refine goesL_ (some 16) rfl rfl Try.func12 (by kernel_rfl) rfl #[.string a0, .string a1] rfl (by (try simp only [List.map_toArray, List.map_cons, List.map_nil]); first | done | rfl | (simp only [List.length_drop, List.length_take]; rfl)) ?_; (with_reducible refine (order_Less.calls a0 a1 true _ A11.out).mono ?_); rintro e w19 ⟨rfl, hb⟩; refine ⟨_, rfl, ?_⟩; have n0_ := Aside0.mk (Kd.R_below (by (with_reducible repeat (first | apply Kd.R_alloc | apply Kd.R_drewN | apply Kd.R_drew)); exact HO286.out) hb); have n1_ := Aside0.mk (below_step (by repeat (first | (with_reducible first | exact HB.out | apply below_alloc | apply pw_below_drewN | apply below_drew1) | exact HB.out)) hb); clear HO286; clear HB; have HO286 := n0_; have HB := n1_; clear n0_ n1_; (try clear hb); (try clear hb2); (try clear hk); (try clear hi)) | (go_at_call 12; (with_reducible refine (order_Less.calls a1 a2 false _ A13.out).mono ?_); rintro e w20 ⟨rfl, hb⟩; have n0_ := Aside0.mk (Kd.R_below (by (with_reducible repeat (first | apply Kd.R_alloc | apply Kd.R_drewN | apply Kd.R_drew)); exact HO286.out) hb); have n1_ := Aside0.mk (below_step (by repeat (first | (with_reducible first | exact HB.out | apply below_alloc | apply pw_below_drewN | apply below_drew1) | exact HB.out)) hb); clear HO286; clear HB; have HO286 := n0_; have HB := n1_; clear n0_ n1_; (try clear hb); (try clear hb2); (try clear hk); (try clear hi)))
          go_meet
          case rel => exact ⟨_, (false), (by first | rfl | (simp; done) | (simp [*]; done)), H', ⟨by first | omega | exact Nat.le_refl _⟩, ⟨by repeat (first | (with_reducible first | exact HB.out | apply below_alloc | apply pw_below_drewN | apply below_drew1) | exact HB.out)⟩⟩
      · replace c12 := Bool.eq_false_iff.mpr c12
        subst c12
        have H1 : (orthoepylaw21_OrderThree.j0 k a0 a1 false) = some r := by rw [if_neg (show ¬ (false = true) by decide)] at H; exact H
        clear H
        have H := H1
        clear H1
        have H' := Aside0.mk H
        clear H
        go_wp2_with (first | ((with_reducible refine gate_callee (f := 12) rfl ?_); refine goesL_ (some 16) rfl rfl Try.func12 (by kernel_rfl) rfl #[.string a0, .string a1] rfl (by (try simp only [List.map_toArray, List.map_cons, List.map_nil]); first | done | rfl | (simp only [List.length_drop, List.length_take]; rfl)) ?_; (with_reducible refine (order_Less.calls a0 a1 false _ A11.out).mono ?_); rintro e w21 ⟨rfl, hb⟩; refine ⟨_, rfl, ?_⟩; have n0_ := Aside0.mk (Kd.R_below (by (with_reducible repeat (first | apply Kd.R_alloc | apply Kd.R_drewN | apply Kd.R_drew)); exact HO286.out) hb); have n1_ := Aside0.mk (below_step (by repeat (first | (with_reducible first | exact HB.out | apply below_alloc | apply pw_below_drewN | apply below_drew1) | exact HB.out)) hb); clear HO286; clear HB; have HO286 := n0_; have HB := n1_; clear n0_ n1_; (try clear hb); (try clear hb2); (try clear hk); (try clear hi)))
        go_meet
        case rel => exact ⟨_, (false), (by first | rfl | (simp; done) | (simp [*]; done)), H', ⟨by first | omega | exact Nat.le_refl _⟩, ⟨by repeat (first | (with_reducible first | exact HB.out | apply below_alloc | apply pw_below_drewN | apply below_drew1) | exact HB.out)⟩⟩
    case rest =>
      clear HC6
      try clear c1
      try clear p2
      try clear c5
      try clear c8
      try clear c10
      try clear c12
      try clear c14
      obtain ⟨kq, x27_5, rfl, HA, HJ5, HB⟩ := hcut
      cases kq with
      | zero => exact absurd HA.out (by simp [orthoepylaw21_OrderThree.j0])
      | succ kj5 =>
        have H := HA.out
        clear HA
        simp only [orthoepylaw21_OrderThree.j0] at H
        by_cases c22 : x27_5 = true
        · subst c22
          have H1 : (some false) = some r := by rw [if_pos rfl] at H; exact H
          clear H
          have H := H1
          clear H1
          obtain rfl := Option.some.inj H
          exact absurd hT_.out (by decide)
        · replace c22 := Bool.eq_false_iff.mpr c22
          subst c22
          have H1 : ((order_Less.f a0 a1).bind fun t292 => ((order_Less.f a1 a0).bind fun t293 => (if ((t292 != t293) == (a0.toList != a1.toList)) = true then ((order_Less.f a0 a1).bind fun t294 => (if t294 = true then ((order_Less.f a1 a0).bind fun t295 => (if t295 = true then (some false) else ((orthoepylaw21_awake.f).bind fun t296 => (some t296)))) else ((orthoepylaw21_awake.f).bind fun t297 => (some t297)))) else (some false)))) = some r := by rw [if_neg (show ¬ (false = true) by decide)] at H; exact H
          clear H
          have H := H1
          clear H1
          replace H := Option.bind_eq_some_iff.mp H
          obtain ⟨t292, A230, H⟩ := H
          replace H : ((order_Less.f a1 a0).bind fun t293 => (if ((t292 != t293) == (a0.toList != a1.toList)) = true then ((order_Less.f a0 a1).bind fun t294 => (if t294 = true then ((order_Less.f a1 a0).bind fun t295 => (if t295 = true then (some false) else ((orthoepylaw21_awake.f).bind fun t296 => (some t296)))) else ((orthoepylaw21_awake.f).bind fun t297 => (some t297)))) else (some false))) = some r := H
          have A23 := Aside0.mk A230
          clear A230
          replace H := Option.bind_eq_some_iff.mp H
          obtain ⟨t293, A240, H⟩ := H
          replace H : (if ((t292 != t293) == (a0.toList != a1.toList)) = true then ((order_Less.f a0 a1).bind fun t294 => (if t294 = true then ((order_Less.f a1 a0).bind fun t295 => (if t295 = true then (some false) else ((orthoepylaw21_awake.f).bind fun t296 => (some t296)))) else ((orthoepylaw21_awake.f).bind fun t297 => (some t297)))) else (some false)) = some r := H
          have A24 := Aside0.mk A240
          clear A240
          by_cases c25 : ((t292 != t293) == (a0.toList != a1.toList)) = true
          · rw [if_pos c25] at H
            have c25b0 : ((t292 != t293) == (a0.toList != a1.toList)) = true := c25
            have c25bx : ((!(t292 == t293)) == (!(a0.toList == a1.toList))) = true := c25b0
            (try (have c25b1 : decide ((t292 != t293) = (a0.toList != a1.toList)) = true := by simpa using c25))
            (try (have c25b2 : ((t292 != t293) == (a0.toList != a1.toList)) = true := by simpa using c25))
            clear c25
            replace H := Option.bind_eq_some_iff.mp H
            obtain ⟨t294, A260, H⟩ := H
            replace H : (if t294 = true then ((order_Less.f a1 a0).bind fun t295 => (if t295 = true then (some false) else ((orthoepylaw21_awake.f).bind fun t296 => (some t296)))) else ((orthoepylaw21_awake.f).bind fun t297 => (some t297))) = some r := H
            have A26 := Aside0.mk A260
            clear A260
            by_cases c27 : t294 = true
            · subst c27
              have H1 : ((order_Less.f a1 a0).bind fun t295 => (if t295 = true then (some false) else ((orthoepylaw21_awake.f).bind fun t296 => (some t296)))) = some r := by rw [if_pos rfl] at H; exact H
              clear H
              have H := H1
              clear H1
              replace H := Option.bind_eq_some_iff.mp H
              obtain ⟨t295, A280, H⟩ := H
              replace H : (if t295 = true then (some false) else ((orthoepylaw21_awake.f).bind fun t296 => (some t296))) = some r := H
              have A28 := Aside0.mk A280
              clear A280
              by_cases c29 : t295 = true
              · subst c29
                have H1 : (some false) = some r := by rw [if_pos rfl] at H; exact H
                clear H
                have H := H1
                clear H1
                obtain rfl := Option.some.inj H
                exact absurd hT_.out (by decide)
              · replace c29 := Bool.eq_false_iff.mpr c29
                subst c29
                have H1 : ((orthoepylaw21_awake.f).bind fun t296 => (some t296)) = some r := by rw [if_neg (show ¬ (false = true) by decide)] at H; exact H
                clear H
                have H := H1
                clear H1
                replace H := Option.bind_eq_some_iff.mp H
                obtain ⟨t296, A300, H⟩ := H
                replace H : (some t296) = some r := H
                have A30 := Aside0.mk A300
                clear A300
                obtain rfl := Option.some.inj H
                go_wp2_with (first | ((with_reducible refine gate_callee (f := 12) rfl ?_); refine goesL_ (some 30) rfl rfl Try.func12 (by kernel_rfl) rfl #[.string a0, .string a1] rfl (by (try simp only [List.map_toArray, List.map_cons, List.map_nil]); first | done | rfl | (simp only [List.length_drop, List.length_take]; rfl)) ?_; (with_reducible refine (order_Less.calls a0 a1 t292 _ A23.out).mono ?_); rintro e w31 ⟨rfl, hb⟩; refine ⟨_, rfl, ?_⟩; have n0_ := Aside0.mk (below_step (by repeat (first | (with_reducible first | exact HB.out | apply below_alloc | apply pw_below_drewN | apply below_drew1) | exact HB.out)) hb); clear HB; have HB := n0_; clear n0_; (try clear hb); (try clear hb2); (try clear hk); (try clear hi)) | ((with_reducible refine gate_callee (f := 12) rfl ?_); refine goesL_ (some 33) rfl rfl Try.func12 (by kernel_rfl) rfl #[.string a1, .string a0] rfl (by (try simp only [List.map_toArray, List.map_cons, List.map_nil]); first | done | rfl | (simp only [List.length_drop, List.length_take]; rfl)) ?_; (with_reducible refine (order_Less.calls a1 a0 t293 _ A24.out).mono ?_); rintro e w32 ⟨rfl, hb⟩; refine ⟨_, rfl, ?_⟩; have n0_ := Aside0.mk (below_step (by repeat (first | (with_reducible first | exact HB.out | apply below_alloc | apply pw_below_drewN | apply below_drew1) | exact HB.out)) hb); clear HB; have HB := n0_; clear n0_; (try clear hb); (try clear hb2); (try clear hk); (try clear hi)) | (go_at_call 12; (with_reducible refine (order_Less.calls a0 a1 true _ A26.out).mono ?_); rintro e w33 ⟨rfl, hb⟩; have n0_ := Aside0.mk (below_step (by repeat (first | (with_reducible first | exact HB.out | apply below_alloc | apply pw_below_drewN | apply below_drew1) | exact HB.out)) hb); clear HB; have HB := n0_; clear n0_; (try clear hb); (try clear hb2); (try clear hk); (try clear hi)) | (go_at_call 12; (with_reducible refine (order_Less.calls a1 a0 false _ A28.out).mono ?_); rintro e w34 ⟨rfl, hb⟩; have n0_ := Aside0.mk (below_step (by repeat (first | (with_reducible first | exact HB.out | apply below_alloc | apply pw_below_drewN | apply below_drew1) | exact HB.out)) hb); clear HB; have HB := n0_; clear n0_; (try clear hb); (try clear hb2); (try clear hk); (try clear hi)) | (go_at_call 11; (with_reducible refine (orthoepylaw21_awake.calls  t296 _ A30.out).mono ?_); rintro e w35 ⟨rfl, hb⟩; have n0_ := Aside0.mk (below_step (by repeat (first | (with_reducible first | exact HB.out | apply below_alloc | apply pw_below_drewN | apply below_drew1) | exact HB.out)) hb); clear HB; have HB := n0_; clear n0_; (try clear hb); (try clear hb2); (try clear hk); (try clear hi)))
                go_ret
                exact ⟨by first | rfl | (simp [errW_none, errW_some] <;> rfl) | (simp [*, errW_none, errW_some] <;> rfl), by repeat (first | (with_reducible first | exact HB.out | apply below_alloc | apply pw_below_drewN | apply below_drew1) | exact HB.out)⟩
            · replace c27 := Bool.eq_false_iff.mpr c27
              subst c27
              have H1 : ((orthoepylaw21_awake.f).bind fun t297 => (some t297)) = some r := by rw [if_neg (show ¬ (false = true) by decide)] at H; exact H
              clear H
              have H := H1
              clear H1
              replace H := Option.bind_eq_some_iff.mp H
              obtain ⟨t297, A360, H⟩ := H
              replace H : (some t297) = some r := H
              have A36 := Aside0.mk A360
              clear A360
              obtain rfl := Option.some.inj H
              go_wp2_with (first | ((with_reducible refine gate_callee (f := 12) rfl ?_); refine goesL_ (some 30) rfl rfl Try.func12 (by kernel_rfl) rfl #[.string a0, .string a1] rfl (by (try simp only [List.map_toArray, List.map_cons, List.map_nil]); first | done | rfl | (simp only [List.length_drop, List.length_take]; rfl)) ?_; (with_reducible refine (order_Less.calls a0 a1 t292 _ A23.out).mono ?_); rintro e w37 ⟨rfl, hb⟩; refine ⟨_, rfl, ?_⟩; have n0_ := Aside0.mk (below_step (by repeat (first | (with_reducible first | exact HB.out | apply below_alloc | apply pw_below_drewN | apply below_drew1) | exact HB.out)) hb); clear HB; have HB := n0_; clear n0_; (try clear hb); (try clear hb2); (try clear hk); (try clear hi)) | ((with_reducible refine gate_callee (f := 12) rfl ?_); refine goesL_ (some 33) rfl rfl Try.func12 (by kernel_rfl) rfl #[.string a1, .string a0] rfl (by (try simp only [List.map_toArray, List.map_cons, List.map_nil]); first | done | rfl | (simp only [List.length_drop, List.length_take]; rfl)) ?_; (with_reducible refine (order_Less.calls a1 a0 t293 _ A24.out).mono ?_); rintro e w38 ⟨rfl, hb⟩; refine ⟨_, rfl, ?_⟩; have n0_ := Aside0.mk (below_step (by repeat (first | (with_reducible first | exact HB.out | apply below_alloc | apply pw_below_drewN | apply below_drew1) | exact HB.out)) hb); clear HB; have HB := n0_; clear n0_; (try clear hb); (try clear hb2); (try clear hk); (try clear hi)) | (go_at_call 12; (with_reducible refine (order_Less.calls a0 a1 false _ A26.out).mono ?_); rintro e w39 ⟨rfl, hb⟩; have n0_ := Aside0.mk (below_step (by repeat (first | (with_reducible first | exact HB.out | apply below_alloc | apply pw_below_drewN | apply below_drew1) | exact HB.out)) hb); clear HB; have HB := n0_; clear n0_; (try clear hb); (try clear hb2); (try clear hk); (try clear hi)) | (go_at_call 11; (with_reducible refine (orthoepylaw21_awake.calls  t297 _ A36.out).mono ?_); rintro e w40 ⟨rfl, hb⟩; have n0_ := Aside0.mk (below_step (by repeat (first | (with_reducible first | exact HB.out | apply below_alloc | apply pw_below_drewN | apply below_drew1) | exact HB.out)) hb); clear HB; have HB := n0_; clear n0_; (try clear hb); (try clear hb2); (try clear hk); (try clear hi)))
              go_ret
              exact ⟨by first | rfl | (simp [errW_none, errW_some] <;> rfl) | (simp [*, errW_none, errW_some] <;> rfl), by repeat (first | (with_reducible first | exact HB.out | apply below_alloc | apply pw_below_drewN | apply below_drew1) | exact HB.out)⟩
          · rw [if_neg c25] at H
            have c25b0 : ((t292 != t293) == (a0.toList != a1.toList)) = false := by simpa using c25
            (try (have c25b1 : decide ((t292 != t293) = (a0.toList != a1.toList)) = false := by simpa using c25))
            (try (have c25b2 : ((t292 != t293) == (a0.toList != a1.toList)) = false := by simpa using c25))
            (try (have c25b3 : ¬ ((t292 != t293) = (a0.toList != a1.toList)) := by simpa using c25))
            clear c25
            obtain rfl := Option.some.inj H
            exact absurd hT_.out (by decide)
  · replace c5 := Bool.eq_false_iff.mpr c5
    subst c5
    have H1 : ((orthoepylaw21_awake.f).bind fun t288 => (some t288)) = some r := by rw [if_neg (show ¬ (false = true) by decide)] at H; exact H
    clear H
    have H := H1
    clear H1
    replace H := Option.bind_eq_some_iff.mp H
    obtain ⟨t288, A410, H⟩ := H
    replace H : (some t288) = some r := H
    have A41 := Aside0.mk A410
    clear A410
    obtain rfl := Option.some.inj H
    go_enter Try.func8, Try.ntmps8
    go_wp2_with (first | ((with_reducible refine gate_dst (N := 10) rfl ?_); refine Kd.R_lit Kd.string _ 9 ?hg (N := 10) ?hd (xs := ([a0, a1, a2] : List ByteArray)) (inner := [.string a0, .string a1, .string a2]) (ok := fun _ => True) (okp := fun _ => True) ?hr ?hp (fun _ hk => hk) trivial (Below.refl _ _) (Nat.le_refl _) (by simp) ?_; (case hd => rfl); (case hg => rfl); (case hr => first | (go_simp; done) | (go_simp; rfl)); (case hp => exact (Reps.one (show Kd.M Kd.string _ _ _ a0 [.string a0] from rfl) (Reps.one (show Kd.M Kd.string _ _ _ a1 [.string a1] from rfl) (Reps.one (show Kd.M Kd.string _ _ _ a2 [.string a2] from rfl) (Reps.none _ _))))); intro v285 w42 ho43 hb hg_ hnew_; clear hg_ hnew_; (first | rw [← Ny284.out] at ho43 | (simp only [Int.reduceToNat] at ho43; rw [← Ny284.out] at ho43)); have n0_ := Aside0.mk (Kd.R_lower ho43 (below_size (by repeat (first | (with_reducible first | exact HB.out | apply below_alloc | apply pw_below_drewN | apply below_drew1) | exact HB.out)))); have n1_ := Aside0.mk (below_step (by repeat (first | (with_reducible first | exact HB.out | apply below_alloc | apply pw_below_drewN | apply below_drew1) | exact HB.out)) hb); clear HB; have HO286 := n0_; have HB := n1_; clear n0_ n1_; clear hb ho43; obtain ⟨Ao44, co44, eo44⟩ := Kd.R_slice HO286.out; subst eo44) | ((with_reducible refine gate_callee (f := 10) rfl ?_); refine goesL_ (some 11) rfl rfl Try.func10 (by kernel_rfl) rfl #[.slice Ao44 y284.length co44] rfl (by (try simp only [List.map_toArray, List.map_cons, List.map_nil]); first | done | rfl | (simp only [List.length_drop, List.length_take]; rfl)) ?_; (with_reducible refine (orthoepylaw21_right.calls k _ _ y284 false _ ?side1 ?side2 A4.out).mono ?_); (case side1 => repeat (first | exact (Kd.R_reads' HO286.out).2.2 | (with_reducible refine Kd.C_alloc ?_ _) | (with_reducible refine Kd.C_drewN ?_ _) | (with_reducible refine Kd.C_drew ?_))); (case side2 => exact (Kd.R_reads' HO286.out).2.1); rintro e w45 ⟨rfl, hb⟩; refine ⟨_, rfl, ?_⟩; have n0_ := Aside0.mk (Kd.R_below (by (with_reducible repeat (first | apply Kd.R_alloc | apply Kd.R_drewN | apply Kd.R_drew)); exact HO286.out) hb); have n1_ := Aside0.mk (below_step (by repeat (first | (with_reducible first | exact HB.out | apply below_alloc | apply pw_below_drewN | apply below_drew1) | exact HB.out)) hb); clear HO286; clear HB; have HO286 := n0_; have HB := n1_; clear n0_ n1_; (try clear hb); (try clear hb2); (try clear hk); (try clear hi)) | ((with_reducible refine gate_callee (f := 11) rfl ?_); refine goesL_ (some 13) rfl rfl Try.func11 (by kernel_rfl) rfl #[] rfl (by (try simp only [List.map_toArray, List.map_cons, List.map_nil]); first | done | rfl | (simp only [List.length_drop, List.length_take]; rfl)) ?_; (with_reducible refine (orthoepylaw21_awake.calls  t288 _ A41.out).mono ?_); rintro e w46 ⟨rfl, hb⟩; refine ⟨_, rfl, ?_⟩; have n0_ := Aside0.mk (Kd.R_below (by (with_reducible repeat (first | apply Kd.R_alloc | apply Kd.R_drewN | apply Kd.R_drew)); exact HO286.out) hb); have n1_ := Aside0.mk (below_step (by repeat (first | (with_reducible first | exact HB.out | apply below_alloc | apply pw_below_drewN | apply below_drew1) | exact HB.out)) hb); clear HO286; clear HB; have HO286 := n0_; have HB := n1_; clear n0_ n1_; (try clear hb); (try clear hb2); (try clear hk); (try clear hi)))
    go_ret
    exact ⟨by first | rfl | (simp [errW_none, errW_some] <;> rfl) | (simp [*, errW_none, errW_some] <;> rfl), by repeat (first | (with_reducible first | exact HB.out | apply below_alloc | apply pw_below_drewN | apply below_drew1) | exact HB.out)⟩

/-- THE ONE PURE STATEMENT of orthoepylaw21_OrderThree: yours. -/
def orthoepylaw21_OrderThree.Pure : Prop := ∀ (a0 : ByteArray) (a1 : ByteArray) (a2 : ByteArray), a0.size ≤ 140737488351232 → a1.size ≤ 140737488351232 → a2.size ≤ 140737488351232 → ∃ k, orthoepylaw21_OrderThree.f k a0 a1 a2 = some true
theorem orthoepylaw21_OrderThree.walk (P : orthoepylaw21_OrderThree.Pure) (a0 : ByteArray) (a1 : ByteArray) (a2 : ByteArray) (w : World) (w0 : a0.size ≤ 140737488351232) (w1 : a1.size ≤ 140737488351232) (w2 : a2.size ≤ 140737488351232) :
    Calls Try.prog 8 #[.string a0, .string a1, .string a2] w fun e w' => e = .returned (.bool true) ∧ Below w.heap.size w w' := by
  obtain ⟨k, h⟩ := P a0 a1 a2 w0 w1 w2
  refine (orthoepylaw21_OrderThree.calls k a0 a1 a2 true w h ⟨rfl⟩).mono ?_
  rintro e w' ⟨rfl, hd⟩
  exact ⟨rfl, hd⟩

-- NOT PRINTED: function 30 (orthoepylaw00_Rune)

-- NOT PRINTED: function 32 (orthoepyref01_Nonchar)

-- NOT PRINTED: function 39 (orthoepyref02_Bytes)

-- NOT PRINTED: function 33 (orthoepyref02_Text)

/-! ### orthoepylaw00_Str: function 21 -/
def orthoepylaw00_Str.f (k : Nat) (l0 : List Int) : Option (ByteArray) := Go.Proofs.Ytajinnlaajhoeaa.PAll.orthoepylaw00_Str.f k l0
theorem orthoepylaw00_Str.mono : ∀ a0 k, LeO (orthoepylaw00_Str.f k a0) (orthoepylaw00_Str.f (k + 1) a0) := Go.Proofs.Ytajinnlaajhoeaa.PAll.orthoepylaw00_Str.mono
theorem orthoepylaw00_Str.calls (k : Nat) (A0 : Option Addr) (c0 : Nat) (l0 : List Int) (r : ByteArray) (w : World) (hr0 : Kd.C (Kd.int .i64) w A0 l0.length l0) (hc0 : l0.length ≤ c0) (h : orthoepylaw00_Str.f k l0 = some r) :
    Calls Try.prog 21 #[.slice A0 l0.length c0] w fun e w' => e = .returned (.string r) ∧ Below w.heap.size w w' := Go.Proofs.Ytajinnlaajhoeaa.PAll.orthoepylaw00_Str.calls k A0 c0 l0 r w hr0 hc0 h

end Go.Proofs.Ytajinnlaajhoeaa.PTwo
