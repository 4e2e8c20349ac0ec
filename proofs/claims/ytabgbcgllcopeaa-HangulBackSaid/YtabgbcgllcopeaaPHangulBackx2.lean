-- PRINTED BY print.sh 35421559b90ae4d0a3588c463048766b98c2df88dd9212a6774a882060cdf62d: not written by this session
import Derived.Test.YtabgbcgllcopeaaPHangulBackx0
import Derived.Test.YtabgbcgllcopeaaPHangulBackx1
namespace Go.Proofs.Ytabgbcgllcopeaa.PHangulBack
open Go.RowKit Go.Proofs.YtabgbcgllcopeaaW.PrintWords Go.Proofs.YtabgbcgllcopeaaW.PrintLast Go.Proofs.YtabgbcgllcopeaaW.PrintMore
attribute [local go_sem] max2_int min2_int max_two min_two max_three min_three max_four min_four   -- for this text's walks alone
set_option linter.unusedVariables false
set_option linter.unusedSimpArgs false

/-! ### orthoepylaw06_HangulBack: function 4 -/
mutual
def orthoepylaw06_HangulBack.j0 : Nat → Int → List Int → Bool → Option (Bool)
  | 0, _, _, _ => none
  | k + 1, x3, x4, x43 => if x43 = true then (some false) else (if 0 < (x4.length : Int) then (if 1 < (x4.length : Int) then ((hangul_Join.f k (rd x4 0) (rd x4 1)).bind fun bt143 => (if (x4.length : Int) = 3 then (orthoepylaw06_HangulBack.j1 k x3 x4 bt143.1 bt143.2 bt143.2) else (orthoepylaw06_HangulBack.j1 k x3 x4 bt143.1 bt143.2 false))) else (none)) else (none))
def orthoepylaw06_HangulBack.j1 : Nat → Int → List Int → Int → Bool → Bool → Option (Bool)
  | 0, _, _, _, _, _ => none
  | k + 1, x3, x4, x5, x6, x59 => if x59 = true then (if 2 < (x4.length : Int) then ((hangul_Join.f k x5 (rd x4 2)).bind fun bt146 => (if bt146.2 = true then ((hangul_Kind.f k (rd x4 2)).bind fun t149 => (if t149 = 3 then (if bt146.1 = x3 then ((orthoepylaw06_awake.f k).bind fun t150 => (some t150)) else (some false)) else (some false))) else (some false))) else (none)) else (if x6 = true then (if x5 = x3 then ((orthoepylaw06_awake.f k).bind fun t151 => (some t151)) else (some false)) else (some false))
end
def orthoepylaw06_HangulBack.f (k : Nat) (a0 : Int) : Option (Bool) := (orthoepylaw00_Place.f a0 11172).bind fun t132 => ((hangul_Split.f k (wrap32 (wrap64 (44032 + t132)))).bind fun t133 => (if (t133.length : Int) < 2 then (orthoepylaw06_HangulBack.j0 k (wrap32 (wrap64 (44032 + t132))) t133 true) else (if (t133.length : Int) > 3 then (orthoepylaw06_HangulBack.j0 k (wrap32 (wrap64 (44032 + t132))) t133 true) else (if 0 < (t133.length : Int) then ((hangul_Kind.f k (rd t133 0)).bind fun t137 => (if t137 = 1 then (if 1 < (t133.length : Int) then ((hangul_Kind.f k (rd t133 1)).bind fun t139 => (if t139 = 2 then ((hangul_Kind.f k (wrap32 (wrap64 (44032 + t132)))).bind fun t140 => (orthoepylaw06_HangulBack.j0 k (wrap32 (wrap64 (44032 + t132))) t133 (((t133.length : Int) == 3) != (t140 == 5)))) else (orthoepylaw06_HangulBack.j0 k (wrap32 (wrap64 (44032 + t132))) t133 true))) else (none)) else (orthoepylaw06_HangulBack.j0 k (wrap32 (wrap64 (44032 + t132))) t133 true))) else (none)))))
theorem orthoepylaw06_HangulBack.mono_l : ∀ k, (∀ y0 y1 y2, LeO (orthoepylaw06_HangulBack.j0 k y0 y1 y2) (orthoepylaw06_HangulBack.j0 (k + 1) y0 y1 y2)) ∧ (∀ y0 y1 y2 y3 y4, LeO (orthoepylaw06_HangulBack.j1 k y0 y1 y2 y3 y4) (orthoepylaw06_HangulBack.j1 (k + 1) y0 y1 y2 y3 y4))
  | 0 => ⟨fun _ _ _ r h => by simp [orthoepylaw06_HangulBack.j0] at h, fun _ _ _ _ _ r h => by simp [orthoepylaw06_HangulBack.j1] at h⟩
  | k + 1 => by
    obtain ⟨ih0, ih1⟩ := orthoepylaw06_HangulBack.mono_l k
    refine ⟨?_, ?_⟩
    · intro y0 y1 y2
      unfold orthoepylaw06_HangulBack.j0
      repeat' first
      | (with_reducible exact ih0 _ _ _)
      | (with_reducible exact ih1 _ _ _ _ _)
      | (with_reducible exact hangul_Join.mono _ _ _)
      | (with_reducible exact hangul_Kind.mono _ _)
      | (with_reducible exact hangul_Split.mono _ _)
      | (with_reducible exact orthoepylaw06_awake.mono _)
      | (with_reducible exact LeO.refl _)
      | (with_reducible exact LeO.none _)
      | (with_reducible refine LeO.ite ?_ ?_)
      | (with_reducible refine LeO.bind ?_ (fun _ => ?_))
      | exact ih0 _ _ _
      | exact ih1 _ _ _ _ _
      | exact hangul_Join.mono _ _ _
      | exact hangul_Kind.mono _ _
      | exact hangul_Split.mono _ _
      | exact orthoepylaw06_awake.mono _
      | exact LeO.none _
      | refine LeO.ite ?_ ?_
      | refine LeO.bind ?_ (fun _ => ?_)
    · intro y0 y1 y2 y3 y4
      unfold orthoepylaw06_HangulBack.j1
      repeat' first
      | (with_reducible exact ih0 _ _ _)
      | (with_reducible exact ih1 _ _ _ _ _)
      | (with_reducible exact hangul_Join.mono _ _ _)
      | (with_reducible exact hangul_Kind.mono _ _)
      | (with_reducible exact hangul_Split.mono _ _)
      | (with_reducible exact orthoepylaw06_awake.mono _)
      | (with_reducible exact LeO.refl _)
      | (with_reducible exact LeO.none _)
      | (with_reducible refine LeO.ite ?_ ?_)
      | (with_reducible refine LeO.bind ?_ (fun _ => ?_))
      | exact ih0 _ _ _
      | exact ih1 _ _ _ _ _
      | exact hangul_Join.mono _ _ _
      | exact hangul_Kind.mono _ _
      | exact hangul_Split.mono _ _
      | exact orthoepylaw06_awake.mono _
      | exact LeO.none _
      | refine LeO.ite ?_ ?_
      | refine LeO.bind ?_ (fun _ => ?_)
theorem orthoepylaw06_HangulBack.mono : ∀ a0 k, LeO (orthoepylaw06_HangulBack.f k a0) (orthoepylaw06_HangulBack.f (k + 1) a0) := by
  intro a0 k
  obtain ⟨ih0, ih1⟩ := orthoepylaw06_HangulBack.mono_l k
  unfold orthoepylaw06_HangulBack.f
  repeat' first
      | (with_reducible exact ih0 _ _ _)
      | (with_reducible exact ih1 _ _ _ _ _)
      | (with_reducible exact hangul_Join.mono _ _ _)
      | (with_reducible exact hangul_Kind.mono _ _)
      | (with_reducible exact hangul_Split.mono _ _)
      | (with_reducible exact orthoepylaw06_awake.mono _)
      | (with_reducible exact LeO.refl _)
      | (with_reducible exact LeO.none _)
      | (with_reducible refine LeO.ite ?_ ?_)
      | (with_reducible refine LeO.bind ?_ (fun _ => ?_))
      | exact ih0 _ _ _
      | exact ih1 _ _ _ _ _
      | exact hangul_Join.mono _ _ _
      | exact hangul_Kind.mono _ _
      | exact hangul_Split.mono _ _
      | exact orthoepylaw06_awake.mono _
      | exact LeO.none _
      | refine LeO.ite ?_ ?_
      | refine LeO.bind ?_ (fun _ => ?_)
set_option maxHeartbeats 8000000 in
set_option maxRecDepth 100000 in
theorem orthoepylaw06_HangulBack.calls (k : Nat) (a0 : Int) (r : Bool) (w : World) (h : orthoepylaw06_HangulBack.f k a0 = some r) :
    Calls Try.prog 4 #[.int .i64 a0] w fun e w' => e = .returned (.bool r) ∧ Below w.heap.size w w' := by
  have HB := Aside0.mk (Below.refl w.heap.size w)
  have H : ((orthoepylaw00_Place.f a0 11172).bind fun t132 => ((hangul_Split.f k (wrap32 (wrap64 (44032 + t132)))).bind fun t133 => (if (t133.length : Int) < 2 then (orthoepylaw06_HangulBack.j0 k (wrap32 (wrap64 (44032 + t132))) t133 true) else (if (t133.length : Int) > 3 then (orthoepylaw06_HangulBack.j0 k (wrap32 (wrap64 (44032 + t132))) t133 true) else (if 0 < (t133.length : Int) then ((hangul_Kind.f k (rd t133 0)).bind fun t137 => (if t137 = 1 then (if 1 < (t133.length : Int) then ((hangul_Kind.f k (rd t133 1)).bind fun t139 => (if t139 = 2 then ((hangul_Kind.f k (wrap32 (wrap64 (44032 + t132)))).bind fun t140 => (orthoepylaw06_HangulBack.j0 k (wrap32 (wrap64 (44032 + t132))) t133 (((t133.length : Int) == 3) != (t140 == 5)))) else (orthoepylaw06_HangulBack.j0 k (wrap32 (wrap64 (44032 + t132))) t133 true))) else (none)) else (orthoepylaw06_HangulBack.j0 k (wrap32 (wrap64 (44032 + t132))) t133 true))) else (none)))))) = some r := h
  clear h
  replace H := Option.bind_eq_some_iff.mp H
  obtain ⟨t132, A20, H⟩ := H
  replace H : ((hangul_Split.f k (wrap32 (wrap64 (44032 + t132)))).bind fun t133 => (if (t133.length : Int) < 2 then (orthoepylaw06_HangulBack.j0 k (wrap32 (wrap64 (44032 + t132))) t133 true) else (if (t133.length : Int) > 3 then (orthoepylaw06_HangulBack.j0 k (wrap32 (wrap64 (44032 + t132))) t133 true) else (if 0 < (t133.length : Int) then ((hangul_Kind.f k (rd t133 0)).bind fun t137 => (if t137 = 1 then (if 1 < (t133.length : Int) then ((hangul_Kind.f k (rd t133 1)).bind fun t139 => (if t139 = 2 then ((hangul_Kind.f k (wrap32 (wrap64 (44032 + t132)))).bind fun t140 => (orthoepylaw06_HangulBack.j0 k (wrap32 (wrap64 (44032 + t132))) t133 (((t133.length : Int) == 3) != (t140 == 5)))) else (orthoepylaw06_HangulBack.j0 k (wrap32 (wrap64 (44032 + t132))) t133 true))) else (none)) else (orthoepylaw06_HangulBack.j0 k (wrap32 (wrap64 (44032 + t132))) t133 true))) else (none))))) = some r := H
  have A2 := Aside0.mk A20
  clear A20
  replace H := Option.bind_eq_some_iff.mp H
  obtain ⟨t133, A30, H⟩ := H
  replace H : (if (t133.length : Int) < 2 then (orthoepylaw06_HangulBack.j0 k (wrap32 (wrap64 (44032 + t132))) t133 true) else (if (t133.length : Int) > 3 then (orthoepylaw06_HangulBack.j0 k (wrap32 (wrap64 (44032 + t132))) t133 true) else (if 0 < (t133.length : Int) then ((hangul_Kind.f k (rd t133 0)).bind fun t137 => (if t137 = 1 then (if 1 < (t133.length : Int) then ((hangul_Kind.f k (rd t133 1)).bind fun t139 => (if t139 = 2 then ((hangul_Kind.f k (wrap32 (wrap64 (44032 + t132)))).bind fun t140 => (orthoepylaw06_HangulBack.j0 k (wrap32 (wrap64 (44032 + t132))) t133 (((t133.length : Int) == 3) != (t140 == 5)))) else (orthoepylaw06_HangulBack.j0 k (wrap32 (wrap64 (44032 + t132))) t133 true))) else (none)) else (orthoepylaw06_HangulBack.j0 k (wrap32 (wrap64 (44032 + t132))) t133 true))) else (none)))) = some r := H
  have A3 := Aside0.mk A30
  clear A30
  have HC4 := Aside0.mk H
  clear H
  go_enter Try.func4, Try.ntmps4
  go_upto_region 3 with (first | (go_at_call 14; (with_reducible refine (orthoepylaw00_Place.calls a0 11172 t132 _ A2.out).mono ?_); rintro e w' ⟨rfl, ⟨nd, rfl⟩⟩; (try first | exact ⟨rfl, _, World.drewN_drewN _ _ _⟩ | exact ⟨rfl, _, Eq.trans (World.drewN_drewN _ _ _) (congrArg (World.drewN _) (Nat.add_assoc _ _ _))⟩)) | (go_at_call 11; (with_reducible refine (hangul_Split.calls k (wrap32 (wrap64 (44032 + t132))) t133 _ A3.out).mono ?_); rintro e w5 ⟨v134, rfl, ho0, hb⟩; have n0_ := Aside0.mk (Kd.R_lower ho0 (below_size (by repeat (first | (with_reducible first | exact HB.out | apply below_alloc | apply pw_below_drewN | apply below_drew1) | exact HB.out)))); have n1_ := Aside0.mk (below_step (by repeat (first | (with_reducible first | exact HB.out | apply below_alloc | apply pw_below_drewN | apply below_drew1) | exact HB.out)) hb); clear HB; have HO135 := n0_; have HB := n1_; clear n0_ n1_; (try clear hb); (try clear hb2); (try clear hk); (try clear hi); (try clear ho0)))
  repeat (go_quiet (first | (go_at_call 14; (with_reducible refine (orthoepylaw00_Place.calls a0 11172 t132 _ A2.out).mono ?_); rintro e w' ⟨rfl, ⟨nd, rfl⟩⟩; (try first | exact ⟨rfl, _, World.drewN_drewN _ _ _⟩ | exact ⟨rfl, _, Eq.trans (World.drewN_drewN _ _ _) (congrArg (World.drewN _) (Nat.add_assoc _ _ _))⟩)) | (go_at_call 11; (with_reducible refine (hangul_Split.calls k (wrap32 (wrap64 (44032 + t132))) t133 _ A3.out).mono ?_); rintro e w5 ⟨v134, rfl, ho0, hb⟩; have n0_ := Aside0.mk (Kd.R_lower ho0 (below_size (by repeat (first | (with_reducible first | exact HB.out | apply below_alloc | apply pw_below_drewN | apply below_drew1) | exact HB.out)))); have n1_ := Aside0.mk (below_step (by repeat (first | (with_reducible first | exact HB.out | apply below_alloc | apply pw_below_drewN | apply below_drew1) | exact HB.out)) hb); clear HB; have HO135 := n0_; have HB := n1_; clear n0_ n1_; (try clear hb); (try clear hb2); (try clear hk); (try clear hi); (try clear ho0))); go_upto_region 3 with (first | (go_at_call 14; (with_reducible refine (orthoepylaw00_Place.calls a0 11172 t132 _ A2.out).mono ?_); rintro e w' ⟨rfl, ⟨nd, rfl⟩⟩; (try first | exact ⟨rfl, _, World.drewN_drewN _ _ _⟩ | exact ⟨rfl, _, Eq.trans (World.drewN_drewN _ _ _) (congrArg (World.drewN _) (Nat.add_assoc _ _ _))⟩)) | (go_at_call 11; (with_reducible refine (hangul_Split.calls k (wrap32 (wrap64 (44032 + t132))) t133 _ A3.out).mono ?_); rintro e w5 ⟨v134, rfl, ho0, hb⟩; have n0_ := Aside0.mk (Kd.R_lower ho0 (below_size (by repeat (first | (with_reducible first | exact HB.out | apply below_alloc | apply pw_below_drewN | apply below_drew1) | exact HB.out)))); have n1_ := Aside0.mk (below_step (by repeat (first | (with_reducible first | exact HB.out | apply below_alloc | apply pw_below_drewN | apply below_drew1) | exact HB.out)) hb); clear HB; have HO135 := n0_; have HB := n1_; clear n0_ n1_; (try clear hb); (try clear hb2); (try clear hk); (try clear hi); (try clear ho0))))
  (try simp only [Act.put, List.setIfInBounds_toArray, List.set_cons_zero, List.set_cons_succ])
  go_cut [43] (fun v43 wc => ∃ (kq : Nat) (x43_3 : Bool), v43 = .bool x43_3 ∧ Aside0 (orthoepylaw06_HangulBack.j0 kq (wrap32 (wrap64 (44032 + t132))) t133 x43_3 = some r) ∧ Aside0 (kq ≤ k) ∧ Aside0 (Kd.R (Kd.int .i32) 21 wc w.heap.size (fun _ => True) v134 t133) ∧ Aside0 (Below w.heap.size w wc))
  case first =>
    have H := HC4.out
    clear HC4
    by_cases c6 : (t133.length : Int) < 2
    · rw [if_pos c6] at H
      have c6b0 : decide ((t133.length : Int) < 2) = true := decide_eq_true c6
      have c6b1 : decide (t133.length < 2) = true := decide_eq_true (by omega)
      clear c6
      (first | rw [c6b0] | (simp only [i64_w, i32_w]; rw [c6b0]) | skip)
      have H' := Aside0.mk H
      clear H
      obtain ⟨Ao7, co7, eo7⟩ := Kd.R_slice HO135.out
      subst eo7
      go_wp2
      repeat (go_quiet (fail); try go_wp2)
      go_meet
      case rel => exact ⟨_, (true), (by first | rfl | (simp; done) | (simp [*]; done)), H', ⟨by first | omega | exact Nat.le_refl _⟩, ⟨by (with_reducible repeat (first | apply Kd.R_alloc | apply Kd.R_drewN | apply Kd.R_drew)); exact HO135.out⟩, ⟨by repeat (first | (with_reducible first | exact HB.out | apply below_alloc | apply pw_below_drewN | apply below_drew1) | exact HB.out)⟩⟩
    · rw [if_neg c6] at H
      have c6b0 : decide ((t133.length : Int) < 2) = false := decide_eq_false c6
      have c6b1 : decide (t133.length < 2) = false := decide_eq_false (by omega)
      clear c6
      (first | rw [c6b0] | (simp only [i64_w, i32_w]; rw [c6b0]) | skip)
      by_cases c8 : (t133.length : Int) > 3
      · rw [if_pos c8] at H
        have c8b0 : decide (3 < (t133.length : Int)) = true := decide_eq_true c8
        have c8b1 : decide (3 < t133.length) = true := decide_eq_true (by omega)
        clear c8
        have H' := Aside0.mk H
        clear H
        obtain ⟨Ao9, co9, eo9⟩ := Kd.R_slice HO135.out
        subst eo9
        go_wp2
        repeat (go_quiet (fail); try go_wp2)
        go_meet
        case rel => exact ⟨_, (true), (by first | rfl | (simp; done) | (simp [*]; done)), H', ⟨by first | omega | exact Nat.le_refl _⟩, ⟨by (with_reducible repeat (first | apply Kd.R_alloc | apply Kd.R_drewN | apply Kd.R_drew)); exact HO135.out⟩, ⟨by repeat (first | (with_reducible first | exact HB.out | apply below_alloc | apply pw_below_drewN | apply below_drew1) | exact HB.out)⟩⟩
      · rw [if_neg c8] at H
        have c8b0 : decide (3 < (t133.length : Int)) = false := decide_eq_false c8
        have c8b1 : decide (3 < t133.length) = false := decide_eq_false (by omega)
        clear c8
        by_cases c10 : 0 < (t133.length : Int)
        · rw [if_pos c10] at H
          have c10b0 : decide (0 < (t133.length : Int)) = true := decide_eq_true c10
          have c10b1 : decide (0 < t133.length) = true := decide_eq_true (by omega)
          clear c10
          replace H := Option.bind_eq_some_iff.mp H
          obtain ⟨t137, A110, H⟩ := H
          replace H : (if t137 = 1 then (if 1 < (t133.length : Int) then ((hangul_Kind.f k (rd t133 1)).bind fun t139 => (if t139 = 2 then ((hangul_Kind.f k (wrap32 (wrap64 (44032 + t132)))).bind fun t140 => (orthoepylaw06_HangulBack.j0 k (wrap32 (wrap64 (44032 + t132))) t133 (((t133.length : Int) == 3) != (t140 == 5)))) else (orthoepylaw06_HangulBack.j0 k (wrap32 (wrap64 (44032 + t132))) t133 true))) else (none)) else (orthoepylaw06_HangulBack.j0 k (wrap32 (wrap64 (44032 + t132))) t133 true)) = some r := H
          have A11 := Aside0.mk A110
          clear A110
          by_cases c12 : t137 = 1
          · rw [if_pos c12] at H
            have c12b0 : (t137 == 1) = true := beq_iff_eq.mpr c12
            have c12b1 : (t137 != 1) = false := bne_eq_false_iff_eq.mpr c12
            clear c12
            by_cases c13 : 1 < (t133.length : Int)
            · rw [if_pos c13] at H
              have c13b0 : decide (1 < (t133.length : Int)) = true := decide_eq_true c13
              have c13b1 : decide (1 < t133.length) = true := decide_eq_true (by omega)
              clear c13
              replace H := Option.bind_eq_some_iff.mp H
              obtain ⟨t139, A140, H⟩ := H
              replace H : (if t139 = 2 then ((hangul_Kind.f k (wrap32 (wrap64 (44032 + t132)))).bind fun t140 => (orthoepylaw06_HangulBack.j0 k (wrap32 (wrap64 (44032 + t132))) t133 (((t133.length : Int) == 3) != (t140 == 5)))) else (orthoepylaw06_HangulBack.j0 k (wrap32 (wrap64 (44032 + t132))) t133 true)) = some r := H
              have A14 := Aside0.mk A140
              clear A140
              by_cases c15 : t139 = 2
              · rw [if_pos c15] at H
                have c15b0 : (t139 == 2) = true := beq_iff_eq.mpr c15
                have c15b1 : (t139 != 2) = false := bne_eq_false_iff_eq.mpr c15
                clear c15
                replace H := Option.bind_eq_some_iff.mp H
                obtain ⟨t140, A160, H⟩ := H
                replace H : (orthoepylaw06_HangulBack.j0 k (wrap32 (wrap64 (44032 + t132))) t133 (((t133.length : Int) == 3) != (t140 == 5))) = some r := H
                have A16 := Aside0.mk A160
                clear A160
                have H' := Aside0.mk H
                clear H
                obtain ⟨Ao17, co17, eo17⟩ := Kd.R_slice HO135.out
                subst eo17
                have p136 : 0 ≤ (0 : Int) := (by omega)
                have q136 : 0 < (t133.length : Int) := of_decide_eq_true (by first | (with_reducible assumption) | assumption)
                obtain ⟨ad136, e136, hx136_0⟩ := Kd.at_int (Kd.R_reads' HO135.out).2.2 0 p136 q136
                cases e136
                have qi136 : (0 < t133.length) = True := eq_true (by omega)
                (try rw [show ((0 : Int)).toNat = 0 from rfl] at hx136_0)
                (try rw [Addr.add_zero'] at hx136_0)
                replace p136 := eq_true p136
                replace q136 := eq_true q136
                go_wp2_with (first | (go_at_call 8; (with_reducible refine (hangul_Kind.calls k (rd t133 0) t137 _ A11.out).mono ?_); rintro e w' ⟨rfl, ⟨nd, rfl⟩⟩; (try first | exact ⟨rfl, _, World.drewN_drewN _ _ _⟩ | exact ⟨rfl, _, Eq.trans (World.drewN_drewN _ _ _) (congrArg (World.drewN _) (Nat.add_assoc _ _ _))⟩); have p138 : 0 ≤ (1 : Int) := (by omega); have q138 : 1 < (t133.length : Int) := of_decide_eq_true (by first | (with_reducible assumption) | assumption); obtain ⟨ad138, e138, hx138_0⟩ := Kd.at_int (Kd.R_reads' HO135.out).2.2 1 p138 q138; obtain rfl : ad136 = ad138 := (by injection e138); (try simp only [show (1 : Int).toNat = 1 from rfl, Nat.reduceMul, Nat.reduceEqDiff, Go.Addr.add, ↓reduceIte] at hx138_0); have qi138 : (1 < t133.length) = True := eq_true (by omega); (try rw [show ((1 : Int)).toNat = 1 from rfl] at hx138_0); replace p138 := eq_true p138; replace q138 := eq_true q138) | (go_at_call 8; (with_reducible refine (hangul_Kind.calls k (rd t133 1) t139 _ A14.out).mono ?_); rintro e w' ⟨rfl, ⟨nd, rfl⟩⟩; (try first | exact ⟨rfl, _, World.drewN_drewN _ _ _⟩ | exact ⟨rfl, _, Eq.trans (World.drewN_drewN _ _ _) (congrArg (World.drewN _) (Nat.add_assoc _ _ _))⟩)) | (go_at_call 8; (with_reducible refine (hangul_Kind.calls k (wrap32 (wrap64 (44032 + t132))) t140 _ A16.out).mono ?_); rintro e w' ⟨rfl, ⟨nd, rfl⟩⟩; (try first | exact ⟨rfl, _, World.drewN_drewN _ _ _⟩ | exact ⟨rfl, _, Eq.trans (World.drewN_drewN _ _ _) (congrArg (World.drewN _) (Nat.add_assoc _ _ _))⟩)))
                repeat (go_quiet (first | (go_at_call 8; (with_reducible refine (hangul_Kind.calls k (rd t133 0) t137 _ A11.out).mono ?_); rintro e w' ⟨rfl, ⟨nd, rfl⟩⟩; (try first | exact ⟨rfl, _, World.drewN_drewN _ _ _⟩ | exact ⟨rfl, _, Eq.trans (World.drewN_drewN _ _ _) (congrArg (World.drewN _) (Nat.add_assoc _ _ _))⟩); have p138 : 0 ≤ (1 : Int) := (by omega); have q138 : 1 < (t133.length : Int) := of_decide_eq_true (by first | (with_reducible assumption) | assumption); obtain ⟨ad138, e138, hx138_0⟩ := Kd.at_int (Kd.R_reads' HO135.out).2.2 1 p138 q138; obtain rfl : ad136 = ad138 := (by injection e138); (try simp only [show (1 : Int).toNat = 1 from rfl, Nat.reduceMul, Nat.reduceEqDiff, Go.Addr.add, ↓reduceIte] at hx138_0); have qi138 : (1 < t133.length) = True := eq_true (by omega); (try rw [show ((1 : Int)).toNat = 1 from rfl] at hx138_0); replace p138 := eq_true p138; replace q138 := eq_true q138) | (go_at_call 8; (with_reducible refine (hangul_Kind.calls k (rd t133 1) t139 _ A14.out).mono ?_); rintro e w' ⟨rfl, ⟨nd, rfl⟩⟩; (try first | exact ⟨rfl, _, World.drewN_drewN _ _ _⟩ | exact ⟨rfl, _, Eq.trans (World.drewN_drewN _ _ _) (congrArg (World.drewN _) (Nat.add_assoc _ _ _))⟩)) | (go_at_call 8; (with_reducible refine (hangul_Kind.calls k (wrap32 (wrap64 (44032 + t132))) t140 _ A16.out).mono ?_); rintro e w' ⟨rfl, ⟨nd, rfl⟩⟩; (try first | exact ⟨rfl, _, World.drewN_drewN _ _ _⟩ | exact ⟨rfl, _, Eq.trans (World.drewN_drewN _ _ _) (congrArg (World.drewN _) (Nat.add_assoc _ _ _))⟩))); try go_wp2_with (first | (go_at_call 8; (with_reducible refine (hangul_Kind.calls k (rd t133 0) t137 _ A11.out).mono ?_); rintro e w' ⟨rfl, ⟨nd, rfl⟩⟩; (try first | exact ⟨rfl, _, World.drewN_drewN _ _ _⟩ | exact ⟨rfl, _, Eq.trans (World.drewN_drewN _ _ _) (congrArg (World.drewN _) (Nat.add_assoc _ _ _))⟩); have p138 : 0 ≤ (1 : Int) := (by omega); have q138 : 1 < (t133.length : Int) := of_decide_eq_true (by first | (with_reducible assumption) | assumption); obtain ⟨ad138, e138, hx138_0⟩ := Kd.at_int (Kd.R_reads' HO135.out).2.2 1 p138 q138; obtain rfl : ad136 = ad138 := (by injection e138); (try simp only [show (1 : Int).toNat = 1 from rfl, Nat.reduceMul, Nat.reduceEqDiff, Go.Addr.add, ↓reduceIte] at hx138_0); have qi138 : (1 < t133.length) = True := eq_true (by omega); (try rw [show ((1 : Int)).toNat = 1 from rfl] at hx138_0); replace p138 := eq_true p138; replace q138 := eq_true q138) | (go_at_call 8; (with_reducible refine (hangul_Kind.calls k (rd t133 1) t139 _ A14.out).mono ?_); rintro e w' ⟨rfl, ⟨nd, rfl⟩⟩; (try first | exact ⟨rfl, _, World.drewN_drewN _ _ _⟩ | exact ⟨rfl, _, Eq.trans (World.drewN_drewN _ _ _) (congrArg (World.drewN _) (Nat.add_assoc _ _ _))⟩)) | (go_at_call 8; (with_reducible refine (hangul_Kind.calls k (wrap32 (wrap64 (44032 + t132))) t140 _ A16.out).mono ?_); rintro e w' ⟨rfl, ⟨nd, rfl⟩⟩; (try first | exact ⟨rfl, _, World.drewN_drewN _ _ _⟩ | exact ⟨rfl, _, Eq.trans (World.drewN_drewN _ _ _) (congrArg (World.drewN _) (Nat.add_assoc _ _ _))⟩))))
                go_meet
                case rel => exact ⟨_, ((((t133.length : Int) == 3) != (t140 == 5))), (by first | rfl | (simp; done) | (simp [*]; done)), H', ⟨by first | omega | exact Nat.le_refl _⟩, ⟨by (with_reducible repeat (first | apply Kd.R_alloc | apply Kd.R_drewN | apply Kd.R_drew)); exact HO135.out⟩, ⟨by repeat (first | (with_reducible first | exact HB.out | apply below_alloc | apply pw_below_drewN | apply below_drew1) | exact HB.out)⟩⟩
              · rw [if_neg c15] at H
                have c15b0 : (t139 == 2) = false := beq_eq_false_iff_ne.mpr c15
                have c15b1 : (t139 != 2) = true := bne_iff_ne.mpr c15
                have H' := Aside0.mk H
                clear H
                obtain ⟨Ao18, co18, eo18⟩ := Kd.R_slice HO135.out
                subst eo18
                have p136 : 0 ≤ (0 : Int) := (by omega)
                have q136 : 0 < (t133.length : Int) := of_decide_eq_true (by first | (with_reducible assumption) | assumption)
                obtain ⟨ad136, e136, hx136_0⟩ := Kd.at_int (Kd.R_reads' HO135.out).2.2 0 p136 q136
                cases e136
                have qi136 : (0 < t133.length) = True := eq_true (by omega)
                (try rw [show ((0 : Int)).toNat = 0 from rfl] at hx136_0)
                (try rw [Addr.add_zero'] at hx136_0)
                replace p136 := eq_true p136
                replace q136 := eq_true q136
                go_wp2_with (first | (go_at_call 8; (with_reducible refine (hangul_Kind.calls k (rd t133 0) t137 _ A11.out).mono ?_); rintro e w' ⟨rfl, ⟨nd, rfl⟩⟩; (try first | exact ⟨rfl, _, World.drewN_drewN _ _ _⟩ | exact ⟨rfl, _, Eq.trans (World.drewN_drewN _ _ _) (congrArg (World.drewN _) (Nat.add_assoc _ _ _))⟩); have p138 : 0 ≤ (1 : Int) := (by omega); have q138 : 1 < (t133.length : Int) := of_decide_eq_true (by first | (with_reducible assumption) | assumption); obtain ⟨ad138, e138, hx138_0⟩ := Kd.at_int (Kd.R_reads' HO135.out).2.2 1 p138 q138; obtain rfl : ad136 = ad138 := (by injection e138); (try simp only [show (1 : Int).toNat = 1 from rfl, Nat.reduceMul, Nat.reduceEqDiff, Go.Addr.add, ↓reduceIte] at hx138_0); have qi138 : (1 < t133.length) = True := eq_true (by omega); (try rw [show ((1 : Int)).toNat = 1 from rfl] at hx138_0); replace p138 := eq_true p138; replace q138 := eq_true q138) | (go_at_call 8; (with_reducible refine (hangul_Kind.calls k (rd t133 1) t139 _ A14.out).mono ?_); rintro e w' ⟨rfl, ⟨nd, rfl⟩⟩; (try first | exact ⟨rfl, _, World.drewN_drewN _ _ _⟩ | exact ⟨rfl, _, Eq.trans (World.drewN_drewN _ _ _) (congrArg (World.drewN _) (Nat.add_assoc _ _ _))⟩)))
                repeat (go_quiet (first | (go_at_call 8; (with_reducible refine (hangul_Kind.calls k (rd t133 0) t137 _ A11.out).mono ?_); rintro e w' ⟨rfl, ⟨nd, rfl⟩⟩; (try first | exact ⟨rfl, _, World.drewN_drewN _ _ _⟩ | exact ⟨rfl, _, Eq.trans (World.drewN_drewN _ _ _) (congrArg (World.drewN _) (Nat.add_assoc _ _ _))⟩); have p138 : 0 ≤ (1 : Int) := (by omega); have q138 : 1 < (t133.length : Int) := of_decide_eq_true (by first | (with_reducible assumption) | assumption); obtain ⟨ad138, e138, hx138_0⟩ := Kd.at_int (Kd.R_reads' HO135.out).2.2 1 p138 q138; obtain rfl : ad136 = ad138 := (by injection e138); (try simp only [show (1 : Int).toNat = 1 from rfl, Nat.reduceMul, Nat.reduceEqDiff, Go.Addr.add, ↓reduceIte] at hx138_0); have qi138 : (1 < t133.length) = True := eq_true (by omega); (try rw [show ((1 : Int)).toNat = 1 from rfl] at hx138_0); replace p138 := eq_true p138; replace q138 := eq_true q138) | (go_at_call 8; (with_reducible refine (hangul_Kind.calls k (rd t133 1) t139 _ A14.out).mono ?_); rintro e w' ⟨rfl, ⟨nd, rfl⟩⟩; (try first | exact ⟨rfl, _, World.drewN_drewN _ _ _⟩ | exact ⟨rfl, _, Eq.trans (World.drewN_drewN _ _ _) (congrArg (World.drewN _) (Nat.add_assoc _ _ _))⟩))); try go_wp2_with (first | (go_at_call 8; (with_reducible refine (hangul_Kind.calls k (rd t133 0) t137 _ A11.out).mono ?_); rintro e w' ⟨rfl, ⟨nd, rfl⟩⟩; (try first | exact ⟨rfl, _, World.drewN_drewN _ _ _⟩ | exact ⟨rfl, _, Eq.trans (World.drewN_drewN _ _ _) (congrArg (World.drewN _) (Nat.add_assoc _ _ _))⟩); have p138 : 0 ≤ (1 : Int) := (by omega); have q138 : 1 < (t133.length : Int) := of_decide_eq_true (by first | (with_reducible assumption) | assumption); obtain ⟨ad138, e138, hx138_0⟩ := Kd.at_int (Kd.R_reads' HO135.out).2.2 1 p138 q138; obtain rfl : ad136 = ad138 := (by injection e138); (try simp only [show (1 : Int).toNat = 1 from rfl, Nat.reduceMul, Nat.reduceEqDiff, Go.Addr.add, ↓reduceIte] at hx138_0); have qi138 : (1 < t133.length) = True := eq_true (by omega); (try rw [show ((1 : Int)).toNat = 1 from rfl] at hx138_0); replace p138 := eq_true p138; replace q138 := eq_true q138) | (go_at_call 8; (with_reducible refine (hangul_Kind.calls k (rd t133 1) t139 _ A14.out).mono ?_); rintro e w' ⟨rfl, ⟨nd, rfl⟩⟩; (try first | exact ⟨rfl, _, World.drewN_drewN _ _ _⟩ | exact ⟨rfl, _, Eq.trans (World.drewN_drewN _ _ _) (congrArg (World.drewN _) (Nat.add_assoc _ _ _))⟩))))
                go_meet
                case rel => exact ⟨_, (true), (by first | rfl | (simp; done) | (simp [*]; done)), H', ⟨by first | omega | exact Nat.le_refl _⟩, ⟨by (with_reducible repeat (first | apply Kd.R_alloc | apply Kd.R_drewN | apply Kd.R_drew)); exact HO135.out⟩, ⟨by repeat (first | (with_reducible first | exact HB.out | apply below_alloc | apply pw_below_drewN | apply below_drew1) | exact HB.out)⟩⟩
            · rw [if_neg c13] at H
              exact absurd H (by simp)
          · rw [if_neg c12] at H
            have c12b0 : (t137 == 1) = false := beq_eq_false_iff_ne.mpr c12
            have c12b1 : (t137 != 1) = true := bne_iff_ne.mpr c12
            have H' := Aside0.mk H
            clear H
            obtain ⟨Ao19, co19, eo19⟩ := Kd.R_slice HO135.out
            subst eo19
            have p136 : 0 ≤ (0 : Int) := (by omega)
            have q136 : 0 < (t133.length : Int) := of_decide_eq_true (by first | (with_reducible assumption) | assumption)
            obtain ⟨ad136, e136, hx136_0⟩ := Kd.at_int (Kd.R_reads' HO135.out).2.2 0 p136 q136
            cases e136
            have qi136 : (0 < t133.length) = True := eq_true (by omega)
            (try rw [show ((0 : Int)).toNat = 0 from rfl] at hx136_0)
            (try rw [Addr.add_zero'] at hx136_0)
            replace p136 := eq_true p136
            replace q136 := eq_true q136
            go_wp2_with (first | (go_at_call 8; (with_reducible refine (hangul_Kind.calls k (rd t133 0) t137 _ A11.out).mono ?_); rintro e w' ⟨rfl, ⟨nd, rfl⟩⟩; (try first | exact ⟨rfl, _, World.drewN_drewN _ _ _⟩ | exact ⟨rfl, _, Eq.trans (World.drewN_drewN _ _ _) (congrArg (World.drewN _) (Nat.add_assoc _ _ _))⟩)))
            repeat (go_quiet (first | (go_at_call 8; (with_reducible refine (hangul_Kind.calls k (rd t133 0) t137 _ A11.out).mono ?_); rintro e w' ⟨rfl, ⟨nd, rfl⟩⟩; (try first | exact ⟨rfl, _, World.drewN_drewN _ _ _⟩ | exact ⟨rfl, _, Eq.trans (World.drewN_drewN _ _ _) (congrArg (World.drewN _) (Nat.add_assoc _ _ _))⟩))); try go_wp2_with (first | (go_at_call 8; (with_reducible refine (hangul_Kind.calls k (rd t133 0) t137 _ A11.out).mono ?_); rintro e w' ⟨rfl, ⟨nd, rfl⟩⟩; (try first | exact ⟨rfl, _, World.drewN_drewN _ _ _⟩ | exact ⟨rfl, _, Eq.trans (World.drewN_drewN _ _ _) (congrArg (World.drewN _) (Nat.add_assoc _ _ _))⟩))))
            go_meet
            case rel => exact ⟨_, (true), (by first | rfl | (simp; done) | (simp [*]; done)), H', ⟨by first | omega | exact Nat.le_refl _⟩, ⟨by (with_reducible repeat (first | apply Kd.R_alloc | apply Kd.R_drewN | apply Kd.R_drew)); exact HO135.out⟩, ⟨by repeat (first | (with_reducible first | exact HB.out | apply below_alloc | apply pw_below_drewN | apply below_drew1) | exact HB.out)⟩⟩
        · rw [if_neg c10] at H
          exact absurd H (by simp)
  case rest =>
    clear HC4
    try clear c1
    try clear p1
    try clear q1
    try clear hx1
    try clear qi1
    try clear p2
    try clear p3
    try clear c4
    try clear c6
    try clear c6b0
    try clear c6b1
    try clear p6
    try clear c8
    try clear c8b0
    try clear c8b1
    try clear c10
    try clear c10b0
    try clear c10b1
    try clear c12
    try clear c12b0
    try clear c12b1
    try clear c13
    try clear c13b0
    try clear c13b1
    try clear p13
    try clear q13
    try clear hx13
    try clear qi13
    try clear c15
    try clear c15b0
    try clear c15b1
    try clear hx136_0
    try clear hx138_0
    try clear p136
    try clear p138
    try clear q136
    try clear q138
    obtain ⟨kq, x43_3, rfl, HA, HJ3, HO_4, HB⟩ := hcut
    cases kq with
    | zero => exact absurd HA.out (by simp [orthoepylaw06_HangulBack.j0])
    | succ kj3 =>
      have H := HA.out
      clear HA
      simp only [orthoepylaw06_HangulBack.j0] at H
      by_cases c20 : x43_3 = true
      · subst c20
        have H1 : (some false) = some r := by rw [if_pos rfl] at H; exact H
        clear H
        have H := H1
        clear H1
        obtain rfl := Option.some.inj H
        go_wp2
        repeat (go_quiet (fail); try go_wp2)
        go_ret
        exact ⟨by first | rfl | (simp [errW_none, errW_some] <;> rfl) | (simp [*, errW_none, errW_some] <;> rfl), by repeat (first | (with_reducible first | exact HB.out | apply below_alloc | apply pw_below_drewN | apply below_drew1) | exact HB.out)⟩
      · replace c20 := Bool.eq_false_iff.mpr c20
        subst c20
        have H1 : (if 0 < (t133.length : Int) then (if 1 < (t133.length : Int) then ((hangul_Join.f kj3 (rd t133 0) (rd t133 1)).bind fun bt143 => (if (t133.length : Int) = 3 then (orthoepylaw06_HangulBack.j1 kj3 (wrap32 (wrap64 (44032 + t132))) t133 bt143.1 bt143.2 bt143.2) else (orthoepylaw06_HangulBack.j1 kj3 (wrap32 (wrap64 (44032 + t132))) t133 bt143.1 bt143.2 false))) else (none)) else (none)) = some r := by rw [if_neg (show ¬ (false = true) by decide)] at H; exact H
        clear H
        have H := H1
        clear H1
        by_cases c21 : 0 < (t133.length : Int)
        · rw [if_pos c21] at H
          have c21b0 : decide (0 < (t133.length : Int)) = true := decide_eq_true c21
          have c21b1 : decide (0 < t133.length) = true := decide_eq_true (by omega)
          clear c21
          by_cases c22 : 1 < (t133.length : Int)
          · rw [if_pos c22] at H
            have c22b0 : decide (1 < (t133.length : Int)) = true := decide_eq_true c22
            have c22b1 : decide (1 < t133.length) = true := decide_eq_true (by omega)
            clear c22
            replace H := Option.bind_eq_some_iff.mp H
            obtain ⟨⟨t143, t144⟩, A230, H⟩ := H
            replace H : (if (t133.length : Int) = 3 then (orthoepylaw06_HangulBack.j1 kj3 (wrap32 (wrap64 (44032 + t132))) t133 t143 t144 t144) else (orthoepylaw06_HangulBack.j1 kj3 (wrap32 (wrap64 (44032 + t132))) t133 t143 t144 false)) = some r := H
            have A23 := Aside0.mk A230
            clear A230
            have HC24 := Aside0.mk H
            clear H
            obtain ⟨Ao25, co25, eo25⟩ := Kd.R_slice HO_4.out
            subst eo25
            have p141 : 0 ≤ (0 : Int) := (by omega)
            have q141 : 0 < (t133.length : Int) := of_decide_eq_true (by first | (with_reducible assumption) | assumption)
            obtain ⟨ad141, e141, hx141_0⟩ := Kd.at_int (Kd.R_reads' HO_4.out).2.2 0 p141 q141
            cases e141
            have qi141 : (0 < t133.length) = True := eq_true (by omega)
            (try rw [show ((0 : Int)).toNat = 0 from rfl] at hx141_0)
            (try rw [Addr.add_zero'] at hx141_0)
            replace p141 := eq_true p141
            replace q141 := eq_true q141
            have p142 : 0 ≤ (1 : Int) := (by omega)
            have q142 : 1 < (t133.length : Int) := of_decide_eq_true (by first | (with_reducible assumption) | assumption)
            obtain ⟨ad142, e142, hx142_0⟩ := Kd.at_int (Kd.R_reads' HO_4.out).2.2 1 p142 q142
            obtain rfl : ad141 = ad142 := (by injection e142)
            (try simp only [show (1 : Int).toNat = 1 from rfl, Nat.reduceMul, Nat.reduceEqDiff, Go.Addr.add, ↓reduceIte] at hx142_0)
            have qi142 : (1 < t133.length) = True := eq_true (by omega)
            (try rw [show ((1 : Int)).toNat = 1 from rfl] at hx142_0)
            replace p142 := eq_true p142
            replace q142 := eq_true q142
            go_upto_region 6 with (first | (go_at_call 6; (with_reducible refine (hangul_Join.calls kj3 (rd t133 0) (rd t133 1) t143 t144 _ A23.out).mono ?_); rintro e w' ⟨rfl, ⟨nd, rfl⟩⟩; (try first | exact ⟨rfl, _, World.drewN_drewN _ _ _⟩ | exact ⟨rfl, _, Eq.trans (World.drewN_drewN _ _ _) (congrArg (World.drewN _) (Nat.add_assoc _ _ _))⟩)))
            repeat (go_quiet (first | (go_at_call 6; (with_reducible refine (hangul_Join.calls kj3 (rd t133 0) (rd t133 1) t143 t144 _ A23.out).mono ?_); rintro e w' ⟨rfl, ⟨nd, rfl⟩⟩; (try first | exact ⟨rfl, _, World.drewN_drewN _ _ _⟩ | exact ⟨rfl, _, Eq.trans (World.drewN_drewN _ _ _) (congrArg (World.drewN _) (Nat.add_assoc _ _ _))⟩))); go_upto_region 6 with (first | (go_at_call 6; (with_reducible refine (hangul_Join.calls kj3 (rd t133 0) (rd t133 1) t143 t144 _ A23.out).mono ?_); rintro e w' ⟨rfl, ⟨nd, rfl⟩⟩; (try first | exact ⟨rfl, _, World.drewN_drewN _ _ _⟩ | exact ⟨rfl, _, Eq.trans (World.drewN_drewN _ _ _) (congrArg (World.drewN _) (Nat.add_assoc _ _ _))⟩))))
            (try simp only [Act.put, List.setIfInBounds_toArray, List.set_cons_zero, List.set_cons_succ])
            go_cut [59] (fun v59 wc => ∃ (kq : Nat) (x59_23 : Bool), v59 = .bool x59_23 ∧ Aside0 (orthoepylaw06_HangulBack.j1 kq (wrap32 (wrap64 (44032 + t132))) t133 t143 t144 x59_23 = some r) ∧ Aside0 (kq ≤ kj3) ∧ Aside0 (Kd.R (Kd.int .i32) 21 wc w.heap.size (fun _ => True) (.slice (some ad141) t133.length co25) t133) ∧ Aside0 (Below w.heap.size w wc))
            case first =>
              have H := HC24.out
              clear HC24
              by_cases c26 : (t133.length : Int) = 3
              · rw [if_pos c26] at H
                have c26b0 : ((t133.length : Int) == 3) = true := beq_iff_eq.mpr c26
                have c26b1 : ((t133.length : Int) != 3) = false := bne_eq_false_iff_eq.mpr c26
                clear c26
                (first | rw [c26b0] | (simp only [i64_w, i32_w]; rw [c26b0]) | skip)
                have H' := Aside0.mk H
                clear H
                go_wp2
                repeat (go_quiet (fail); try go_wp2)
                go_meet
                case rel => exact ⟨_, (t144), (by first | rfl | (simp; done) | (simp [*]; done)), H', ⟨by have := HJ3.out; first | omega | exact Nat.le_refl _⟩, ⟨by (with_reducible repeat (first | apply Kd.R_alloc | apply Kd.R_drewN | apply Kd.R_drew)); exact HO_4.out⟩, ⟨by repeat (first | (with_reducible first | exact HB.out | apply below_alloc | apply pw_below_drewN | apply below_drew1) | exact HB.out)⟩⟩
              · rw [if_neg c26] at H
                have c26b0 : ((t133.length : Int) == 3) = false := beq_eq_false_iff_ne.mpr c26
                have c26b1 : ((t133.length : Int) != 3) = true := bne_iff_ne.mpr c26
                (first | rw [c26b0] | (simp only [i64_w, i32_w]; rw [c26b0]) | skip)
                have H' := Aside0.mk H
                clear H
                go_wp2
                repeat (go_quiet (fail); try go_wp2)
                go_meet
                case rel => exact ⟨_, (false), (by first | rfl | (simp; done) | (simp [*]; done)), H', ⟨by have := HJ3.out; first | omega | exact Nat.le_refl _⟩, ⟨by (with_reducible repeat (first | apply Kd.R_alloc | apply Kd.R_drewN | apply Kd.R_drew)); exact HO_4.out⟩, ⟨by repeat (first | (with_reducible first | exact HB.out | apply below_alloc | apply pw_below_drewN | apply below_drew1) | exact HB.out)⟩⟩
            case rest =>
              clear HC24
              try clear c1
              try clear p1
              try clear q1
              try clear hx1
              try clear qi1
              try clear c2
              try clear p2
              try clear p3
              try clear c4
              try clear c6
              try clear c6b0
              try clear c6b1
              try clear p6
              try clear c8
              try clear c8b0
              try clear c8b1
              try clear c10
              try clear c10b0
              try clear c10b1
              try clear c12
              try clear c12b0
              try clear c12b1
              try clear c13
              try clear c13b0
              try clear c13b1
              try clear p13
              try clear q13
              try clear hx13
              try clear qi13
              try clear p14
              try clear q14
              try clear hx14
              try clear qi14
              try clear c15
              try clear c15b0
              try clear c15b1
              try clear c20
              try clear c21
              try clear c21b0
              try clear c21b1
              try clear c22
              try clear c22b0
              try clear c22b1
              try clear c26
              try clear c26b0
              try clear c26b1
              try clear hx136_0
              try clear hx138_0
              try clear hx141_0
              try clear hx142_0
              try clear p1
              try clear p13
              try clear p136
              try clear p138
              try clear p141
              try clear p142
              try clear p2
              try clear p3
              try clear p6
              try clear q1
              try clear q13
              try clear q136
              try clear q138
              try clear q141
              try clear q142
              obtain ⟨kq, x59_23, rfl, HA, HJ23, HO_4, HB⟩ := hcut
              cases kq with
              | zero => exact absurd HA.out (by simp [orthoepylaw06_HangulBack.j1])
              | succ kj23 =>
                have H := HA.out
                clear HA
                simp only [orthoepylaw06_HangulBack.j1] at H
                by_cases c27 : x59_23 = true
                · subst c27
                  have H1 : (if 2 < (t133.length : Int) then ((hangul_Join.f kj23 t143 (rd t133 2)).bind fun bt146 => (if bt146.2 = true then ((hangul_Kind.f kj23 (rd t133 2)).bind fun t149 => (if t149 = 3 then (if bt146.1 = (wrap32 (wrap64 (44032 + t132))) then ((orthoepylaw06_awake.f kj23).bind fun t150 => (some t150)) else (some false)) else (some false))) else (some false))) else (none)) = some r := by rw [if_pos rfl] at H; exact H
                  clear H
                  have H := H1
                  clear H1
                  by_cases c28 : 2 < (t133.length : Int)
                  · rw [if_pos c28] at H
                    have c28b0 : decide (2 < (t133.length : Int)) = true := decide_eq_true c28
                    have c28b1 : decide (2 < t133.length) = true := decide_eq_true (by omega)
                    clear c28
                    replace H := Option.bind_eq_some_iff.mp H
                    obtain ⟨⟨t146, t147⟩, A290, H⟩ := H
                    replace H : (if t147 = true then ((hangul_Kind.f kj23 (rd t133 2)).bind fun t149 => (if t149 = 3 then (if t146 = (wrap32 (wrap64 (44032 + t132))) then ((orthoepylaw06_awake.f kj23).bind fun t150 => (some t150)) else (some false)) else (some false))) else (some false)) = some r := H
                    have A29 := Aside0.mk A290
                    clear A290
                    by_cases c30 : t147 = true
                    · subst c30
                      have H1 : ((hangul_Kind.f kj23 (rd t133 2)).bind fun t149 => (if t149 = 3 then (if t146 = (wrap32 (wrap64 (44032 + t132))) then ((orthoepylaw06_awake.f kj23).bind fun t150 => (some t150)) else (some false)) else (some false))) = some r := by rw [if_pos rfl] at H; exact H
                      clear H
                      have H := H1
                      clear H1
                      replace H := Option.bind_eq_some_iff.mp H
                      obtain ⟨t149, A310, H⟩ := H
                      replace H : (if t149 = 3 then (if t146 = (wrap32 (wrap64 (44032 + t132))) then ((orthoepylaw06_awake.f kj23).bind fun t150 => (some t150)) else (some false)) else (some false)) = some r := H
                      have A31 := Aside0.mk A310
                      clear A310
                      by_cases c32 : t149 = 3
                      · rw [if_pos c32] at H
                        have c32b0 : (t149 == 3) = true := beq_iff_eq.mpr c32
                        have c32b1 : (t149 != 3) = false := bne_eq_false_iff_eq.mpr c32
                        clear c32
                        by_cases c33 : t146 = (wrap32 (wrap64 (44032 + t132)))
                        · rw [if_pos c33] at H
                          have c33b0 : (t146 == (wrap32 (wrap64 (44032 + t132)))) = true := beq_iff_eq.mpr c33
                          have c33b1 : (t146 != (wrap32 (wrap64 (44032 + t132)))) = false := bne_eq_false_iff_eq.mpr c33
                          clear c33
                          replace H := Option.bind_eq_some_iff.mp H
                          obtain ⟨t150, A340, H⟩ := H
                          replace H : (some t150) = some r := H
                          have A34 := Aside0.mk A340
                          clear A340
                          obtain rfl := Option.some.inj H
                          have p145 : 0 ≤ (2 : Int) := (by omega)
                          have q145 : 2 < (t133.length : Int) := of_decide_eq_true (by first | (with_reducible assumption) | assumption)
                          obtain ⟨ad145, e145, hx145_0⟩ := Kd.at_int (Kd.R_reads' HO_4.out).2.2 2 p145 q145
                          obtain rfl : ad141 = ad145 := (by injection e145)
                          (try simp only [show (2 : Int).toNat = 2 from rfl, Nat.reduceMul, Nat.reduceEqDiff, Go.Addr.add, ↓reduceIte] at hx145_0)
                          have qi145 : (2 < t133.length) = True := eq_true (by omega)
                          (try rw [show ((2 : Int)).toNat = 2 from rfl] at hx145_0)
                          replace p145 := eq_true p145
                          replace q145 := eq_true q145
                          go_wp2_with (first | (go_at_call 6; (with_reducible refine (hangul_Join.calls kj23 t143 (rd t133 2) t146 true _ A29.out).mono ?_); rintro e w' ⟨rfl, ⟨nd, rfl⟩⟩; (try first | exact ⟨rfl, _, World.drewN_drewN _ _ _⟩ | exact ⟨rfl, _, Eq.trans (World.drewN_drewN _ _ _) (congrArg (World.drewN _) (Nat.add_assoc _ _ _))⟩); have p148 : 0 ≤ (2 : Int) := (by omega); have q148 : 2 < (t133.length : Int) := of_decide_eq_true (by first | (with_reducible assumption) | assumption); obtain ⟨ad148, e148, hx148_0⟩ := Kd.at_int (Kd.R_reads' HO_4.out).2.2 2 p148 q148; obtain rfl : ad141 = ad148 := (by injection e148); (try simp only [show (2 : Int).toNat = 2 from rfl, Nat.reduceMul, Nat.reduceEqDiff, Go.Addr.add, ↓reduceIte] at hx148_0); have qi148 : (2 < t133.length) = True := eq_true (by omega); (try rw [show ((2 : Int)).toNat = 2 from rfl] at hx148_0); replace p148 := eq_true p148; replace q148 := eq_true q148) | (go_at_call 8; (with_reducible refine (hangul_Kind.calls kj23 (rd t133 2) t149 _ A31.out).mono ?_); rintro e w' ⟨rfl, ⟨nd, rfl⟩⟩; (try first | exact ⟨rfl, _, World.drewN_drewN _ _ _⟩ | exact ⟨rfl, _, Eq.trans (World.drewN_drewN _ _ _) (congrArg (World.drewN _) (Nat.add_assoc _ _ _))⟩)) | (go_at_call 13; (with_reducible refine (orthoepylaw06_awake.calls kj23  t150 _ A34.out).mono ?_); rintro e w35 ⟨rfl, hb⟩; have n0_ := Aside0.mk (Kd.R_below (by (with_reducible repeat (first | apply Kd.R_alloc | apply Kd.R_drewN | apply Kd.R_drew)); exact HO_4.out) hb); have n1_ := Aside0.mk (below_step (by repeat (first | (with_reducible first | exact HB.out | apply below_alloc | apply pw_below_drewN | apply below_drew1) | exact HB.out)) hb); clear HO_4; clear HB; have HO_4 := n0_; have HB := n1_; clear n0_ n1_; (try clear hb); (try clear hb2); (try clear hk); (try clear hi)))
                          repeat (go_quiet (first | (go_at_call 6; (with_reducible refine (hangul_Join.calls kj23 t143 (rd t133 2) t146 true _ A29.out).mono ?_); rintro e w' ⟨rfl, ⟨nd, rfl⟩⟩; (try first | exact ⟨rfl, _, World.drewN_drewN _ _ _⟩ | exact ⟨rfl, _, Eq.trans (World.drewN_drewN _ _ _) (congrArg (World.drewN _) (Nat.add_assoc _ _ _))⟩); have p148 : 0 ≤ (2 : Int) := (by omega); have q148 : 2 < (t133.length : Int) := of_decide_eq_true (by first | (with_reducible assumption) | assumption); obtain ⟨ad148, e148, hx148_0⟩ := Kd.at_int (Kd.R_reads' HO_4.out).2.2 2 p148 q148; obtain rfl : ad141 = ad148 := (by injection e148); (try simp only [show (2 : Int).toNat = 2 from rfl, Nat.reduceMul, Nat.reduceEqDiff, Go.Addr.add, ↓reduceIte] at hx148_0); have qi148 : (2 < t133.length) = True := eq_true (by omega); (try rw [show ((2 : Int)).toNat = 2 from rfl] at hx148_0); replace p148 := eq_true p148; replace q148 := eq_true q148) | (go_at_call 8; (with_reducible refine (hangul_Kind.calls kj23 (rd t133 2) t149 _ A31.out).mono ?_); rintro e w' ⟨rfl, ⟨nd, rfl⟩⟩; (try first | exact ⟨rfl, _, World.drewN_drewN _ _ _⟩ | exact ⟨rfl, _, Eq.trans (World.drewN_drewN _ _ _) (congrArg (World.drewN _) (Nat.add_assoc _ _ _))⟩)) | (go_at_call 13; (with_reducible refine (orthoepylaw06_awake.calls kj23  t150 _ A34.out).mono ?_); rintro e w35 ⟨rfl, hb⟩; have n0_ := Aside0.mk (Kd.R_below (by (with_reducible repeat (first | apply Kd.R_alloc | apply Kd.R_drewN | apply Kd.R_drew)); exact HO_4.out) hb); have n1_ := Aside0.mk (below_step (by repeat (first | (with_reducible first | exact HB.out | apply below_alloc | apply pw_below_drewN | apply below_drew1) | exact HB.out)) hb); clear HO_4; clear HB; have HO_4 := n0_; have HB := n1_; clear n0_ n1_; (try clear hb); (try clear hb2); (try clear hk); (try clear hi))); try go_wp2_with (first | (go_at_call 6; (with_reducible refine (hangul_Join.calls kj23 t143 (rd t133 2) t146 true _ A29.out).mono ?_); rintro e w' ⟨rfl, ⟨nd, rfl⟩⟩; (try first | exact ⟨rfl, _, World.drewN_drewN _ _ _⟩ | exact ⟨rfl, _, Eq.trans (World.drewN_drewN _ _ _) (congrArg (World.drewN _) (Nat.add_assoc _ _ _))⟩); have p148 : 0 ≤ (2 : Int) := (by omega); have q148 : 2 < (t133.length : Int) := of_decide_eq_true (by first | (with_reducible assumption) | assumption); obtain ⟨ad148, e148, hx148_0⟩ := Kd.at_int (Kd.R_reads' HO_4.out).2.2 2 p148 q148; obtain rfl : ad141 = ad148 := (by injection e148); (try simp only [show (2 : Int).toNat = 2 from rfl, Nat.reduceMul, Nat.reduceEqDiff, Go.Addr.add, ↓reduceIte] at hx148_0); have qi148 : (2 < t133.length) = True := eq_true (by omega); (try rw [show ((2 : Int)).toNat = 2 from rfl] at hx148_0); replace p148 := eq_true p148; replace q148 := eq_true q148) | (go_at_call 8; (with_reducible refine (hangul_Kind.calls kj23 (rd t133 2) t149 _ A31.out).mono ?_); rintro e w' ⟨rfl, ⟨nd, rfl⟩⟩; (try first | exact ⟨rfl, _, World.drewN_drewN _ _ _⟩ | exact ⟨rfl, _, Eq.trans (World.drewN_drewN _ _ _) (congrArg (World.drewN _) (Nat.add_assoc _ _ _))⟩)) | (go_at_call 13; (with_reducible refine (orthoepylaw06_awake.calls kj23  t150 _ A34.out).mono ?_); rintro e w35 ⟨rfl, hb⟩; have n0_ := Aside0.mk (Kd.R_below (by (with_reducible repeat (first | apply Kd.R_alloc | apply Kd.R_drewN | apply Kd.R_drew)); exact HO_4.out) hb); have n1_ := Aside0.mk (below_step (by repeat (first | (with_reducible first | exact HB.out | apply below_alloc | apply pw_below_drewN | apply below_drew1) | exact HB.out)) hb); clear HO_4; clear HB; have HO_4 := n0_; have HB := n1_; clear n0_ n1_; (try clear hb); (try clear hb2); (try clear hk); (try clear hi))))
                          go_ret
                          exact ⟨by first | rfl | (simp [errW_none, errW_some] <;> rfl) | (simp [*, errW_none, errW_some] <;> rfl), by repeat (first | (with_reducible first | exact HB.out | apply below_alloc | apply pw_below_drewN | apply below_drew1) | exact HB.out)⟩
                        · rw [if_neg c33] at H
                          have c33b0 : (t146 == (wrap32 (wrap64 (44032 + t132)))) = false := beq_eq_false_iff_ne.mpr c33
                          have c33b1 : (t146 != (wrap32 (wrap64 (44032 + t132)))) = true := bne_iff_ne.mpr c33
                          obtain rfl := Option.some.inj H
                          have p145 : 0 ≤ (2 : Int) := (by omega)
                          have q145 : 2 < (t133.length : Int) := of_decide_eq_true (by first | (with_reducible assumption) | assumption)
                          obtain ⟨ad145, e145, hx145_0⟩ := Kd.at_int (Kd.R_reads' HO_4.out).2.2 2 p145 q145
                          obtain rfl : ad141 = ad145 := (by injection e145)
                          (try simp only [show (2 : Int).toNat = 2 from rfl, Nat.reduceMul, Nat.reduceEqDiff, Go.Addr.add, ↓reduceIte] at hx145_0)
                          have qi145 : (2 < t133.length) = True := eq_true (by omega)
                          (try rw [show ((2 : Int)).toNat = 2 from rfl] at hx145_0)
                          replace p145 := eq_true p145
                          replace q145 := eq_true q145
                          go_wp2_with (first | (go_at_call 6; (with_reducible refine (hangul_Join.calls kj23 t143 (rd t133 2) t146 true _ A29.out).mono ?_); rintro e w' ⟨rfl, ⟨nd, rfl⟩⟩; (try first | exact ⟨rfl, _, World.drewN_drewN _ _ _⟩ | exact ⟨rfl, _, Eq.trans (World.drewN_drewN _ _ _) (congrArg (World.drewN _) (Nat.add_assoc _ _ _))⟩); have p148 : 0 ≤ (2 : Int) := (by omega); have q148 : 2 < (t133.length : Int) := of_decide_eq_true (by first | (with_reducible assumption) | assumption); obtain ⟨ad148, e148, hx148_0⟩ := Kd.at_int (Kd.R_reads' HO_4.out).2.2 2 p148 q148; obtain rfl : ad141 = ad148 := (by injection e148); (try simp only [show (2 : Int).toNat = 2 from rfl, Nat.reduceMul, Nat.reduceEqDiff, Go.Addr.add, ↓reduceIte] at hx148_0); have qi148 : (2 < t133.length) = True := eq_true (by omega); (try rw [show ((2 : Int)).toNat = 2 from rfl] at hx148_0); replace p148 := eq_true p148; replace q148 := eq_true q148) | (go_at_call 8; (with_reducible refine (hangul_Kind.calls kj23 (rd t133 2) t149 _ A31.out).mono ?_); rintro e w' ⟨rfl, ⟨nd, rfl⟩⟩; (try first | exact ⟨rfl, _, World.drewN_drewN _ _ _⟩ | exact ⟨rfl, _, Eq.trans (World.drewN_drewN _ _ _) (congrArg (World.drewN _) (Nat.add_assoc _ _ _))⟩)))
                          repeat (go_quiet (first | (go_at_call 6; (with_reducible refine (hangul_Join.calls kj23 t143 (rd t133 2) t146 true _ A29.out).mono ?_); rintro e w' ⟨rfl, ⟨nd, rfl⟩⟩; (try first | exact ⟨rfl, _, World.drewN_drewN _ _ _⟩ | exact ⟨rfl, _, Eq.trans (World.drewN_drewN _ _ _) (congrArg (World.drewN _) (Nat.add_assoc _ _ _))⟩); have p148 : 0 ≤ (2 : Int) := (by omega); have q148 : 2 < (t133.length : Int) := of_decide_eq_true (by first | (with_reducible assumption) | assumption); obtain ⟨ad148, e148, hx148_0⟩ := Kd.at_int (Kd.R_reads' HO_4.out).2.2 2 p148 q148; obtain rfl : ad141 = ad148 := (by injection e148); (try simp only [show (2 : Int).toNat = 2 from rfl, Nat.reduceMul, Nat.reduceEqDiff, Go.Addr.add, ↓reduceIte] at hx148_0); have qi148 : (2 < t133.length) = True := eq_true (by omega); (try rw [show ((2 : Int)).toNat = 2 from rfl] at hx148_0); replace p148 := eq_true p148; replace q148 := eq_true q148) | (go_at_call 8; (with_reducible refine (hangul_Kind.calls kj23 (rd t133 2) t149 _ A31.out).mono ?_); rintro e w' ⟨rfl, ⟨nd, rfl⟩⟩; (try first | exact ⟨rfl, _, World.drewN_drewN _ _ _⟩ | exact ⟨rfl, _, Eq.trans (World.drewN_drewN _ _ _) (congrArg (World.drewN _) (Nat.add_assoc _ _ _))⟩))); try go_wp2_with (first | (go_at_call 6; (with_reducible refine (hangul_Join.calls kj23 t143 (rd t133 2) t146 true _ A29.out).mono ?_); rintro e w' ⟨rfl, ⟨nd, rfl⟩⟩; (try first | exact ⟨rfl, _, World.drewN_drewN _ _ _⟩ | exact ⟨rfl, _, Eq.trans (World.drewN_drewN _ _ _) (congrArg (World.drewN _) (Nat.add_assoc _ _ _))⟩); have p148 : 0 ≤ (2 : Int) := (by omega); have q148 : 2 < (t133.length : Int) := of_decide_eq_true (by first | (with_reducible assumption) | assumption); obtain ⟨ad148, e148, hx148_0⟩ := Kd.at_int (Kd.R_reads' HO_4.out).2.2 2 p148 q148; obtain rfl : ad141 = ad148 := (by injection e148); (try simp only [show (2 : Int).toNat = 2 from rfl, Nat.reduceMul, Nat.reduceEqDiff, Go.Addr.add, ↓reduceIte] at hx148_0); have qi148 : (2 < t133.length) = True := eq_true (by omega); (try rw [show ((2 : Int)).toNat = 2 from rfl] at hx148_0); replace p148 := eq_true p148; replace q148 := eq_true q148) | (go_at_call 8; (with_reducible refine (hangul_Kind.calls kj23 (rd t133 2) t149 _ A31.out).mono ?_); rintro e w' ⟨rfl, ⟨nd, rfl⟩⟩; (try first | exact ⟨rfl, _, World.drewN_drewN _ _ _⟩ | exact ⟨rfl, _, Eq.trans (World.drewN_drewN _ _ _) (congrArg (World.drewN _) (Nat.add_assoc _ _ _))⟩))))
                          go_ret
                          exact ⟨by first | rfl | (simp [errW_none, errW_some] <;> rfl) | (simp [*, errW_none, errW_some] <;> rfl), by repeat (first | (with_reducible first | exact HB.out | apply below_alloc | apply pw_below_drewN | apply below_drew1) | exact HB.out)⟩
                      · rw [if_neg c32] at H
                        have c32b0 : (t149 == 3) = false := beq_eq_false_iff_ne.mpr c32
                        have c32b1 : (t149 != 3) = true := bne_iff_ne.mpr c32
                        obtain rfl := Option.some.inj H
                        have p145 : 0 ≤ (2 : Int) := (by omega)
                        have q145 : 2 < (t133.length : Int) := of_decide_eq_true (by first | (with_reducible assumption) | assumption)
                        obtain ⟨ad145, e145, hx145_0⟩ := Kd.at_int (Kd.R_reads' HO_4.out).2.2 2 p145 q145
                        obtain rfl : ad141 = ad145 := (by injection e145)
                        (try simp only [show (2 : Int).toNat = 2 from rfl, Nat.reduceMul, Nat.reduceEqDiff, Go.Addr.add, ↓reduceIte] at hx145_0)
                        have qi145 : (2 < t133.length) = True := eq_true (by omega)
                        (try rw [show ((2 : Int)).toNat = 2 from rfl] at hx145_0)
                        replace p145 := eq_true p145
                        replace q145 := eq_true q145
                        go_wp2_with (first | (go_at_call 6; (with_reducible refine (hangul_Join.calls kj23 t143 (rd t133 2) t146 true _ A29.out).mono ?_); rintro e w' ⟨rfl, ⟨nd, rfl⟩⟩; (try first | exact ⟨rfl, _, World.drewN_drewN _ _ _⟩ | exact ⟨rfl, _, Eq.trans (World.drewN_drewN _ _ _) (congrArg (World.drewN _) (Nat.add_assoc _ _ _))⟩); have p148 : 0 ≤ (2 : Int) := (by omega); have q148 : 2 < (t133.length : Int) := of_decide_eq_true (by first | (with_reducible assumption) | assumption); obtain ⟨ad148, e148, hx148_0⟩ := Kd.at_int (Kd.R_reads' HO_4.out).2.2 2 p148 q148; obtain rfl : ad141 = ad148 := (by injection e148); (try simp only [show (2 : Int).toNat = 2 from rfl, Nat.reduceMul, Nat.reduceEqDiff, Go.Addr.add, ↓reduceIte] at hx148_0); have qi148 : (2 < t133.length) = True := eq_true (by omega); (try rw [show ((2 : Int)).toNat = 2 from rfl] at hx148_0); replace p148 := eq_true p148; replace q148 := eq_true q148) | (go_at_call 8; (with_reducible refine (hangul_Kind.calls kj23 (rd t133 2) t149 _ A31.out).mono ?_); rintro e w' ⟨rfl, ⟨nd, rfl⟩⟩; (try first | exact ⟨rfl, _, World.drewN_drewN _ _ _⟩ | exact ⟨rfl, _, Eq.trans (World.drewN_drewN _ _ _) (congrArg (World.drewN _) (Nat.add_assoc _ _ _))⟩)))
                        repeat (go_quiet (first | (go_at_call 6; (with_reducible refine (hangul_Join.calls kj23 t143 (rd t133 2) t146 true _ A29.out).mono ?_); rintro e w' ⟨rfl, ⟨nd, rfl⟩⟩; (try first | exact ⟨rfl, _, World.drewN_drewN _ _ _⟩ | exact ⟨rfl, _, Eq.trans (World.drewN_drewN _ _ _) (congrArg (World.drewN _) (Nat.add_assoc _ _ _))⟩); have p148 : 0 ≤ (2 : Int) := (by omega); have q148 : 2 < (t133.length : Int) := of_decide_eq_true (by first | (with_reducible assumption) | assumption); obtain ⟨ad148, e148, hx148_0⟩ := Kd.at_int (Kd.R_reads' HO_4.out).2.2 2 p148 q148; obtain rfl : ad141 = ad148 := (by injection e148); (try simp only [show (2 : Int).toNat = 2 from rfl, Nat.reduceMul, Nat.reduceEqDiff, Go.Addr.add, ↓reduceIte] at hx148_0); have qi148 : (2 < t133.length) = True := eq_true (by omega); (try rw [show ((2 : Int)).toNat = 2 from rfl] at hx148_0); replace p148 := eq_true p148; replace q148 := eq_true q148) | (go_at_call 8; (with_reducible refine (hangul_Kind.calls kj23 (rd t133 2) t149 _ A31.out).mono ?_); rintro e w' ⟨rfl, ⟨nd, rfl⟩⟩; (try first | exact ⟨rfl, _, World.drewN_drewN _ _ _⟩ | exact ⟨rfl, _, Eq.trans (World.drewN_drewN _ _ _) (congrArg (World.drewN _) (Nat.add_assoc _ _ _))⟩))); try go_wp2_with (first | (go_at_call 6; (with_reducible refine (hangul_Join.calls kj23 t143 (rd t133 2) t146 true _ A29.out).mono ?_); rintro e w' ⟨rfl, ⟨nd, rfl⟩⟩; (try first | exact ⟨rfl, _, World.drewN_drewN _ _ _⟩ | exact ⟨rfl, _, Eq.trans (World.drewN_drewN _ _ _) (congrArg (World.drewN _) (Nat.add_assoc _ _ _))⟩); have p148 : 0 ≤ (2 : Int) := (by omega); have q148 : 2 < (t133.length : Int) := of_decide_eq_true (by first | (with_reducible assumption) | assumption); obtain ⟨ad148, e148, hx148_0⟩ := Kd.at_int (Kd.R_reads' HO_4.out).2.2 2 p148 q148; obtain rfl : ad141 = ad148 := (by injection e148); (try simp only [show (2 : Int).toNat = 2 from rfl, Nat.reduceMul, Nat.reduceEqDiff, Go.Addr.add, ↓reduceIte] at hx148_0); have qi148 : (2 < t133.length) = True := eq_true (by omega); (try rw [show ((2 : Int)).toNat = 2 from rfl] at hx148_0); replace p148 := eq_true p148; replace q148 := eq_true q148) | (go_at_call 8; (with_reducible refine (hangul_Kind.calls kj23 (rd t133 2) t149 _ A31.out).mono ?_); rintro e w' ⟨rfl, ⟨nd, rfl⟩⟩; (try first | exact ⟨rfl, _, World.drewN_drewN _ _ _⟩ | exact ⟨rfl, _, Eq.trans (World.drewN_drewN _ _ _) (congrArg (World.drewN _) (Nat.add_assoc _ _ _))⟩))))
                        go_ret
                        exact ⟨by first | rfl | (simp [errW_none, errW_some] <;> rfl) | (simp [*, errW_none, errW_some] <;> rfl), by repeat (first | (with_reducible first | exact HB.out | apply below_alloc | apply pw_below_drewN | apply below_drew1) | exact HB.out)⟩
                    · replace c30 := Bool.eq_false_iff.mpr c30
                      subst c30
                      have H1 : (some false) = some r := by rw [if_neg (show ¬ (false = true) by decide)] at H; exact H
                      clear H
                      have H := H1
                      clear H1
                      obtain rfl := Option.some.inj H
                      have p145 : 0 ≤ (2 : Int) := (by omega)
                      have q145 : 2 < (t133.length : Int) := of_decide_eq_true (by first | (with_reducible assumption) | assumption)
                      obtain ⟨ad145, e145, hx145_0⟩ := Kd.at_int (Kd.R_reads' HO_4.out).2.2 2 p145 q145
                      obtain rfl : ad141 = ad145 := (by injection e145)
                      (try simp only [show (2 : Int).toNat = 2 from rfl, Nat.reduceMul, Nat.reduceEqDiff, Go.Addr.add, ↓reduceIte] at hx145_0)
                      have qi145 : (2 < t133.length) = True := eq_true (by omega)
                      (try rw [show ((2 : Int)).toNat = 2 from rfl] at hx145_0)
                      replace p145 := eq_true p145
                      replace q145 := eq_true q145
                      go_wp2_with (first | (go_at_call 6; (with_reducible refine (hangul_Join.calls kj23 t143 (rd t133 2) t146 false _ A29.out).mono ?_); rintro e w' ⟨rfl, ⟨nd, rfl⟩⟩; (try first | exact ⟨rfl, _, World.drewN_drewN _ _ _⟩ | exact ⟨rfl, _, Eq.trans (World.drewN_drewN _ _ _) (congrArg (World.drewN _) (Nat.add_assoc _ _ _))⟩)))
                      repeat (go_quiet (first | (go_at_call 6; (with_reducible refine (hangul_Join.calls kj23 t143 (rd t133 2) t146 false _ A29.out).mono ?_); rintro e w' ⟨rfl, ⟨nd, rfl⟩⟩; (try first | exact ⟨rfl, _, World.drewN_drewN _ _ _⟩ | exact ⟨rfl, _, Eq.trans (World.drewN_drewN _ _ _) (congrArg (World.drewN _) (Nat.add_assoc _ _ _))⟩))); try go_wp2_with (first | (go_at_call 6; (with_reducible refine (hangul_Join.calls kj23 t143 (rd t133 2) t146 false _ A29.out).mono ?_); rintro e w' ⟨rfl, ⟨nd, rfl⟩⟩; (try first | exact ⟨rfl, _, World.drewN_drewN _ _ _⟩ | exact ⟨rfl, _, Eq.trans (World.drewN_drewN _ _ _) (congrArg (World.drewN _) (Nat.add_assoc _ _ _))⟩))))
                      go_ret
                      exact ⟨by first | rfl | (simp [errW_none, errW_some] <;> rfl) | (simp [*, errW_none, errW_some] <;> rfl), by repeat (first | (with_reducible first | exact HB.out | apply below_alloc | apply pw_below_drewN | apply below_drew1) | exact HB.out)⟩
                  · rw [if_neg c28] at H
                    exact absurd H (by simp)
                · replace c27 := Bool.eq_false_iff.mpr c27
                  subst c27
                  have H1 : (if t144 = true then (if t143 = (wrap32 (wrap64 (44032 + t132))) then ((orthoepylaw06_awake.f kj23).bind fun t151 => (some t151)) else (some false)) else (some false)) = some r := by rw [if_neg (show ¬ (false = true) by decide)] at H; exact H
                  clear H
                  have H := H1
                  clear H1
                  by_cases c36 : t144 = true
                  · subst c36
                    have H1 : (if t143 = (wrap32 (wrap64 (44032 + t132))) then ((orthoepylaw06_awake.f kj23).bind fun t151 => (some t151)) else (some false)) = some r := by rw [if_pos rfl] at H; exact H
                    clear H
                    have H := H1
                    clear H1
                    by_cases c37 : t143 = (wrap32 (wrap64 (44032 + t132)))
                    · rw [if_pos c37] at H
                      have c37b0 : (t143 == (wrap32 (wrap64 (44032 + t132)))) = true := beq_iff_eq.mpr c37
                      have c37b1 : (t143 != (wrap32 (wrap64 (44032 + t132)))) = false := bne_eq_false_iff_eq.mpr c37
                      clear c37
                      replace H := Option.bind_eq_some_iff.mp H
                      obtain ⟨t151, A380, H⟩ := H
                      replace H : (some t151) = some r := H
                      have A38 := Aside0.mk A380
                      clear A380
                      obtain rfl := Option.some.inj H
                      go_wp2_with (first | (go_at_call 13; (with_reducible refine (orthoepylaw06_awake.calls kj23  t151 _ A38.out).mono ?_); rintro e w39 ⟨rfl, hb⟩; have n0_ := Aside0.mk (Kd.R_below (by (with_reducible repeat (first | apply Kd.R_alloc | apply Kd.R_drewN | apply Kd.R_drew)); exact HO_4.out) hb); have n1_ := Aside0.mk (below_step (by repeat (first | (with_reducible first | exact HB.out | apply below_alloc | apply pw_below_drewN | apply below_drew1) | exact HB.out)) hb); clear HO_4; clear HB; have HO_4 := n0_; have HB := n1_; clear n0_ n1_; (try clear hb); (try clear hb2); (try clear hk); (try clear hi)))
                      repeat (go_quiet (first | (go_at_call 13; (with_reducible refine (orthoepylaw06_awake.calls kj23  t151 _ A38.out).mono ?_); rintro e w39 ⟨rfl, hb⟩; have n0_ := Aside0.mk (Kd.R_below (by (with_reducible repeat (first | apply Kd.R_alloc | apply Kd.R_drewN | apply Kd.R_drew)); exact HO_4.out) hb); have n1_ := Aside0.mk (below_step (by repeat (first | (with_reducible first | exact HB.out | apply below_alloc | apply pw_below_drewN | apply below_drew1) | exact HB.out)) hb); clear HO_4; clear HB; have HO_4 := n0_; have HB := n1_; clear n0_ n1_; (try clear hb); (try clear hb2); (try clear hk); (try clear hi))); try go_wp2_with (first | (go_at_call 13; (with_reducible refine (orthoepylaw06_awake.calls kj23  t151 _ A38.out).mono ?_); rintro e w39 ⟨rfl, hb⟩; have n0_ := Aside0.mk (Kd.R_below (by (with_reducible repeat (first | apply Kd.R_alloc | apply Kd.R_drewN | apply Kd.R_drew)); exact HO_4.out) hb); have n1_ := Aside0.mk (below_step (by repeat (first | (with_reducible first | exact HB.out | apply below_alloc | apply pw_below_drewN | apply below_drew1) | exact HB.out)) hb); clear HO_4; clear HB; have HO_4 := n0_; have HB := n1_; clear n0_ n1_; (try clear hb); (try clear hb2); (try clear hk); (try clear hi))))
                      go_ret
                      exact ⟨by first | rfl | (simp [errW_none, errW_some] <;> rfl) | (simp [*, errW_none, errW_some] <;> rfl), by repeat (first | (with_reducible first | exact HB.out | apply below_alloc | apply pw_below_drewN | apply below_drew1) | exact HB.out)⟩
                    · rw [if_neg c37] at H
                      have c37b0 : (t143 == (wrap32 (wrap64 (44032 + t132)))) = false := beq_eq_false_iff_ne.mpr c37
                      have c37b1 : (t143 != (wrap32 (wrap64 (44032 + t132)))) = true := bne_iff_ne.mpr c37
                      obtain rfl := Option.some.inj H
                      go_wp2
                      repeat (go_quiet (fail); try go_wp2)
                      go_ret
                      exact ⟨by first | rfl | (simp [errW_none, errW_some] <;> rfl) | (simp [*, errW_none, errW_some] <;> rfl), by repeat (first | (with_reducible first | exact HB.out | apply below_alloc | apply pw_below_drewN | apply below_drew1) | exact HB.out)⟩
                  · replace c36 := Bool.eq_false_iff.mpr c36
                    subst c36
                    have H1 : (some false) = some r := by rw [if_neg (show ¬ (false = true) by decide)] at H; exact H
                    clear H
                    have H := H1
                    clear H1
                    obtain rfl := Option.some.inj H
                    go_wp2
                    repeat (go_quiet (fail); try go_wp2)
                    go_ret
                    exact ⟨by first | rfl | (simp [errW_none, errW_some] <;> rfl) | (simp [*, errW_none, errW_some] <;> rfl), by repeat (first | (with_reducible first | exact HB.out | apply below_alloc | apply pw_below_drewN | apply below_drew1) | exact HB.out)⟩
          · rw [if_neg c22] at H
            exact absurd H (by simp)
        · rw [if_neg c21] at H
          exact absurd H (by simp)

/-- THE ONE PURE STATEMENT of orthoepylaw06_HangulBack: yours. -/
def orthoepylaw06_HangulBack.Pure : Prop := ∀ (a0 : Int), (Lit.int .i64 a0).wf = true → ∃ k, orthoepylaw06_HangulBack.f k a0 = some true
theorem orthoepylaw06_HangulBack.walk (P : orthoepylaw06_HangulBack.Pure) (a0 : Int) (w : World) (w0 : (Lit.int .i64 a0).wf = true) :
    Calls Try.prog 4 #[.int .i64 a0] w fun e w' => e = .returned (.bool true) ∧ Below w.heap.size w w' := by
  obtain ⟨k, h⟩ := P a0 w0
  refine (orthoepylaw06_HangulBack.calls k a0 true w h).mono ?_
  rintro e w' ⟨rfl, hd⟩
  exact ⟨rfl, hd⟩

end Go.Proofs.Ytabgbcgllcopeaa.PHangulBack
