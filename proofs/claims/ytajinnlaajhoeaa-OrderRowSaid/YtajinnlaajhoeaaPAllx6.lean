-- The machine's side of laws, written by a program of this session (wip/gen/pp.sh). Lean checks it.
import Derived.Test.YtajinnlaajhoeaaPAllx0
import Derived.Test.YtajinnlaajhoeaaPAllx5
namespace Go.Proofs.Ytajinnlaajhoeaa.PAll
open Go.RowKit Go.Proofs.YtajinnlaajhoeaaW.PrintWords Go.Proofs.YtajinnlaajhoeaaW.PrintLast
set_option linter.unusedVariables false
set_option linter.unusedSimpArgs false

/-! ### orthoepyref03_Compare: function 26 -/
mutual
def orthoepyref03_Compare.l0 : Nat → List Int → List Int → Int → Option (Int)
  | 0, _, _, _ => none
  | k + 1, x5, x6, x7 => if x7 < (x5.length : Int) then (orthoepyref03_Compare.j1 k x5 x6 x7 (decide (x7 < (x6.length : Int)))) else (orthoepyref03_Compare.j1 k x5 x6 x7 false)
def orthoepyref03_Compare.j1 : Nat → List Int → List Int → Int → Bool → Option (Int)
  | 0, _, _, _, _ => none
  | k + 1, x5, x6, x7, x21 => if x21 = true then (if 0 ≤ x7 then (if x7 < (x5.length : Int) then (if x7 < (x6.length : Int) then (if (rd x5 x7) < (rd x6 x7) then (some (-1)) else (if (rd x5 x7) > (rd x6 x7) then (some 1) else (orthoepyref03_Compare.l0 k x5 x6 (wrap64 (x7 + 1))))) else (none)) else (none)) else (none)) else (if (x5.length : Int) < (x6.length : Int) then (some (-1)) else (if (x5.length : Int) > (x6.length : Int) then (some 1) else (some 0)))
end
def orthoepyref03_Compare.f (k : Nat) (l0 : List Int) (l1 : List Int) : Option (Int) := (orthoepyref03_Units.f k l0).bind fun t202 => ((orthoepyref03_Units.f k l1).bind fun t205 => (orthoepyref03_Compare.l0 k t202 t205 0))
theorem orthoepyref03_Compare.mono_l : ∀ k, (∀ y0 y1 y2, LeO (orthoepyref03_Compare.l0 k y0 y1 y2) (orthoepyref03_Compare.l0 (k + 1) y0 y1 y2)) ∧ (∀ y0 y1 y2 y3, LeO (orthoepyref03_Compare.j1 k y0 y1 y2 y3) (orthoepyref03_Compare.j1 (k + 1) y0 y1 y2 y3))
  | 0 => ⟨fun _ _ _ r h => by simp [orthoepyref03_Compare.l0] at h, fun _ _ _ _ r h => by simp [orthoepyref03_Compare.j1] at h⟩
  | k + 1 => by
    obtain ⟨ih0, ih1⟩ := orthoepyref03_Compare.mono_l k
    refine ⟨?_, ?_⟩
    · intro y0 y1 y2
      unfold orthoepyref03_Compare.l0
      repeat' first
      | (with_reducible exact ih0 _ _ _)
      | (with_reducible exact ih1 _ _ _ _)
      | (with_reducible exact orthoepyref03_Units.mono _ _)
      | (with_reducible exact LeO.refl _)
      | (with_reducible exact LeO.none _)
      | (with_reducible refine LeO.ite ?_ ?_)
      | (with_reducible refine LeO.bind ?_ (fun _ => ?_))
      | exact ih0 _ _ _
      | exact ih1 _ _ _ _
      | exact orthoepyref03_Units.mono _ _
      | exact LeO.none _
      | refine LeO.ite ?_ ?_
      | refine LeO.bind ?_ (fun _ => ?_)
    · intro y0 y1 y2 y3
      unfold orthoepyref03_Compare.j1
      repeat' first
      | (with_reducible exact ih0 _ _ _)
      | (with_reducible exact ih1 _ _ _ _)
      | (with_reducible exact orthoepyref03_Units.mono _ _)
      | (with_reducible exact LeO.refl _)
      | (with_reducible exact LeO.none _)
      | (with_reducible refine LeO.ite ?_ ?_)
      | (with_reducible refine LeO.bind ?_ (fun _ => ?_))
      | exact ih0 _ _ _
      | exact ih1 _ _ _ _
      | exact orthoepyref03_Units.mono _ _
      | exact LeO.none _
      | refine LeO.ite ?_ ?_
      | refine LeO.bind ?_ (fun _ => ?_)
theorem orthoepyref03_Compare.mono : ∀ a0 a1 k, LeO (orthoepyref03_Compare.f k a0 a1) (orthoepyref03_Compare.f (k + 1) a0 a1) := by
  intro a0 a1 k
  obtain ⟨ih0, ih1⟩ := orthoepyref03_Compare.mono_l k
  unfold orthoepyref03_Compare.f
  repeat' first
      | (with_reducible exact ih0 _ _ _)
      | (with_reducible exact ih1 _ _ _ _)
      | (with_reducible exact orthoepyref03_Units.mono _ _)
      | (with_reducible exact LeO.refl _)
      | (with_reducible exact LeO.none _)
      | (with_reducible refine LeO.ite ?_ ?_)
      | (with_reducible refine LeO.bind ?_ (fun _ => ?_))
      | exact ih0 _ _ _
      | exact ih1 _ _ _ _
      | exact orthoepyref03_Units.mono _ _
      | exact LeO.none _
      | refine LeO.ite ?_ ?_
      | refine LeO.bind ?_ (fun _ => ?_)
set_option maxHeartbeats 8000000 in
set_option maxRecDepth 100000 in
theorem orthoepyref03_Compare.calls (k : Nat) (A0 : Option Addr) (c0 : Nat) (l0 : List Int) (A1 : Option Addr) (c1 : Nat) (l1 : List Int) (r : Int) (w : World) (hr0 : Kd.C (Kd.int .i32) w A0 l0.length l0) (hc0 : l0.length ≤ c0) (hr1 : Kd.C (Kd.int .i32) w A1 l1.length l1) (hc1 : l1.length ≤ c1) (h : orthoepyref03_Compare.f k l0 l1 = some r) :
    Calls Try.prog 26 #[.slice A0 l0.length c0, .slice A1 l1.length c1] w fun e w' => e = .returned (.int .i64 r) ∧ Below w.heap.size w w' := by
  have HR0 := Aside0.mk hr0
  have HC0 := Aside0.mk hc0
  clear hr0 hc0
  have HR1 := Aside0.mk hr1
  have HC1 := Aside0.mk hc1
  clear hr1 hc1
  have HB := Aside0.mk (Below.refl w.heap.size w)
  have H : ((orthoepyref03_Units.f k l0).bind fun t202 => ((orthoepyref03_Units.f k l1).bind fun t205 => (orthoepyref03_Compare.l0 k t202 t205 0))) = some r := h
  clear h
  replace H := Option.bind_eq_some_iff.mp H
  obtain ⟨t202, A30, H⟩ := H
  replace H : ((orthoepyref03_Units.f k l1).bind fun t205 => (orthoepyref03_Compare.l0 k t202 t205 0)) = some r := H
  have A3 := Aside0.mk A30
  clear A30
  replace H := Option.bind_eq_some_iff.mp H
  obtain ⟨t205, A40, H⟩ := H
  replace H : (orthoepyref03_Compare.l0 k t202 t205 0) = some r := H
  have A4 := Aside0.mk A40
  clear A40
  have H' := Aside0.mk H
  clear H
  go_enter Try.func26, Try.ntmps26
  go_wp2_with (first | (go_at_call 37; (with_reducible refine (orthoepyref03_Units.calls k _ _ l0 t202 _ ?side1 ?side2 A3.out).mono ?_); (case side1 => repeat (first | exact HR0.out | (with_reducible refine Kd.C_alloc ?_ _) | (with_reducible refine Kd.C_drewN ?_ _) | (with_reducible refine Kd.C_drew ?_))); (case side2 => exact HC0.out); rintro e w5 ⟨v203, rfl, ho0, hb⟩; have n0_ := Aside0.mk (Kd.R_lower ho0 (below_size (by repeat (first | (with_reducible first | exact HB.out | apply below_alloc | apply pw_below_drewN | apply below_drew1) | exact HB.out)))); have n1_ := Aside0.mk (below_step (by repeat (first | (with_reducible first | exact HB.out | apply below_alloc | apply pw_below_drewN | apply below_drew1) | exact HB.out)) hb); clear HB; have HO204 := n0_; have HB := n1_; clear n0_ n1_; (try clear hb); (try clear hb2); (try clear hk); (try clear hi); (try clear ho0)) | (go_at_call 37; (with_reducible refine (orthoepyref03_Units.calls k _ _ l1 t205 _ ?side1 ?side2 A4.out).mono ?_); (case side1 => repeat (first | exact (Kd.C_below HR1.out HB.out) | (with_reducible refine Kd.C_alloc ?_ _) | (with_reducible refine Kd.C_drewN ?_ _) | (with_reducible refine Kd.C_drew ?_))); (case side2 => exact HC1.out); rintro e w6 ⟨v206, rfl, ho0, hb⟩; have n0_ := Aside0.mk (Kd.R_elder' (by (with_reducible repeat (first | apply Kd.R_alloc | apply Kd.R_drewN | apply Kd.R_drew)); exact HO204.out) (Kd.R_base ho0) hb); have n1_ := Aside0.mk (Kd.R_lower (Kd.R_new' ho0 (Kd.R_lt (by (with_reducible repeat (first | apply Kd.R_alloc | apply Kd.R_drewN | apply Kd.R_drew)); exact HO204.out))) (below_size (by repeat (first | (with_reducible first | exact HB.out | apply below_alloc | apply pw_below_drewN | apply below_drew1) | exact HB.out)))); have n2_ := Aside0.mk (below_step (by repeat (first | (with_reducible first | exact HB.out | apply below_alloc | apply pw_below_drewN | apply below_drew1) | exact HB.out)) hb); clear HO204; clear HB; have HO204 := n0_; have HO207 := n1_; have HB := n2_; clear n0_ n1_ n2_; (try clear hb); (try clear hb2); (try clear hk); (try clear hi); (try clear ho0)))
  repeat (go_quiet (first | (go_at_call 37; (with_reducible refine (orthoepyref03_Units.calls k _ _ l0 t202 _ ?side1 ?side2 A3.out).mono ?_); (case side1 => repeat (first | exact HR0.out | (with_reducible refine Kd.C_alloc ?_ _) | (with_reducible refine Kd.C_drewN ?_ _) | (with_reducible refine Kd.C_drew ?_))); (case side2 => exact HC0.out); rintro e w5 ⟨v203, rfl, ho0, hb⟩; have n0_ := Aside0.mk (Kd.R_lower ho0 (below_size (by repeat (first | (with_reducible first | exact HB.out | apply below_alloc | apply pw_below_drewN | apply below_drew1) | exact HB.out)))); have n1_ := Aside0.mk (below_step (by repeat (first | (with_reducible first | exact HB.out | apply below_alloc | apply pw_below_drewN | apply below_drew1) | exact HB.out)) hb); clear HB; have HO204 := n0_; have HB := n1_; clear n0_ n1_; (try clear hb); (try clear hb2); (try clear hk); (try clear hi); (try clear ho0)) | (go_at_call 37; (with_reducible refine (orthoepyref03_Units.calls k _ _ l1 t205 _ ?side1 ?side2 A4.out).mono ?_); (case side1 => repeat (first | exact (Kd.C_below HR1.out HB.out) | (with_reducible refine Kd.C_alloc ?_ _) | (with_reducible refine Kd.C_drewN ?_ _) | (with_reducible refine Kd.C_drew ?_))); (case side2 => exact HC1.out); rintro e w6 ⟨v206, rfl, ho0, hb⟩; have n0_ := Aside0.mk (Kd.R_elder' (by (with_reducible repeat (first | apply Kd.R_alloc | apply Kd.R_drewN | apply Kd.R_drew)); exact HO204.out) (Kd.R_base ho0) hb); have n1_ := Aside0.mk (Kd.R_lower (Kd.R_new' ho0 (Kd.R_lt (by (with_reducible repeat (first | apply Kd.R_alloc | apply Kd.R_drewN | apply Kd.R_drew)); exact HO204.out))) (below_size (by repeat (first | (with_reducible first | exact HB.out | apply below_alloc | apply pw_below_drewN | apply below_drew1) | exact HB.out)))); have n2_ := Aside0.mk (below_step (by repeat (first | (with_reducible first | exact HB.out | apply below_alloc | apply pw_below_drewN | apply below_drew1) | exact HB.out)) hb); clear HO204; clear HB; have HO204 := n0_; have HO207 := n1_; have HB := n2_; clear n0_ n1_ n2_; (try clear hb); (try clear hb2); (try clear hk); (try clear hi); (try clear ho0))); try go_wp2_with (first | (go_at_call 37; (with_reducible refine (orthoepyref03_Units.calls k _ _ l0 t202 _ ?side1 ?side2 A3.out).mono ?_); (case side1 => repeat (first | exact HR0.out | (with_reducible refine Kd.C_alloc ?_ _) | (with_reducible refine Kd.C_drewN ?_ _) | (with_reducible refine Kd.C_drew ?_))); (case side2 => exact HC0.out); rintro e w5 ⟨v203, rfl, ho0, hb⟩; have n0_ := Aside0.mk (Kd.R_lower ho0 (below_size (by repeat (first | (with_reducible first | exact HB.out | apply below_alloc | apply pw_below_drewN | apply below_drew1) | exact HB.out)))); have n1_ := Aside0.mk (below_step (by repeat (first | (with_reducible first | exact HB.out | apply below_alloc | apply pw_below_drewN | apply below_drew1) | exact HB.out)) hb); clear HB; have HO204 := n0_; have HB := n1_; clear n0_ n1_; (try clear hb); (try clear hb2); (try clear hk); (try clear hi); (try clear ho0)) | (go_at_call 37; (with_reducible refine (orthoepyref03_Units.calls k _ _ l1 t205 _ ?side1 ?side2 A4.out).mono ?_); (case side1 => repeat (first | exact (Kd.C_below HR1.out HB.out) | (with_reducible refine Kd.C_alloc ?_ _) | (with_reducible refine Kd.C_drewN ?_ _) | (with_reducible refine Kd.C_drew ?_))); (case side2 => exact HC1.out); rintro e w6 ⟨v206, rfl, ho0, hb⟩; have n0_ := Aside0.mk (Kd.R_elder' (by (with_reducible repeat (first | apply Kd.R_alloc | apply Kd.R_drewN | apply Kd.R_drew)); exact HO204.out) (Kd.R_base ho0) hb); have n1_ := Aside0.mk (Kd.R_lower (Kd.R_new' ho0 (Kd.R_lt (by (with_reducible repeat (first | apply Kd.R_alloc | apply Kd.R_drewN | apply Kd.R_drew)); exact HO204.out))) (below_size (by repeat (first | (with_reducible first | exact HB.out | apply below_alloc | apply pw_below_drewN | apply below_drew1) | exact HB.out)))); have n2_ := Aside0.mk (below_step (by repeat (first | (with_reducible first | exact HB.out | apply below_alloc | apply pw_below_drewN | apply below_drew1) | exact HB.out)) hb); clear HO204; clear HB; have HO204 := n0_; have HO207 := n1_; have HB := n2_; clear n0_ n1_ n2_; (try clear hb); (try clear hb2); (try clear hk); (try clear hi); (try clear ho0))))
  go_loopg [7] k (fun kq v7 w' => ∃ (x7_1 : Int), v7 = .int .i64 x7_1 ∧ Aside0 (orthoepyref03_Compare.l0 kq t202 t205 x7_1 = some r) ∧ Aside0 (kq ≤ k) ∧ Aside0 (Kd.R (Kd.int .u16) 59 w' w.heap.size (fun k_ => some k_ ≠ (v206 : Value).ownBlock) v203 t202) ∧ Aside0 (Kd.R (Kd.int .u16) 59 w' w.heap.size (fun k_ => some k_ ≠ (v203 : Value).ownBlock) v206 t205) ∧ Aside0 (Below w.heap.size w w'))
  case atStart => exact ⟨(0), (by first | rfl | (simp; done) | (simp [*]; done)), H', ⟨Nat.le_refl _⟩, ⟨by (with_reducible repeat (first | apply Kd.R_alloc | apply Kd.R_drewN | apply Kd.R_drew)); exact Kd.R_mono HO204.out (fun _ hk => hk.2)⟩, ⟨by (with_reducible repeat (first | apply Kd.R_alloc | apply Kd.R_drewN | apply Kd.R_drew)); exact Kd.R_mono HO207.out (fun _ hk => hk.2)⟩, ⟨by repeat (first | (with_reducible first | exact HB.out | apply below_alloc | apply pw_below_drewN | apply below_drew1) | exact HB.out)⟩⟩
  case round =>
    clear H'
    try clear c1
    try clear c2
    try clear p2
    obtain ⟨x7_1, rfl, HA, HK1, HO_5, HO_6, HB⟩ := hrel
    cases gk with
    | zero => exact absurd HA.out (by simp [orthoepyref03_Compare.l0])
    | succ k1 =>
      have H := HA.out
      clear HA
      simp only [orthoepyref03_Compare.l0] at H
      have HC7 := Aside0.mk H
      clear H
      go_upto_region 3 with (fail)
      repeat (go_quiet (fail); go_upto_region 3 with (fail))
      go_cut [21] (fun v21 wc => ∃ (kq : Nat) (x21_6 : Bool), v21 = .bool x21_6 ∧ Aside0 (orthoepyref03_Compare.j1 kq t202 t205 x7_1 x21_6 = some r) ∧ Aside0 (kq ≤ k1) ∧ Aside0 (Kd.R (Kd.int .u16) 59 wc w.heap.size (fun k_ => some k_ ≠ (v206 : Value).ownBlock) v203 t202) ∧ Aside0 (Kd.R (Kd.int .u16) 59 wc w.heap.size (fun k_ => some k_ ≠ (v203 : Value).ownBlock) v206 t205) ∧ Aside0 (Below w.heap.size w wc))
      case first =>
        have H := HC7.out
        clear HC7
        by_cases c8 : x7_1 < (t202.length : Int)
        · rw [if_pos c8] at H
          have c8b0 : decide (x7_1 < (t202.length : Int)) = true := decide_eq_true c8
          clear c8
          (first | rw [c8b0] | (simp only [i64_w, i32_w]; rw [c8b0]) | skip)
          have H' := Aside0.mk H
          clear H
          obtain ⟨Ao9, co9, eo9⟩ := Kd.R_slice HO_5.out
          subst eo9
          obtain ⟨Ao10, co10, eo10⟩ := Kd.R_slice HO_6.out
          subst eo10
          go_wp2
          repeat (go_quiet (fail); try go_wp2)
          go_meet
          case rel => exact ⟨_, (decide (x7_1 < (t205.length : Int))), (by first | rfl | (simp; done) | (simp [*]; done)), H', ⟨by have := HK1.out; first | omega | exact Nat.le_refl _⟩, ⟨by (with_reducible repeat (first | apply Kd.R_alloc | apply Kd.R_drewN | apply Kd.R_drew)); exact HO_5.out⟩, ⟨by (with_reducible repeat (first | apply Kd.R_alloc | apply Kd.R_drewN | apply Kd.R_drew)); exact HO_6.out⟩, ⟨by repeat (first | (with_reducible first | exact HB.out | apply below_alloc | apply pw_below_drewN | apply below_drew1) | exact HB.out)⟩⟩
        · rw [if_neg c8] at H
          have c8b0 : decide (x7_1 < (t202.length : Int)) = false := decide_eq_false c8
          clear c8
          (first | rw [c8b0] | (simp only [i64_w, i32_w]; rw [c8b0]) | skip)
          have H' := Aside0.mk H
          clear H
          obtain ⟨Ao11, co11, eo11⟩ := Kd.R_slice HO_5.out
          subst eo11
          go_wp2
          repeat (go_quiet (fail); try go_wp2)
          go_meet
          case rel => exact ⟨_, (false), (by first | rfl | (simp; done) | (simp [*]; done)), H', ⟨by have := HK1.out; first | omega | exact Nat.le_refl _⟩, ⟨by (with_reducible repeat (first | apply Kd.R_alloc | apply Kd.R_drewN | apply Kd.R_drew)); exact HO_5.out⟩, ⟨by (with_reducible repeat (first | apply Kd.R_alloc | apply Kd.R_drewN | apply Kd.R_drew)); exact HO_6.out⟩, ⟨by repeat (first | (with_reducible first | exact HB.out | apply below_alloc | apply pw_below_drewN | apply below_drew1) | exact HB.out)⟩⟩
      case rest =>
        clear HC7
        try clear c1
        try clear c2
        try clear p2
        try clear c8
        try clear c8b0
        try clear p2
        obtain ⟨kq, x21_6, rfl, HA, HJ6, HO_5, HO_6, HB⟩ := hcut
        cases kq with
        | zero => exact absurd HA.out (by simp [orthoepyref03_Compare.j1])
        | succ kj6 =>
          have H := HA.out
          clear HA
          simp only [orthoepyref03_Compare.j1] at H
          by_cases c12 : x21_6 = true
          · subst c12
            have H1 : (if 0 ≤ x7_1 then (if x7_1 < (t202.length : Int) then (if x7_1 < (t205.length : Int) then (if (rd t202 x7_1) < (rd t205 x7_1) then (some (-1)) else (if (rd t202 x7_1) > (rd t205 x7_1) then (some 1) else (orthoepyref03_Compare.l0 kj6 t202 t205 (wrap64 (x7_1 + 1))))) else (none)) else (none)) else (none)) = some r := by rw [if_pos rfl] at H; exact H
            clear H
            have H := H1
            clear H1
            by_cases c13 : 0 ≤ x7_1
            · rw [if_pos c13] at H
              have c13b0 : decide (0 ≤ x7_1) = true := decide_eq_true c13
              clear c13
              by_cases c14 : x7_1 < (t202.length : Int)
              · rw [if_pos c14] at H
                have c14b0 : decide (x7_1 < (t202.length : Int)) = true := decide_eq_true c14
                clear c14
                by_cases c15 : x7_1 < (t205.length : Int)
                · rw [if_pos c15] at H
                  have c15b0 : decide (x7_1 < (t205.length : Int)) = true := decide_eq_true c15
                  clear c15
                  by_cases c16 : (rd t202 x7_1) < (rd t205 x7_1)
                  · rw [if_pos c16] at H
                    have c16b0 : decide ((rd t202 x7_1) < (rd t205 x7_1)) = true := decide_eq_true c16
                    clear c16
                    obtain rfl := Option.some.inj H
                    obtain ⟨Ao17, co17, eo17⟩ := Kd.R_slice HO_5.out
                    subst eo17
                    have p208 : 0 ≤ (x7_1 : Int) := of_decide_eq_true (by first | (with_reducible assumption) | assumption)
                    have q208 : x7_1 < (t202.length : Int) := of_decide_eq_true (by first | (with_reducible assumption) | assumption)
                    obtain ⟨ad208, e208, hx208_0⟩ := Kd.at_int (Kd.R_reads' HO_5.out).2.2 x7_1 p208 q208
                    cases e208
                    replace p208 := eq_true p208
                    replace q208 := eq_true q208
                    obtain ⟨Ao18, co18, eo18⟩ := Kd.R_slice HO_6.out
                    subst eo18
                    have p209 : 0 ≤ (x7_1 : Int) := of_decide_eq_true (by first | (with_reducible assumption) | assumption)
                    have q209 : x7_1 < (t205.length : Int) := of_decide_eq_true (by first | (with_reducible assumption) | assumption)
                    obtain ⟨ad209, e209, hx209_0⟩ := Kd.at_int (Kd.R_reads' HO_6.out).2.2 x7_1 p209 q209
                    cases e209
                    replace p209 := eq_true p209
                    replace q209 := eq_true q209
                    go_wp2
                    repeat (go_quiet (fail); try go_wp2)
                    go_ret
                    exact ⟨by first | rfl | (simp [errW_none, errW_some] <;> rfl) | (simp [*, errW_none, errW_some] <;> rfl), by repeat (first | (with_reducible first | exact HB.out | apply below_alloc | apply pw_below_drewN | apply below_drew1) | exact HB.out)⟩
                  · rw [if_neg c16] at H
                    have c16b0 : decide ((rd t202 x7_1) < (rd t205 x7_1)) = false := decide_eq_false c16
                    clear c16
                    by_cases c19 : (rd t202 x7_1) > (rd t205 x7_1)
                    · rw [if_pos c19] at H
                      have c19b0 : decide ((rd t205 x7_1) < (rd t202 x7_1)) = true := decide_eq_true c19
                      clear c19
                      obtain rfl := Option.some.inj H
                      obtain ⟨Ao20, co20, eo20⟩ := Kd.R_slice HO_5.out
                      subst eo20
                      have p208 : 0 ≤ (x7_1 : Int) := of_decide_eq_true (by first | (with_reducible assumption) | assumption)
                      have q208 : x7_1 < (t202.length : Int) := of_decide_eq_true (by first | (with_reducible assumption) | assumption)
                      obtain ⟨ad208, e208, hx208_0⟩ := Kd.at_int (Kd.R_reads' HO_5.out).2.2 x7_1 p208 q208
                      cases e208
                      replace p208 := eq_true p208
                      replace q208 := eq_true q208
                      obtain ⟨Ao21, co21, eo21⟩ := Kd.R_slice HO_6.out
                      subst eo21
                      have p209 : 0 ≤ (x7_1 : Int) := of_decide_eq_true (by first | (with_reducible assumption) | assumption)
                      have q209 : x7_1 < (t205.length : Int) := of_decide_eq_true (by first | (with_reducible assumption) | assumption)
                      obtain ⟨ad209, e209, hx209_0⟩ := Kd.at_int (Kd.R_reads' HO_6.out).2.2 x7_1 p209 q209
                      cases e209
                      replace p209 := eq_true p209
                      replace q209 := eq_true q209
                      have p210 : 0 ≤ (x7_1 : Int) := of_decide_eq_true (by first | (with_reducible assumption) | assumption)
                      have q210 : x7_1 < (t202.length : Int) := of_decide_eq_true (by first | (with_reducible assumption) | assumption)
                      obtain ⟨ad210, e210, hx210_0⟩ := Kd.at_int (Kd.R_reads' HO_5.out).2.2 x7_1 p210 q210
                      obtain rfl : ad208 = ad210 := (by injection e210)
                      replace p210 := eq_true p210
                      replace q210 := eq_true q210
                      have p211 : 0 ≤ (x7_1 : Int) := of_decide_eq_true (by first | (with_reducible assumption) | assumption)
                      have q211 : x7_1 < (t205.length : Int) := of_decide_eq_true (by first | (with_reducible assumption) | assumption)
                      obtain ⟨ad211, e211, hx211_0⟩ := Kd.at_int (Kd.R_reads' HO_6.out).2.2 x7_1 p211 q211
                      obtain rfl : ad209 = ad211 := (by injection e211)
                      replace p211 := eq_true p211
                      replace q211 := eq_true q211
                      go_wp2
                      repeat (go_quiet (fail); try go_wp2)
                      go_ret
                      exact ⟨by first | rfl | (simp [errW_none, errW_some] <;> rfl) | (simp [*, errW_none, errW_some] <;> rfl), by repeat (first | (with_reducible first | exact HB.out | apply below_alloc | apply pw_below_drewN | apply below_drew1) | exact HB.out)⟩
                    · rw [if_neg c19] at H
                      have c19b0 : decide ((rd t205 x7_1) < (rd t202 x7_1)) = false := decide_eq_false c19
                      clear c19
                      have H' := Aside0.mk H
                      clear H
                      obtain ⟨Ao22, co22, eo22⟩ := Kd.R_slice HO_5.out
                      subst eo22
                      have p208 : 0 ≤ (x7_1 : Int) := of_decide_eq_true (by first | (with_reducible assumption) | assumption)
                      have q208 : x7_1 < (t202.length : Int) := of_decide_eq_true (by first | (with_reducible assumption) | assumption)
                      obtain ⟨ad208, e208, hx208_0⟩ := Kd.at_int (Kd.R_reads' HO_5.out).2.2 x7_1 p208 q208
                      cases e208
                      replace p208 := eq_true p208
                      replace q208 := eq_true q208
                      obtain ⟨Ao23, co23, eo23⟩ := Kd.R_slice HO_6.out
                      subst eo23
                      have p209 : 0 ≤ (x7_1 : Int) := of_decide_eq_true (by first | (with_reducible assumption) | assumption)
                      have q209 : x7_1 < (t205.length : Int) := of_decide_eq_true (by first | (with_reducible assumption) | assumption)
                      obtain ⟨ad209, e209, hx209_0⟩ := Kd.at_int (Kd.R_reads' HO_6.out).2.2 x7_1 p209 q209
                      cases e209
                      replace p209 := eq_true p209
                      replace q209 := eq_true q209
                      have p210 : 0 ≤ (x7_1 : Int) := of_decide_eq_true (by first | (with_reducible assumption) | assumption)
                      have q210 : x7_1 < (t202.length : Int) := of_decide_eq_true (by first | (with_reducible assumption) | assumption)
                      obtain ⟨ad210, e210, hx210_0⟩ := Kd.at_int (Kd.R_reads' HO_5.out).2.2 x7_1 p210 q210
                      obtain rfl : ad208 = ad210 := (by injection e210)
                      replace p210 := eq_true p210
                      replace q210 := eq_true q210
                      have p211 : 0 ≤ (x7_1 : Int) := of_decide_eq_true (by first | (with_reducible assumption) | assumption)
                      have q211 : x7_1 < (t205.length : Int) := of_decide_eq_true (by first | (with_reducible assumption) | assumption)
                      obtain ⟨ad211, e211, hx211_0⟩ := Kd.at_int (Kd.R_reads' HO_6.out).2.2 x7_1 p211 q211
                      obtain rfl : ad209 = ad211 := (by injection e211)
                      replace p211 := eq_true p211
                      replace q211 := eq_true q211
                      go_wp2
                      repeat (go_quiet (fail); try go_wp2)
                      go_roundg kj6
                      case measure => have := HK1.out; have := HJ6.out; omega
                      case rel => exact ⟨(wrap64 (x7_1 + 1)), (by first | rfl | (simp; done) | (simp [*]; done)), H', ⟨by have := HK1.out; have := HJ6.out; omega⟩, ⟨by (with_reducible repeat (first | apply Kd.R_alloc | apply Kd.R_drewN | apply Kd.R_drew)); exact HO_5.out⟩, ⟨by (with_reducible repeat (first | apply Kd.R_alloc | apply Kd.R_drewN | apply Kd.R_drew)); exact HO_6.out⟩, ⟨by repeat (first | (with_reducible first | exact HB.out | apply below_alloc | apply pw_below_drewN | apply below_drew1) | exact HB.out)⟩⟩
                · rw [if_neg c15] at H
                  exact absurd H (by simp)
              · rw [if_neg c14] at H
                exact absurd H (by simp)
            · rw [if_neg c13] at H
              exact absurd H (by simp)
          · replace c12 := Bool.eq_false_iff.mpr c12
            subst c12
            have H1 : (if (t202.length : Int) < (t205.length : Int) then (some (-1)) else (if (t202.length : Int) > (t205.length : Int) then (some 1) else (some 0))) = some r := by rw [if_neg (show ¬ (false = true) by decide)] at H; exact H
            clear H
            have H := H1
            clear H1
            by_cases c24 : (t202.length : Int) < (t205.length : Int)
            · rw [if_pos c24] at H
              have c24b0 : decide ((t202.length : Int) < (t205.length : Int)) = true := decide_eq_true c24
              have c24b1 : decide (t202.length < t205.length) = true := decide_eq_true (Int.ofNat_lt.mp c24)
              clear c24
              obtain rfl := Option.some.inj H
              obtain ⟨Ao25, co25, eo25⟩ := Kd.R_slice HO_5.out
              subst eo25
              obtain ⟨Ao26, co26, eo26⟩ := Kd.R_slice HO_6.out
              subst eo26
              go_wp2
              repeat (go_quiet (fail); try go_wp2)
              go_ret
              exact ⟨by first | rfl | (simp [errW_none, errW_some] <;> rfl) | (simp [*, errW_none, errW_some] <;> rfl), by repeat (first | (with_reducible first | exact HB.out | apply below_alloc | apply pw_below_drewN | apply below_drew1) | exact HB.out)⟩
            · rw [if_neg c24] at H
              have c24b0 : decide ((t202.length : Int) < (t205.length : Int)) = false := decide_eq_false c24
              have c24b1 : decide (t202.length < t205.length) = false := decide_eq_false (fun h => c24 (Int.ofNat_lt.mpr h))
              clear c24
              by_cases c27 : (t202.length : Int) > (t205.length : Int)
              · rw [if_pos c27] at H
                have c27b0 : decide ((t205.length : Int) < (t202.length : Int)) = true := decide_eq_true c27
                have c27b1 : decide (t205.length < t202.length) = true := decide_eq_true (Int.ofNat_lt.mp c27)
                clear c27
                obtain rfl := Option.some.inj H
                obtain ⟨Ao28, co28, eo28⟩ := Kd.R_slice HO_5.out
                subst eo28
                obtain ⟨Ao29, co29, eo29⟩ := Kd.R_slice HO_6.out
                subst eo29
                go_wp2
                repeat (go_quiet (fail); try go_wp2)
                go_ret
                exact ⟨by first | rfl | (simp [errW_none, errW_some] <;> rfl) | (simp [*, errW_none, errW_some] <;> rfl), by repeat (first | (with_reducible first | exact HB.out | apply below_alloc | apply pw_below_drewN | apply below_drew1) | exact HB.out)⟩
              · rw [if_neg c27] at H
                have c27b0 : decide ((t205.length : Int) < (t202.length : Int)) = false := decide_eq_false c27
                have c27b1 : decide (t205.length < t202.length) = false := decide_eq_false (fun h => c27 (Int.ofNat_lt.mpr h))
                clear c27
                obtain rfl := Option.some.inj H
                obtain ⟨Ao30, co30, eo30⟩ := Kd.R_slice HO_5.out
                subst eo30
                obtain ⟨Ao31, co31, eo31⟩ := Kd.R_slice HO_6.out
                subst eo31
                go_wp2
                repeat (go_quiet (fail); try go_wp2)
                go_ret
                exact ⟨by first | rfl | (simp [errW_none, errW_some] <;> rfl) | (simp [*, errW_none, errW_some] <;> rfl), by repeat (first | (with_reducible first | exact HB.out | apply below_alloc | apply pw_below_drewN | apply below_drew1) | exact HB.out)⟩

-- NOT PRINTED: function 13 (orthoepyref21_Less)

-- NOT PRINTED: function 16 (orthoepyref21_Sort)

-- NOT PRINTED: function 3 (orthoepylaw21_OrderAll)

-- NOT PRINTED: function 4 (orthoepylaw21_OrderRow)

/-! ### orthoepylaw00_Place: function 17 -/
def orthoepylaw00_Place.f (a0 : Int) (a1 : Int) : Option (Int) := if a1 = 0 then (none) else (if (Int.tmod a0 a1) < 0 then (some (wrap64 ((Int.tmod a0 a1) + a1))) else (some (Int.tmod a0 a1)))
set_option maxHeartbeats 8000000 in
set_option maxRecDepth 100000 in
theorem orthoepylaw00_Place.calls (a0 : Int) (a1 : Int) (r : Int) (w : World) (h : orthoepylaw00_Place.f a0 a1 = some r) :
    Calls Try.prog 17 #[.int .i64 a0, .int .i64 a1] w fun e w' => e = .returned (.int .i64 r) ∧ Drawn0 w w' := by
  have H : (if a1 = 0 then (none) else (if (Int.tmod a0 a1) < 0 then (some (wrap64 ((Int.tmod a0 a1) + a1))) else (some (Int.tmod a0 a1)))) = some r := h
  clear h
  by_cases c3 : a1 = 0
  · rw [if_pos c3] at H
    exact absurd H (by simp)
  · rw [if_neg c3] at H
    have c3b0 : (a1 == 0) = false := beq_eq_false_iff_ne.mpr c3
    have c3b1 : (a1 != 0) = true := bne_iff_ne.mpr c3
    by_cases c4 : (Int.tmod a0 a1) < 0
    · rw [if_pos c4] at H
      have c4b0 : decide ((Int.tmod a0 a1) < 0) = true := decide_eq_true c4
      clear c4
      obtain rfl := Option.some.inj H
      go_enter Try.func17, Try.ntmps17
      go_wp2
      go_ret
      exact ⟨by first | rfl | (simp; done) | (simp [*]; done), by repeat (first | exact Drawn0.refl _ | apply Drawn0.step)⟩
    · rw [if_neg c4] at H
      have c4b0 : decide ((Int.tmod a0 a1) < 0) = false := decide_eq_false c4
      clear c4
      obtain rfl := Option.some.inj H
      go_enter Try.func17, Try.ntmps17
      go_wp2
      go_ret
      exact ⟨by first | rfl | (simp; done) | (simp [*]; done), by repeat (first | exact Drawn0.refl _ | apply Drawn0.step)⟩

-- NOT PRINTED: function 19 (orthoepyref21_Merge)

-- NOT PRINTED: function 5 (orthoepylaw21_OrderMerge)

-- NOT PRINTED: function 20 (orthoepylaw21_put)

-- NOT PRINTED: function 6 (orthoepylaw21_OrderMerges)

-- NOT PRINTED: function 7 (orthoepylaw21_OrderTurned)

-- NOT PRINTED: function 8 (orthoepylaw21_OrderThree)

/-! ### orthoepylaw00_Rune: function 30 -/
theorem run_index_arr {P : Program} (w : World) (T e n : Nat) (cs : Array Value) (k ke : IntKind) (i : Int) (c : Value) (h : P.underlying T = some (.array n e)) (he : P.underlying e = some (.int ke)) (hs : (P.info? e).map (·.size) = some 1)
    (h0 : 0 ≤ i) (h1 : i < n) (hc : cs[i.toNat]? = some c) : (Instr.index T (.agg cs) (.int k i)).run P w = .ok c w := by
  obtain ⟨inf, hi, hs⟩ := Option.map_eq_some_iff.1 hs
  simp [Instr.index, run_underlying h, asIntOf, h0, h1, part, isAgg, run_underlying he, sizeOf, typeInfo, hi, hs, go_sem]
  rw [hc]
  rfl
theorem wpList_build_is {P : Program} {ops : Array Oper} {rest : List Oper} {o : Oper} {a : Act} {Q : Exit → Act → World → Prop} {W : World} (hg : o.guard = none) (t : TypeId) (parts : Array (Nat × Operand)) (ho : o.op = .build t parts) (cells : Array Value)
    (hf : P.built t (parts.map fun (i, x) => (i, a.eval x)).toList = some cells) (h : wpList P ops Q rest (a.put o.dst (.agg cells)) W) : wpList P ops Q (o :: rest) a W :=
  wpList_build hg t parts ho (by rw [hf]; rfl) (by rw [hf]; exact h)
theorem gate_build {P : Program} {ops : Array Oper} {rest : List Oper} {o : Oper} {a : Act} {Q : Exit → Act → World → Prop} {W : World} {t : TypeId} {xs : Array (Nat × Operand)} (_ho : o.op = .build t xs) (h : wpList P ops Q (o :: rest) a W) : wpList P ops Q (o :: rest) a W := h
def runeTab12 : List Int := [65, 69, 79, 97, 101, 111, 2325, 2344, 4352, 4370, 12363, 2503]
theorem runeTab12_at (i : Int) (h0 : 0 ≤ i) (h1 : i < 12) : (#[.int .i32 65, .int .i32 69, .int .i32 79, .int .i32 97, .int .i32 101, .int .i32 111, .int .i32 2325, .int .i32 2344, .int .i32 4352, .int .i32 4370, .int .i32 12363, .int .i32 2503] : Array Value)[i.toNat]? = some (.int .i32 (runeTab12.getD i.toNat 0)) := by
  obtain ⟨j, rfl⟩ := Int.eq_ofNat_of_zero_le h0
  have hj : j < 12 := by omega
  simp only [Int.toNat_natCast]
  match j, hj with
  | 0, _ => rfl
  | 1, _ => rfl
  | 2, _ => rfl
  | 3, _ => rfl
  | 4, _ => rfl
  | 5, _ => rfl
  | 6, _ => rfl
  | 7, _ => rfl
  | 8, _ => rfl
  | 9, _ => rfl
  | 10, _ => rfl
  | 11, _ => rfl
  | q + 12, h => exact absurd h (by omega)
theorem runeTab12_bound (j : Nat) : 0 ≤ runeTab12.getD j 0 ∧ runeTab12.getD j 0 ≤ 1114111 := by
  have h : ∀ x ∈ runeTab12, 0 ≤ x ∧ x ≤ 1114111 := by decide
  rw [List.getD_eq_getElem?_getD]
  cases hj : runeTab12[j]? with
  | none => simp
  | some x => exact h x (List.mem_of_getElem? hj)
def runeTab24 : List Int := [768, 769, 770, 771, 772, 774, 775, 776, 778, 780, 803, 807, 808, 795, 837, 820, 2364, 12441, 12442, 1456, 1460, 824, 834, 2494]
theorem runeTab24_at (i : Int) (h0 : 0 ≤ i) (h1 : i < 24) : (#[.int .i32 768, .int .i32 769, .int .i32 770, .int .i32 771, .int .i32 772, .int .i32 774, .int .i32 775, .int .i32 776, .int .i32 778, .int .i32 780, .int .i32 803, .int .i32 807, .int .i32 808, .int .i32 795, .int .i32 837, .int .i32 820, .int .i32 2364, .int .i32 12441, .int .i32 12442, .int .i32 1456, .int .i32 1460, .int .i32 824, .int .i32 834, .int .i32 2494] : Array Value)[i.toNat]? = some (.int .i32 (runeTab24.getD i.toNat 0)) := by
  obtain ⟨j, rfl⟩ := Int.eq_ofNat_of_zero_le h0
  have hj : j < 24 := by omega
  simp only [Int.toNat_natCast]
  match j, hj with
  | 0, _ => rfl
  | 1, _ => rfl
  | 2, _ => rfl
  | 3, _ => rfl
  | 4, _ => rfl
  | 5, _ => rfl
  | 6, _ => rfl
  | 7, _ => rfl
  | 8, _ => rfl
  | 9, _ => rfl
  | 10, _ => rfl
  | 11, _ => rfl
  | 12, _ => rfl
  | 13, _ => rfl
  | 14, _ => rfl
  | 15, _ => rfl
  | 16, _ => rfl
  | 17, _ => rfl
  | 18, _ => rfl
  | 19, _ => rfl
  | 20, _ => rfl
  | 21, _ => rfl
  | 22, _ => rfl
  | 23, _ => rfl
  | q + 24, h => exact absurd h (by omega)
theorem runeTab24_bound (j : Nat) : 0 ≤ runeTab24.getD j 0 ∧ runeTab24.getD j 0 ≤ 1114111 := by
  have h : ∀ x ∈ runeTab24, 0 ≤ x ∧ x ≤ 1114111 := by decide
  rw [List.getD_eq_getElem?_getD]
  cases hj : runeTab24[j]? with
  | none => simp
  | some x => exact h x (List.mem_of_getElem? hj)
def runeTab16 : List Int := [8491, 8486, 8490, 832, 833, 836, 884, 894, 2392, 2399, 63744, 64109, 194560, 119134, 64300, 10972]
theorem runeTab16_at (i : Int) (h0 : 0 ≤ i) (h1 : i < 16) : (#[.int .i32 8491, .int .i32 8486, .int .i32 8490, .int .i32 832, .int .i32 833, .int .i32 836, .int .i32 884, .int .i32 894, .int .i32 2392, .int .i32 2399, .int .i32 63744, .int .i32 64109, .int .i32 194560, .int .i32 119134, .int .i32 64300, .int .i32 10972] : Array Value)[i.toNat]? = some (.int .i32 (runeTab16.getD i.toNat 0)) := by
  obtain ⟨j, rfl⟩ := Int.eq_ofNat_of_zero_le h0
  have hj : j < 16 := by omega
  simp only [Int.toNat_natCast]
  match j, hj with
  | 0, _ => rfl
  | 1, _ => rfl
  | 2, _ => rfl
  | 3, _ => rfl
  | 4, _ => rfl
  | 5, _ => rfl
  | 6, _ => rfl
  | 7, _ => rfl
  | 8, _ => rfl
  | 9, _ => rfl
  | 10, _ => rfl
  | 11, _ => rfl
  | 12, _ => rfl
  | 13, _ => rfl
  | 14, _ => rfl
  | 15, _ => rfl
  | q + 16, h => exact absurd h (by omega)
theorem runeTab16_bound (j : Nat) : 0 ≤ runeTab16.getD j 0 ∧ runeTab16.getD j 0 ≤ 1114111 := by
  have h : ∀ x ∈ runeTab16, 0 ≤ x ∧ x ≤ 1114111 := by decide
  rw [List.getD_eq_getElem?_getD]
  cases hj : runeTab16[j]? with
  | none => simp
  | some x => exact h x (List.mem_of_getElem? hj)
def runeTab3 : List Int := [4352, 4449, 4519]
theorem runeTab3_at (i : Int) (h0 : 0 ≤ i) (h1 : i < 3) : (#[.int .i32 4352, .int .i32 4449, .int .i32 4519] : Array Value)[i.toNat]? = some (.int .i32 (runeTab3.getD i.toNat 0)) := by
  obtain ⟨j, rfl⟩ := Int.eq_ofNat_of_zero_le h0
  have hj : j < 3 := by omega
  simp only [Int.toNat_natCast]
  match j, hj with
  | 0, _ => rfl
  | 1, _ => rfl
  | 2, _ => rfl
  | q + 3, h => exact absurd h (by omega)
theorem runeTab3_bound (j : Nat) : 0 ≤ runeTab3.getD j 0 ∧ runeTab3.getD j 0 ≤ 1114111 := by
  have h : ∀ x ∈ runeTab3, 0 ≤ x ∧ x ≤ 1114111 := by decide
  rw [List.getD_eq_getElem?_getD]
  cases hj : runeTab3[j]? with
  | none => simp
  | some x => exact h x (List.mem_of_getElem? hj)
def runeTab8 : List Int := [128512, 65536, 1114109, 57344, 64307, 65533, 55295, 8232]
theorem runeTab8_at (i : Int) (h0 : 0 ≤ i) (h1 : i < 8) : (#[.int .i32 128512, .int .i32 65536, .int .i32 1114109, .int .i32 57344, .int .i32 64307, .int .i32 65533, .int .i32 55295, .int .i32 8232] : Array Value)[i.toNat]? = some (.int .i32 (runeTab8.getD i.toNat 0)) := by
  obtain ⟨j, rfl⟩ := Int.eq_ofNat_of_zero_le h0
  have hj : j < 8 := by omega
  simp only [Int.toNat_natCast]
  match j, hj with
  | 0, _ => rfl
  | 1, _ => rfl
  | 2, _ => rfl
  | 3, _ => rfl
  | 4, _ => rfl
  | 5, _ => rfl
  | 6, _ => rfl
  | 7, _ => rfl
  | q + 8, h => exact absurd h (by omega)
theorem runeTab8_bound (j : Nat) : 0 ≤ runeTab8.getD j 0 ∧ runeTab8.getD j 0 ≤ 1114111 := by
  have h : ∀ x ∈ runeTab8, 0 ≤ x ∧ x ≤ 1114111 := by decide
  rw [List.getD_eq_getElem?_getD]
  cases hj : runeTab8[j]? with
  | none => simp
  | some x => exact h x (List.mem_of_getElem? hj)
/-- What rune a number below 2^40 stands for. -/
def runeV (k : Int) : Int :=
  if k % 16 < 2 then 97 + k / 16 % 100000 % 26 else if k % 16 = 2 then runeTab12.getD (k / 16 % 100000 % 12).toNat 0 else if k % 16 < 6 then runeTab24.getD (k / 16 % 100000 % 24).toNat 0 else if k % 16 = 6 then 192 + k / 16 % 100000 % 448
  else if k % 16 = 7 then 7680 + k / 16 % 100000 % 512 else if k % 16 = 8 then runeTab16.getD (k / 16 % 16).toNat 0 else if k % 16 = 9 then 44032 + k / 16 % 100000 % 11172
  else if k % 16 = 10 then runeTab3.getD (k / 16 % 100000 % 3).toNat 0 + k / 16 % 100000 / 3 % 30 else if k % 16 = 11 then runeTab8.getD (k / 16 % 8).toNat 0 else if k % 16 = 12 then k / 16 % 100000 % 128
  else if k % 16 = 13 then 880 + k / 16 % 100000 % 1536 else if k % 16 = 14 then 12352 + k / 16 % 100000 % 192 else k / 16 % 1114112
theorem runeV_bound (k : Int) (h0 : 0 ≤ k) : 0 ≤ runeV k ∧ runeV k ≤ 2147483647 := by
  have b12 := runeTab12_bound (k / 16 % 100000 % 12).toNat
  have b24 := runeTab24_bound (k / 16 % 100000 % 24).toNat
  have b16 := runeTab16_bound (k / 16 % 16).toNat
  have b3 := runeTab3_bound (k / 16 % 100000 % 3).toNat
  have b8 := runeTab8_bound (k / 16 % 8).toNat
  unfold runeV
  (repeat' split) <;> omega
def orthoepylaw00_Rune.f (a0 : Int) : Option (Int) := (orthoepylaw00_Place.f a0 1099511627776).bind fun k => if 0 ≤ k ∧ k < 1099511627776 then some (runeV k) else none
set_option maxHeartbeats 8000000 in
set_option maxRecDepth 100000 in
theorem orthoepylaw00_Rune.case0 (a0 : Int) (k : Int) (w : World) (h0 : 0 ≤ k) (h1 : k < 1099511627776) (hp : Aside0 (orthoepylaw00_Place.f a0 1099511627776 = some k)) (c0 : (k % 16 == 0) = true) :
    Calls Try.prog 30 #[.int .i64 a0] w fun e w' => e = .returned (.int .i32 (97 + k / 16 % 100000 % 26)) ∧ Drawn0 w w' := by
  go_enter Try.func30, Try.ntmps30
  go_wp2_with (first | ((with_reducible refine gate_callee (f := 17) rfl ?_); refine goesL_ (some 6) rfl rfl Try.func17 (by kernel_rfl) rfl #[.int .i64 a0, .int .i64 1099511627776] rfl (by (try simp only [List.map_toArray, List.map_cons, List.map_nil]); first | done | rfl) ?_; (with_reducible refine (orthoepylaw00_Place.calls a0 1099511627776 k _ hp.out).mono ?_); rintro e w' ⟨rfl, ⟨nd, rfl⟩⟩; refine ⟨_, rfl, ?_⟩))
  go_ret
  exact ⟨by first | rfl | (simp; done), by repeat (first | exact Drawn0.refl _ | apply Drawn0.step)⟩
set_option maxHeartbeats 8000000 in
set_option maxRecDepth 100000 in
theorem orthoepylaw00_Rune.case1 (a0 : Int) (k : Int) (w : World) (h0 : 0 ≤ k) (h1 : k < 1099511627776) (hp : Aside0 (orthoepylaw00_Place.f a0 1099511627776 = some k)) (c0 : (k % 16 == 0) = false) (c1 : (k % 16 == 1) = true) :
    Calls Try.prog 30 #[.int .i64 a0] w fun e w' => e = .returned (.int .i32 (97 + k / 16 % 100000 % 26)) ∧ Drawn0 w w' := by
  go_enter Try.func30, Try.ntmps30
  go_wp2_with (first | ((with_reducible refine gate_callee (f := 17) rfl ?_); refine goesL_ (some 6) rfl rfl Try.func17 (by kernel_rfl) rfl #[.int .i64 a0, .int .i64 1099511627776] rfl (by (try simp only [List.map_toArray, List.map_cons, List.map_nil]); first | done | rfl) ?_; (with_reducible refine (orthoepylaw00_Place.calls a0 1099511627776 k _ hp.out).mono ?_); rintro e w' ⟨rfl, ⟨nd, rfl⟩⟩; refine ⟨_, rfl, ?_⟩))
  go_ret
  exact ⟨by first | rfl | (simp; done), by repeat (first | exact Drawn0.refl _ | apply Drawn0.step)⟩
set_option maxHeartbeats 8000000 in
set_option maxRecDepth 100000 in
theorem orthoepylaw00_Rune.case2 (a0 : Int) (k : Int) (w : World) (h0 : 0 ≤ k) (h1 : k < 1099511627776) (hp : Aside0 (orthoepylaw00_Place.f a0 1099511627776 = some k)) (c0 : (k % 16 == 0) = false) (c1 : (k % 16 == 1) = false) (c2 : (k % 16 == 2) = true) :
    Calls Try.prog 30 #[.int .i64 a0] w fun e w' => e = .returned (.int .i32 (runeTab12.getD (k / 16 % 100000 % 12).toNat 0)) ∧ Drawn0 w w' := by
  have hidx : ∀ w : World, (Instr.index 61 (.agg (#[.int .i32 65, .int .i32 69, .int .i32 79, .int .i32 97, .int .i32 101, .int .i32 111, .int .i32 2325, .int .i32 2344, .int .i32 4352, .int .i32 4370, .int .i32 12363, .int .i32 2503])) (.int .i32 (k / 16 % 100000 % 12))).run Try.prog w = .ok (.int .i32 (runeTab12.getD (k / 16 % 100000 % 12).toNat 0)) w := fun w => run_index_arr w 61 21 12 _ .i32 .i32 _ _ Try.underlying61 Try.underlying21 (by kernel_rfl) (by omega) (by omega) (runeTab12_at _ (by omega) (by omega))
  have hb := runeTab12_bound (k / 16 % 100000 % 12).toNat
  rw [List.getD_eq_getElem?_getD] at hb
  go_enter Try.func30, Try.ntmps30
  go_wp2_with (first | ((with_reducible refine gate_callee (f := 17) rfl ?_); refine goesL_ (some 6) rfl rfl Try.func17 (by kernel_rfl) rfl #[.int .i64 a0, .int .i64 1099511627776] rfl (by (try simp only [List.map_toArray, List.map_cons, List.map_nil]); first | done | rfl) ?_; (with_reducible refine (orthoepylaw00_Place.calls a0 1099511627776 k _ hp.out).mono ?_); rintro e w' ⟨rfl, ⟨nd, rfl⟩⟩; refine ⟨_, rfl, ?_⟩) | ((with_reducible refine gate_build (t := 61) rfl ?_); refine wpList_build_is rfl 61 _ rfl (#[.int .i32 65, .int .i32 69, .int .i32 79, .int .i32 97, .int .i32 101, .int .i32 111, .int .i32 2325, .int .i32 2344, .int .i32 4352, .int .i32 4370, .int .i32 12363, .int .i32 2503]) (by kernel_rfl) ?_))
  go_ret
  exact ⟨by first | rfl | (simp; done), by repeat (first | exact Drawn0.refl _ | apply Drawn0.step)⟩
set_option maxHeartbeats 8000000 in
set_option maxRecDepth 100000 in
theorem orthoepylaw00_Rune.case3 (a0 : Int) (k : Int) (w : World) (h0 : 0 ≤ k) (h1 : k < 1099511627776) (hp : Aside0 (orthoepylaw00_Place.f a0 1099511627776 = some k)) (c0 : (k % 16 == 0) = false) (c1 : (k % 16 == 1) = false) (c2 : (k % 16 == 2) = false) (c3 : (k % 16 == 3) = true) :
    Calls Try.prog 30 #[.int .i64 a0] w fun e w' => e = .returned (.int .i32 (runeTab24.getD (k / 16 % 100000 % 24).toNat 0)) ∧ Drawn0 w w' := by
  have hidx : ∀ w : World, (Instr.index 62 (.agg (#[.int .i32 768, .int .i32 769, .int .i32 770, .int .i32 771, .int .i32 772, .int .i32 774, .int .i32 775, .int .i32 776, .int .i32 778, .int .i32 780, .int .i32 803, .int .i32 807, .int .i32 808, .int .i32 795, .int .i32 837, .int .i32 820, .int .i32 2364, .int .i32 12441, .int .i32 12442, .int .i32 1456, .int .i32 1460, .int .i32 824, .int .i32 834, .int .i32 2494])) (.int .i32 (k / 16 % 100000 % 24))).run Try.prog w = .ok (.int .i32 (runeTab24.getD (k / 16 % 100000 % 24).toNat 0)) w := fun w => run_index_arr w 62 21 24 _ .i32 .i32 _ _ Try.underlying62 Try.underlying21 (by kernel_rfl) (by omega) (by omega) (runeTab24_at _ (by omega) (by omega))
  have hb := runeTab24_bound (k / 16 % 100000 % 24).toNat
  rw [List.getD_eq_getElem?_getD] at hb
  go_enter Try.func30, Try.ntmps30
  go_wp2_with (first | ((with_reducible refine gate_callee (f := 17) rfl ?_); refine goesL_ (some 6) rfl rfl Try.func17 (by kernel_rfl) rfl #[.int .i64 a0, .int .i64 1099511627776] rfl (by (try simp only [List.map_toArray, List.map_cons, List.map_nil]); first | done | rfl) ?_; (with_reducible refine (orthoepylaw00_Place.calls a0 1099511627776 k _ hp.out).mono ?_); rintro e w' ⟨rfl, ⟨nd, rfl⟩⟩; refine ⟨_, rfl, ?_⟩) | ((with_reducible refine gate_build (t := 62) rfl ?_); refine wpList_build_is rfl 62 _ rfl (#[.int .i32 768, .int .i32 769, .int .i32 770, .int .i32 771, .int .i32 772, .int .i32 774, .int .i32 775, .int .i32 776, .int .i32 778, .int .i32 780, .int .i32 803, .int .i32 807, .int .i32 808, .int .i32 795, .int .i32 837, .int .i32 820, .int .i32 2364, .int .i32 12441, .int .i32 12442, .int .i32 1456, .int .i32 1460, .int .i32 824, .int .i32 834, .int .i32 2494]) (by kernel_rfl) ?_))
  go_ret
  exact ⟨by first | rfl | (simp; done), by repeat (first | exact Drawn0.refl _ | apply Drawn0.step)⟩
set_option maxHeartbeats 8000000 in
set_option maxRecDepth 100000 in
theorem orthoepylaw00_Rune.case4 (a0 : Int) (k : Int) (w : World) (h0 : 0 ≤ k) (h1 : k < 1099511627776) (hp : Aside0 (orthoepylaw00_Place.f a0 1099511627776 = some k)) (c0 : (k % 16 == 0) = false) (c1 : (k % 16 == 1) = false) (c2 : (k % 16 == 2) = false) (c3 : (k % 16 == 3) = false) (c4 : (k % 16 == 4) = true) :
    Calls Try.prog 30 #[.int .i64 a0] w fun e w' => e = .returned (.int .i32 (runeTab24.getD (k / 16 % 100000 % 24).toNat 0)) ∧ Drawn0 w w' := by
  have hidx : ∀ w : World, (Instr.index 62 (.agg (#[.int .i32 768, .int .i32 769, .int .i32 770, .int .i32 771, .int .i32 772, .int .i32 774, .int .i32 775, .int .i32 776, .int .i32 778, .int .i32 780, .int .i32 803, .int .i32 807, .int .i32 808, .int .i32 795, .int .i32 837, .int .i32 820, .int .i32 2364, .int .i32 12441, .int .i32 12442, .int .i32 1456, .int .i32 1460, .int .i32 824, .int .i32 834, .int .i32 2494])) (.int .i32 (k / 16 % 100000 % 24))).run Try.prog w = .ok (.int .i32 (runeTab24.getD (k / 16 % 100000 % 24).toNat 0)) w := fun w => run_index_arr w 62 21 24 _ .i32 .i32 _ _ Try.underlying62 Try.underlying21 (by kernel_rfl) (by omega) (by omega) (runeTab24_at _ (by omega) (by omega))
  have hb := runeTab24_bound (k / 16 % 100000 % 24).toNat
  rw [List.getD_eq_getElem?_getD] at hb
  go_enter Try.func30, Try.ntmps30
  go_wp2_with (first | ((with_reducible refine gate_callee (f := 17) rfl ?_); refine goesL_ (some 6) rfl rfl Try.func17 (by kernel_rfl) rfl #[.int .i64 a0, .int .i64 1099511627776] rfl (by (try simp only [List.map_toArray, List.map_cons, List.map_nil]); first | done | rfl) ?_; (with_reducible refine (orthoepylaw00_Place.calls a0 1099511627776 k _ hp.out).mono ?_); rintro e w' ⟨rfl, ⟨nd, rfl⟩⟩; refine ⟨_, rfl, ?_⟩) | ((with_reducible refine gate_build (t := 62) rfl ?_); refine wpList_build_is rfl 62 _ rfl (#[.int .i32 768, .int .i32 769, .int .i32 770, .int .i32 771, .int .i32 772, .int .i32 774, .int .i32 775, .int .i32 776, .int .i32 778, .int .i32 780, .int .i32 803, .int .i32 807, .int .i32 808, .int .i32 795, .int .i32 837, .int .i32 820, .int .i32 2364, .int .i32 12441, .int .i32 12442, .int .i32 1456, .int .i32 1460, .int .i32 824, .int .i32 834, .int .i32 2494]) (by kernel_rfl) ?_))
  go_ret
  exact ⟨by first | rfl | (simp; done), by repeat (first | exact Drawn0.refl _ | apply Drawn0.step)⟩
set_option maxHeartbeats 8000000 in
set_option maxRecDepth 100000 in
theorem orthoepylaw00_Rune.case5 (a0 : Int) (k : Int) (w : World) (h0 : 0 ≤ k) (h1 : k < 1099511627776) (hp : Aside0 (orthoepylaw00_Place.f a0 1099511627776 = some k)) (c0 : (k % 16 == 0) = false) (c1 : (k % 16 == 1) = false) (c2 : (k % 16 == 2) = false) (c3 : (k % 16 == 3) = false) (c4 : (k % 16 == 4) = false) (c5 : (k % 16 == 5) = true) :
    Calls Try.prog 30 #[.int .i64 a0] w fun e w' => e = .returned (.int .i32 (runeTab24.getD (k / 16 % 100000 % 24).toNat 0)) ∧ Drawn0 w w' := by
  have hidx : ∀ w : World, (Instr.index 62 (.agg (#[.int .i32 768, .int .i32 769, .int .i32 770, .int .i32 771, .int .i32 772, .int .i32 774, .int .i32 775, .int .i32 776, .int .i32 778, .int .i32 780, .int .i32 803, .int .i32 807, .int .i32 808, .int .i32 795, .int .i32 837, .int .i32 820, .int .i32 2364, .int .i32 12441, .int .i32 12442, .int .i32 1456, .int .i32 1460, .int .i32 824, .int .i32 834, .int .i32 2494])) (.int .i32 (k / 16 % 100000 % 24))).run Try.prog w = .ok (.int .i32 (runeTab24.getD (k / 16 % 100000 % 24).toNat 0)) w := fun w => run_index_arr w 62 21 24 _ .i32 .i32 _ _ Try.underlying62 Try.underlying21 (by kernel_rfl) (by omega) (by omega) (runeTab24_at _ (by omega) (by omega))
  have hb := runeTab24_bound (k / 16 % 100000 % 24).toNat
  rw [List.getD_eq_getElem?_getD] at hb
  go_enter Try.func30, Try.ntmps30
  go_wp2_with (first | ((with_reducible refine gate_callee (f := 17) rfl ?_); refine goesL_ (some 6) rfl rfl Try.func17 (by kernel_rfl) rfl #[.int .i64 a0, .int .i64 1099511627776] rfl (by (try simp only [List.map_toArray, List.map_cons, List.map_nil]); first | done | rfl) ?_; (with_reducible refine (orthoepylaw00_Place.calls a0 1099511627776 k _ hp.out).mono ?_); rintro e w' ⟨rfl, ⟨nd, rfl⟩⟩; refine ⟨_, rfl, ?_⟩) | ((with_reducible refine gate_build (t := 62) rfl ?_); refine wpList_build_is rfl 62 _ rfl (#[.int .i32 768, .int .i32 769, .int .i32 770, .int .i32 771, .int .i32 772, .int .i32 774, .int .i32 775, .int .i32 776, .int .i32 778, .int .i32 780, .int .i32 803, .int .i32 807, .int .i32 808, .int .i32 795, .int .i32 837, .int .i32 820, .int .i32 2364, .int .i32 12441, .int .i32 12442, .int .i32 1456, .int .i32 1460, .int .i32 824, .int .i32 834, .int .i32 2494]) (by kernel_rfl) ?_))
  go_ret
  exact ⟨by first | rfl | (simp; done), by repeat (first | exact Drawn0.refl _ | apply Drawn0.step)⟩
set_option maxHeartbeats 8000000 in
set_option maxRecDepth 100000 in
theorem orthoepylaw00_Rune.case6 (a0 : Int) (k : Int) (w : World) (h0 : 0 ≤ k) (h1 : k < 1099511627776) (hp : Aside0 (orthoepylaw00_Place.f a0 1099511627776 = some k)) (c0 : (k % 16 == 0) = false) (c1 : (k % 16 == 1) = false) (c2 : (k % 16 == 2) = false) (c3 : (k % 16 == 3) = false) (c4 : (k % 16 == 4) = false) (c5 : (k % 16 == 5) = false) (c6 : (k % 16 == 6) = true) :
    Calls Try.prog 30 #[.int .i64 a0] w fun e w' => e = .returned (.int .i32 (192 + k / 16 % 100000 % 448)) ∧ Drawn0 w w' := by
  go_enter Try.func30, Try.ntmps30
  go_wp2_with (first | ((with_reducible refine gate_callee (f := 17) rfl ?_); refine goesL_ (some 6) rfl rfl Try.func17 (by kernel_rfl) rfl #[.int .i64 a0, .int .i64 1099511627776] rfl (by (try simp only [List.map_toArray, List.map_cons, List.map_nil]); first | done | rfl) ?_; (with_reducible refine (orthoepylaw00_Place.calls a0 1099511627776 k _ hp.out).mono ?_); rintro e w' ⟨rfl, ⟨nd, rfl⟩⟩; refine ⟨_, rfl, ?_⟩))
  go_ret
  exact ⟨by first | rfl | (simp; done), by repeat (first | exact Drawn0.refl _ | apply Drawn0.step)⟩
set_option maxHeartbeats 8000000 in
set_option maxRecDepth 100000 in
theorem orthoepylaw00_Rune.case7 (a0 : Int) (k : Int) (w : World) (h0 : 0 ≤ k) (h1 : k < 1099511627776) (hp : Aside0 (orthoepylaw00_Place.f a0 1099511627776 = some k)) (c0 : (k % 16 == 0) = false) (c1 : (k % 16 == 1) = false) (c2 : (k % 16 == 2) = false) (c3 : (k % 16 == 3) = false) (c4 : (k % 16 == 4) = false) (c5 : (k % 16 == 5) = false) (c6 : (k % 16 == 6) = false) (c7 : (k % 16 == 7) = true) :
    Calls Try.prog 30 #[.int .i64 a0] w fun e w' => e = .returned (.int .i32 (7680 + k / 16 % 100000 % 512)) ∧ Drawn0 w w' := by
  go_enter Try.func30, Try.ntmps30
  go_wp2_with (first | ((with_reducible refine gate_callee (f := 17) rfl ?_); refine goesL_ (some 6) rfl rfl Try.func17 (by kernel_rfl) rfl #[.int .i64 a0, .int .i64 1099511627776] rfl (by (try simp only [List.map_toArray, List.map_cons, List.map_nil]); first | done | rfl) ?_; (with_reducible refine (orthoepylaw00_Place.calls a0 1099511627776 k _ hp.out).mono ?_); rintro e w' ⟨rfl, ⟨nd, rfl⟩⟩; refine ⟨_, rfl, ?_⟩))
  go_ret
  exact ⟨by first | rfl | (simp; done), by repeat (first | exact Drawn0.refl _ | apply Drawn0.step)⟩
set_option maxHeartbeats 8000000 in
set_option maxRecDepth 100000 in
theorem orthoepylaw00_Rune.case8 (a0 : Int) (k : Int) (w : World) (h0 : 0 ≤ k) (h1 : k < 1099511627776) (hp : Aside0 (orthoepylaw00_Place.f a0 1099511627776 = some k)) (c0 : (k % 16 == 0) = false) (c1 : (k % 16 == 1) = false) (c2 : (k % 16 == 2) = false) (c3 : (k % 16 == 3) = false) (c4 : (k % 16 == 4) = false) (c5 : (k % 16 == 5) = false) (c6 : (k % 16 == 6) = false) (c7 : (k % 16 == 7) = false) (c8 : (k % 16 == 8) = true) :
    Calls Try.prog 30 #[.int .i64 a0] w fun e w' => e = .returned (.int .i32 (runeTab16.getD (k / 16 % 16).toNat 0)) ∧ Drawn0 w w' := by
  have hidx : ∀ w : World, (Instr.index 63 (.agg (#[.int .i32 8491, .int .i32 8486, .int .i32 8490, .int .i32 832, .int .i32 833, .int .i32 836, .int .i32 884, .int .i32 894, .int .i32 2392, .int .i32 2399, .int .i32 63744, .int .i32 64109, .int .i32 194560, .int .i32 119134, .int .i32 64300, .int .i32 10972])) (.int .i32 (k / 16 % 16))).run Try.prog w = .ok (.int .i32 (runeTab16.getD (k / 16 % 16).toNat 0)) w := fun w => run_index_arr w 63 21 16 _ .i32 .i32 _ _ Try.underlying63 Try.underlying21 (by kernel_rfl) (by omega) (by omega) (runeTab16_at _ (by omega) (by omega))
  have hb := runeTab16_bound (k / 16 % 16).toNat
  rw [List.getD_eq_getElem?_getD] at hb
  go_enter Try.func30, Try.ntmps30
  go_wp2_with (first | ((with_reducible refine gate_callee (f := 17) rfl ?_); refine goesL_ (some 6) rfl rfl Try.func17 (by kernel_rfl) rfl #[.int .i64 a0, .int .i64 1099511627776] rfl (by (try simp only [List.map_toArray, List.map_cons, List.map_nil]); first | done | rfl) ?_; (with_reducible refine (orthoepylaw00_Place.calls a0 1099511627776 k _ hp.out).mono ?_); rintro e w' ⟨rfl, ⟨nd, rfl⟩⟩; refine ⟨_, rfl, ?_⟩) | ((with_reducible refine gate_build (t := 63) rfl ?_); refine wpList_build_is rfl 63 _ rfl (#[.int .i32 8491, .int .i32 8486, .int .i32 8490, .int .i32 832, .int .i32 833, .int .i32 836, .int .i32 884, .int .i32 894, .int .i32 2392, .int .i32 2399, .int .i32 63744, .int .i32 64109, .int .i32 194560, .int .i32 119134, .int .i32 64300, .int .i32 10972]) (by kernel_rfl) ?_))
  go_ret
  exact ⟨by first | rfl | (simp; done), by repeat (first | exact Drawn0.refl _ | apply Drawn0.step)⟩
set_option maxHeartbeats 8000000 in
set_option maxRecDepth 100000 in
theorem orthoepylaw00_Rune.case9 (a0 : Int) (k : Int) (w : World) (h0 : 0 ≤ k) (h1 : k < 1099511627776) (hp : Aside0 (orthoepylaw00_Place.f a0 1099511627776 = some k)) (c0 : (k % 16 == 0) = false) (c1 : (k % 16 == 1) = false) (c2 : (k % 16 == 2) = false) (c3 : (k % 16 == 3) = false) (c4 : (k % 16 == 4) = false) (c5 : (k % 16 == 5) = false) (c6 : (k % 16 == 6) = false) (c7 : (k % 16 == 7) = false) (c8 : (k % 16 == 8) = false) (c9 : (k % 16 == 9) = true) :
    Calls Try.prog 30 #[.int .i64 a0] w fun e w' => e = .returned (.int .i32 (44032 + k / 16 % 100000 % 11172)) ∧ Drawn0 w w' := by
  go_enter Try.func30, Try.ntmps30
  go_wp2_with (first | ((with_reducible refine gate_callee (f := 17) rfl ?_); refine goesL_ (some 6) rfl rfl Try.func17 (by kernel_rfl) rfl #[.int .i64 a0, .int .i64 1099511627776] rfl (by (try simp only [List.map_toArray, List.map_cons, List.map_nil]); first | done | rfl) ?_; (with_reducible refine (orthoepylaw00_Place.calls a0 1099511627776 k _ hp.out).mono ?_); rintro e w' ⟨rfl, ⟨nd, rfl⟩⟩; refine ⟨_, rfl, ?_⟩))
  go_ret
  exact ⟨by first | rfl | (simp; done), by repeat (first | exact Drawn0.refl _ | apply Drawn0.step)⟩
set_option maxHeartbeats 8000000 in
set_option maxRecDepth 100000 in
theorem orthoepylaw00_Rune.case10 (a0 : Int) (k : Int) (w : World) (h0 : 0 ≤ k) (h1 : k < 1099511627776) (hp : Aside0 (orthoepylaw00_Place.f a0 1099511627776 = some k)) (c0 : (k % 16 == 0) = false) (c1 : (k % 16 == 1) = false) (c2 : (k % 16 == 2) = false) (c3 : (k % 16 == 3) = false) (c4 : (k % 16 == 4) = false) (c5 : (k % 16 == 5) = false) (c6 : (k % 16 == 6) = false) (c7 : (k % 16 == 7) = false) (c8 : (k % 16 == 8) = false) (c9 : (k % 16 == 9) = false) (c10 : (k % 16 == 10) = true) :
    Calls Try.prog 30 #[.int .i64 a0] w fun e w' => e = .returned (.int .i32 (runeTab3.getD (k / 16 % 100000 % 3).toNat 0 + k / 16 % 100000 / 3 % 30)) ∧ Drawn0 w w' := by
  have hidx : ∀ w : World, (Instr.index 64 (.agg (#[.int .i32 4352, .int .i32 4449, .int .i32 4519])) (.int .i32 (k / 16 % 100000 % 3))).run Try.prog w = .ok (.int .i32 (runeTab3.getD (k / 16 % 100000 % 3).toNat 0)) w := fun w => run_index_arr w 64 21 3 _ .i32 .i32 _ _ Try.underlying64 Try.underlying21 (by kernel_rfl) (by omega) (by omega) (runeTab3_at _ (by omega) (by omega))
  have hb := runeTab3_bound (k / 16 % 100000 % 3).toNat
  rw [List.getD_eq_getElem?_getD] at hb
  go_enter Try.func30, Try.ntmps30
  go_wp2_with (first | ((with_reducible refine gate_callee (f := 17) rfl ?_); refine goesL_ (some 6) rfl rfl Try.func17 (by kernel_rfl) rfl #[.int .i64 a0, .int .i64 1099511627776] rfl (by (try simp only [List.map_toArray, List.map_cons, List.map_nil]); first | done | rfl) ?_; (with_reducible refine (orthoepylaw00_Place.calls a0 1099511627776 k _ hp.out).mono ?_); rintro e w' ⟨rfl, ⟨nd, rfl⟩⟩; refine ⟨_, rfl, ?_⟩) | ((with_reducible refine gate_build (t := 64) rfl ?_); refine wpList_build_is rfl 64 _ rfl (#[.int .i32 4352, .int .i32 4449, .int .i32 4519]) (by kernel_rfl) ?_))
  go_ret
  exact ⟨by first | rfl | (simp; done), by repeat (first | exact Drawn0.refl _ | apply Drawn0.step)⟩
set_option maxHeartbeats 8000000 in
set_option maxRecDepth 100000 in
theorem orthoepylaw00_Rune.case11 (a0 : Int) (k : Int) (w : World) (h0 : 0 ≤ k) (h1 : k < 1099511627776) (hp : Aside0 (orthoepylaw00_Place.f a0 1099511627776 = some k)) (c0 : (k % 16 == 0) = false) (c1 : (k % 16 == 1) = false) (c2 : (k % 16 == 2) = false) (c3 : (k % 16 == 3) = false) (c4 : (k % 16 == 4) = false) (c5 : (k % 16 == 5) = false) (c6 : (k % 16 == 6) = false) (c7 : (k % 16 == 7) = false) (c8 : (k % 16 == 8) = false) (c9 : (k % 16 == 9) = false) (c10 : (k % 16 == 10) = false) (c11 : (k % 16 == 11) = true) :
    Calls Try.prog 30 #[.int .i64 a0] w fun e w' => e = .returned (.int .i32 (runeTab8.getD (k / 16 % 8).toNat 0)) ∧ Drawn0 w w' := by
  have hidx : ∀ w : World, (Instr.index 65 (.agg (#[.int .i32 128512, .int .i32 65536, .int .i32 1114109, .int .i32 57344, .int .i32 64307, .int .i32 65533, .int .i32 55295, .int .i32 8232])) (.int .i32 (k / 16 % 8))).run Try.prog w = .ok (.int .i32 (runeTab8.getD (k / 16 % 8).toNat 0)) w := fun w => run_index_arr w 65 21 8 _ .i32 .i32 _ _ Try.underlying65 Try.underlying21 (by kernel_rfl) (by omega) (by omega) (runeTab8_at _ (by omega) (by omega))
  have hb := runeTab8_bound (k / 16 % 8).toNat
  rw [List.getD_eq_getElem?_getD] at hb
  go_enter Try.func30, Try.ntmps30
  go_wp2_with (first | ((with_reducible refine gate_callee (f := 17) rfl ?_); refine goesL_ (some 6) rfl rfl Try.func17 (by kernel_rfl) rfl #[.int .i64 a0, .int .i64 1099511627776] rfl (by (try simp only [List.map_toArray, List.map_cons, List.map_nil]); first | done | rfl) ?_; (with_reducible refine (orthoepylaw00_Place.calls a0 1099511627776 k _ hp.out).mono ?_); rintro e w' ⟨rfl, ⟨nd, rfl⟩⟩; refine ⟨_, rfl, ?_⟩) | ((with_reducible refine gate_build (t := 65) rfl ?_); refine wpList_build_is rfl 65 _ rfl (#[.int .i32 128512, .int .i32 65536, .int .i32 1114109, .int .i32 57344, .int .i32 64307, .int .i32 65533, .int .i32 55295, .int .i32 8232]) (by kernel_rfl) ?_))
  go_ret
  exact ⟨by first | rfl | (simp; done), by repeat (first | exact Drawn0.refl _ | apply Drawn0.step)⟩
set_option maxHeartbeats 8000000 in
set_option maxRecDepth 100000 in
theorem orthoepylaw00_Rune.case12 (a0 : Int) (k : Int) (w : World) (h0 : 0 ≤ k) (h1 : k < 1099511627776) (hp : Aside0 (orthoepylaw00_Place.f a0 1099511627776 = some k)) (c0 : (k % 16 == 0) = false) (c1 : (k % 16 == 1) = false) (c2 : (k % 16 == 2) = false) (c3 : (k % 16 == 3) = false) (c4 : (k % 16 == 4) = false) (c5 : (k % 16 == 5) = false) (c6 : (k % 16 == 6) = false) (c7 : (k % 16 == 7) = false) (c8 : (k % 16 == 8) = false) (c9 : (k % 16 == 9) = false) (c10 : (k % 16 == 10) = false) (c11 : (k % 16 == 11) = false) (c12 : (k % 16 == 12) = true) :
    Calls Try.prog 30 #[.int .i64 a0] w fun e w' => e = .returned (.int .i32 (k / 16 % 100000 % 128)) ∧ Drawn0 w w' := by
  go_enter Try.func30, Try.ntmps30
  go_wp2_with (first | ((with_reducible refine gate_callee (f := 17) rfl ?_); refine goesL_ (some 6) rfl rfl Try.func17 (by kernel_rfl) rfl #[.int .i64 a0, .int .i64 1099511627776] rfl (by (try simp only [List.map_toArray, List.map_cons, List.map_nil]); first | done | rfl) ?_; (with_reducible refine (orthoepylaw00_Place.calls a0 1099511627776 k _ hp.out).mono ?_); rintro e w' ⟨rfl, ⟨nd, rfl⟩⟩; refine ⟨_, rfl, ?_⟩))
  go_ret
  exact ⟨by first | rfl | (simp; done), by repeat (first | exact Drawn0.refl _ | apply Drawn0.step)⟩
set_option maxHeartbeats 8000000 in
set_option maxRecDepth 100000 in
theorem orthoepylaw00_Rune.case13 (a0 : Int) (k : Int) (w : World) (h0 : 0 ≤ k) (h1 : k < 1099511627776) (hp : Aside0 (orthoepylaw00_Place.f a0 1099511627776 = some k)) (c0 : (k % 16 == 0) = false) (c1 : (k % 16 == 1) = false) (c2 : (k % 16 == 2) = false) (c3 : (k % 16 == 3) = false) (c4 : (k % 16 == 4) = false) (c5 : (k % 16 == 5) = false) (c6 : (k % 16 == 6) = false) (c7 : (k % 16 == 7) = false) (c8 : (k % 16 == 8) = false) (c9 : (k % 16 == 9) = false) (c10 : (k % 16 == 10) = false) (c11 : (k % 16 == 11) = false) (c12 : (k % 16 == 12) = false) (c13 : (k % 16 == 13) = true) :
    Calls Try.prog 30 #[.int .i64 a0] w fun e w' => e = .returned (.int .i32 (880 + k / 16 % 100000 % 1536)) ∧ Drawn0 w w' := by
  go_enter Try.func30, Try.ntmps30
  go_wp2_with (first | ((with_reducible refine gate_callee (f := 17) rfl ?_); refine goesL_ (some 6) rfl rfl Try.func17 (by kernel_rfl) rfl #[.int .i64 a0, .int .i64 1099511627776] rfl (by (try simp only [List.map_toArray, List.map_cons, List.map_nil]); first | done | rfl) ?_; (with_reducible refine (orthoepylaw00_Place.calls a0 1099511627776 k _ hp.out).mono ?_); rintro e w' ⟨rfl, ⟨nd, rfl⟩⟩; refine ⟨_, rfl, ?_⟩))
  go_ret
  exact ⟨by first | rfl | (simp; done), by repeat (first | exact Drawn0.refl _ | apply Drawn0.step)⟩
set_option maxHeartbeats 8000000 in
set_option maxRecDepth 100000 in
theorem orthoepylaw00_Rune.case14 (a0 : Int) (k : Int) (w : World) (h0 : 0 ≤ k) (h1 : k < 1099511627776) (hp : Aside0 (orthoepylaw00_Place.f a0 1099511627776 = some k)) (c0 : (k % 16 == 0) = false) (c1 : (k % 16 == 1) = false) (c2 : (k % 16 == 2) = false) (c3 : (k % 16 == 3) = false) (c4 : (k % 16 == 4) = false) (c5 : (k % 16 == 5) = false) (c6 : (k % 16 == 6) = false) (c7 : (k % 16 == 7) = false) (c8 : (k % 16 == 8) = false) (c9 : (k % 16 == 9) = false) (c10 : (k % 16 == 10) = false) (c11 : (k % 16 == 11) = false) (c12 : (k % 16 == 12) = false) (c13 : (k % 16 == 13) = false) (c14 : (k % 16 == 14) = true) :
    Calls Try.prog 30 #[.int .i64 a0] w fun e w' => e = .returned (.int .i32 (12352 + k / 16 % 100000 % 192)) ∧ Drawn0 w w' := by
  go_enter Try.func30, Try.ntmps30
  go_wp2_with (first | ((with_reducible refine gate_callee (f := 17) rfl ?_); refine goesL_ (some 6) rfl rfl Try.func17 (by kernel_rfl) rfl #[.int .i64 a0, .int .i64 1099511627776] rfl (by (try simp only [List.map_toArray, List.map_cons, List.map_nil]); first | done | rfl) ?_; (with_reducible refine (orthoepylaw00_Place.calls a0 1099511627776 k _ hp.out).mono ?_); rintro e w' ⟨rfl, ⟨nd, rfl⟩⟩; refine ⟨_, rfl, ?_⟩))
  go_ret
  exact ⟨by first | rfl | (simp; done), by repeat (first | exact Drawn0.refl _ | apply Drawn0.step)⟩
set_option maxHeartbeats 8000000 in
set_option maxRecDepth 100000 in
theorem orthoepylaw00_Rune.case15 (a0 : Int) (k : Int) (w : World) (h0 : 0 ≤ k) (h1 : k < 1099511627776) (hp : Aside0 (orthoepylaw00_Place.f a0 1099511627776 = some k)) (c0 : (k % 16 == 0) = false) (c1 : (k % 16 == 1) = false) (c2 : (k % 16 == 2) = false) (c3 : (k % 16 == 3) = false) (c4 : (k % 16 == 4) = false) (c5 : (k % 16 == 5) = false) (c6 : (k % 16 == 6) = false) (c7 : (k % 16 == 7) = false) (c8 : (k % 16 == 8) = false) (c9 : (k % 16 == 9) = false) (c10 : (k % 16 == 10) = false) (c11 : (k % 16 == 11) = false) (c12 : (k % 16 == 12) = false) (c13 : (k % 16 == 13) = false) (c14 : (k % 16 == 14) = false) :
    Calls Try.prog 30 #[.int .i64 a0] w fun e w' => e = .returned (.int .i32 (k / 16 % 1114112)) ∧ Drawn0 w w' := by
  go_enter Try.func30, Try.ntmps30
  go_wp2_with (first | ((with_reducible refine gate_callee (f := 17) rfl ?_); refine goesL_ (some 6) rfl rfl Try.func17 (by kernel_rfl) rfl #[.int .i64 a0, .int .i64 1099511627776] rfl (by (try simp only [List.map_toArray, List.map_cons, List.map_nil]); first | done | rfl) ?_; (with_reducible refine (orthoepylaw00_Place.calls a0 1099511627776 k _ hp.out).mono ?_); rintro e w' ⟨rfl, ⟨nd, rfl⟩⟩; refine ⟨_, rfl, ?_⟩))
  go_ret
  exact ⟨by first | rfl | (simp; done), by repeat (first | exact Drawn0.refl _ | apply Drawn0.step)⟩
theorem orthoepylaw00_Rune.calls (a0 : Int) (r : Int) (w : World) (h : orthoepylaw00_Rune.f a0 = some r) :
    Calls Try.prog 30 #[.int .i64 a0] w fun e w' => e = .returned (.int .i32 r) ∧ Drawn0 w w' := by
  unfold orthoepylaw00_Rune.f at h
  obtain ⟨k, hp, h⟩ := Option.bind_eq_some_iff.mp h
  split at h
  case isFalse => cases h
  case isTrue hh =>
  obtain rfl := Option.some.inj h
  obtain ⟨h0, h1⟩ := hh
  clear h
  have hp := Aside0.mk hp
  have hm : k % 16 = 0 ∨ k % 16 = 1 ∨ k % 16 = 2 ∨ k % 16 = 3 ∨ k % 16 = 4 ∨ k % 16 = 5 ∨ k % 16 = 6 ∨ k % 16 = 7 ∨ k % 16 = 8 ∨ k % 16 = 9 ∨ k % 16 = 10 ∨ k % 16 = 11 ∨ k % 16 = 12 ∨ k % 16 = 13 ∨ k % 16 = 14 ∨ k % 16 = 15 := by omega
  rcases hm with hm | hm | hm | hm | hm | hm | hm | hm | hm | hm | hm | hm | hm | hm | hm | hm
  · have e : runeV k = 97 + k / 16 % 100000 % 26 := by
      unfold runeV
      simp [hm]
    rw [e]
    exact orthoepylaw00_Rune.case0 a0 k w h0 h1 hp (by rw [hm]; rfl)
  · have e : runeV k = 97 + k / 16 % 100000 % 26 := by
      unfold runeV
      simp [hm]
    rw [e]
    exact orthoepylaw00_Rune.case1 a0 k w h0 h1 hp (by rw [hm]; rfl) (by rw [hm]; rfl)
  · have e : runeV k = runeTab12.getD (k / 16 % 100000 % 12).toNat 0 := by
      unfold runeV
      simp [hm]
    rw [e]
    exact orthoepylaw00_Rune.case2 a0 k w h0 h1 hp (by rw [hm]; rfl) (by rw [hm]; rfl) (by rw [hm]; rfl)
  · have e : runeV k = runeTab24.getD (k / 16 % 100000 % 24).toNat 0 := by
      unfold runeV
      simp [hm]
    rw [e]
    exact orthoepylaw00_Rune.case3 a0 k w h0 h1 hp (by rw [hm]; rfl) (by rw [hm]; rfl) (by rw [hm]; rfl) (by rw [hm]; rfl)
  · have e : runeV k = runeTab24.getD (k / 16 % 100000 % 24).toNat 0 := by
      unfold runeV
      simp [hm]
    rw [e]
    exact orthoepylaw00_Rune.case4 a0 k w h0 h1 hp (by rw [hm]; rfl) (by rw [hm]; rfl) (by rw [hm]; rfl) (by rw [hm]; rfl) (by rw [hm]; rfl)
  · have e : runeV k = runeTab24.getD (k / 16 % 100000 % 24).toNat 0 := by
      unfold runeV
      simp [hm]
    rw [e]
    exact orthoepylaw00_Rune.case5 a0 k w h0 h1 hp (by rw [hm]; rfl) (by rw [hm]; rfl) (by rw [hm]; rfl) (by rw [hm]; rfl) (by rw [hm]; rfl) (by rw [hm]; rfl)
  · have e : runeV k = 192 + k / 16 % 100000 % 448 := by
      unfold runeV
      simp [hm]
    rw [e]
    exact orthoepylaw00_Rune.case6 a0 k w h0 h1 hp (by rw [hm]; rfl) (by rw [hm]; rfl) (by rw [hm]; rfl) (by rw [hm]; rfl) (by rw [hm]; rfl) (by rw [hm]; rfl) (by rw [hm]; rfl)
  · have e : runeV k = 7680 + k / 16 % 100000 % 512 := by
      unfold runeV
      simp [hm]
    rw [e]
    exact orthoepylaw00_Rune.case7 a0 k w h0 h1 hp (by rw [hm]; rfl) (by rw [hm]; rfl) (by rw [hm]; rfl) (by rw [hm]; rfl) (by rw [hm]; rfl) (by rw [hm]; rfl) (by rw [hm]; rfl) (by rw [hm]; rfl)
  · have e : runeV k = runeTab16.getD (k / 16 % 16).toNat 0 := by
      unfold runeV
      simp [hm]
    rw [e]
    exact orthoepylaw00_Rune.case8 a0 k w h0 h1 hp (by rw [hm]; rfl) (by rw [hm]; rfl) (by rw [hm]; rfl) (by rw [hm]; rfl) (by rw [hm]; rfl) (by rw [hm]; rfl) (by rw [hm]; rfl) (by rw [hm]; rfl) (by rw [hm]; rfl)
  · have e : runeV k = 44032 + k / 16 % 100000 % 11172 := by
      unfold runeV
      simp [hm]
    rw [e]
    exact orthoepylaw00_Rune.case9 a0 k w h0 h1 hp (by rw [hm]; rfl) (by rw [hm]; rfl) (by rw [hm]; rfl) (by rw [hm]; rfl) (by rw [hm]; rfl) (by rw [hm]; rfl) (by rw [hm]; rfl) (by rw [hm]; rfl) (by rw [hm]; rfl) (by rw [hm]; rfl)
  · have e : runeV k = runeTab3.getD (k / 16 % 100000 % 3).toNat 0 + k / 16 % 100000 / 3 % 30 := by
      unfold runeV
      simp [hm]
    rw [e]
    exact orthoepylaw00_Rune.case10 a0 k w h0 h1 hp (by rw [hm]; rfl) (by rw [hm]; rfl) (by rw [hm]; rfl) (by rw [hm]; rfl) (by rw [hm]; rfl) (by rw [hm]; rfl) (by rw [hm]; rfl) (by rw [hm]; rfl) (by rw [hm]; rfl) (by rw [hm]; rfl) (by rw [hm]; rfl)
  · have e : runeV k = runeTab8.getD (k / 16 % 8).toNat 0 := by
      unfold runeV
      simp [hm]
    rw [e]
    exact orthoepylaw00_Rune.case11 a0 k w h0 h1 hp (by rw [hm]; rfl) (by rw [hm]; rfl) (by rw [hm]; rfl) (by rw [hm]; rfl) (by rw [hm]; rfl) (by rw [hm]; rfl) (by rw [hm]; rfl) (by rw [hm]; rfl) (by rw [hm]; rfl) (by rw [hm]; rfl) (by rw [hm]; rfl) (by rw [hm]; rfl)
  · have e : runeV k = k / 16 % 100000 % 128 := by
      unfold runeV
      simp [hm]
    rw [e]
    exact orthoepylaw00_Rune.case12 a0 k w h0 h1 hp (by rw [hm]; rfl) (by rw [hm]; rfl) (by rw [hm]; rfl) (by rw [hm]; rfl) (by rw [hm]; rfl) (by rw [hm]; rfl) (by rw [hm]; rfl) (by rw [hm]; rfl) (by rw [hm]; rfl) (by rw [hm]; rfl) (by rw [hm]; rfl) (by rw [hm]; rfl) (by rw [hm]; rfl)
  · have e : runeV k = 880 + k / 16 % 100000 % 1536 := by
      unfold runeV
      simp [hm]
    rw [e]
    exact orthoepylaw00_Rune.case13 a0 k w h0 h1 hp (by rw [hm]; rfl) (by rw [hm]; rfl) (by rw [hm]; rfl) (by rw [hm]; rfl) (by rw [hm]; rfl) (by rw [hm]; rfl) (by rw [hm]; rfl) (by rw [hm]; rfl) (by rw [hm]; rfl) (by rw [hm]; rfl) (by rw [hm]; rfl) (by rw [hm]; rfl) (by rw [hm]; rfl) (by rw [hm]; rfl)
  · have e : runeV k = 12352 + k / 16 % 100000 % 192 := by
      unfold runeV
      simp [hm]
    rw [e]
    exact orthoepylaw00_Rune.case14 a0 k w h0 h1 hp (by rw [hm]; rfl) (by rw [hm]; rfl) (by rw [hm]; rfl) (by rw [hm]; rfl) (by rw [hm]; rfl) (by rw [hm]; rfl) (by rw [hm]; rfl) (by rw [hm]; rfl) (by rw [hm]; rfl) (by rw [hm]; rfl) (by rw [hm]; rfl) (by rw [hm]; rfl) (by rw [hm]; rfl) (by rw [hm]; rfl) (by rw [hm]; rfl)
  · have e : runeV k = k / 16 % 1114112 := by
      unfold runeV
      simp [hm]
    rw [e]
    exact orthoepylaw00_Rune.case15 a0 k w h0 h1 hp (by rw [hm]; rfl) (by rw [hm]; rfl) (by rw [hm]; rfl) (by rw [hm]; rfl) (by rw [hm]; rfl) (by rw [hm]; rfl) (by rw [hm]; rfl) (by rw [hm]; rfl) (by rw [hm]; rfl) (by rw [hm]; rfl) (by rw [hm]; rfl) (by rw [hm]; rfl) (by rw [hm]; rfl) (by rw [hm]; rfl) (by rw [hm]; rfl)

/-! ### orthoepyref01_Nonchar: function 32 -/
def orthoepyref01_Nonchar.f (a0 : Int) : Option (Bool) := if a0 ≥ 64976 then (if a0 ≤ 65007 then (some true) else ((orthoepyref01_Is.f a0).bind fun t229 => (if t229 = true then (some (decide ((Int.tmod a0 65536) ≥ 65534))) else (some false)))) else ((orthoepyref01_Is.f a0).bind fun t230 => (if t230 = true then (some (decide ((Int.tmod a0 65536) ≥ 65534))) else (some false)))
set_option maxHeartbeats 8000000 in
set_option maxRecDepth 100000 in
theorem orthoepyref01_Nonchar.calls (a0 : Int) (r : Bool) (w : World) (h : orthoepyref01_Nonchar.f a0 = some r) :
    Calls Try.prog 32 #[.int .i32 a0] w fun e w' => e = .returned (.bool r) ∧ Drawn0 w w' := by
  have H : (if a0 ≥ 64976 then (if a0 ≤ 65007 then (some true) else ((orthoepyref01_Is.f a0).bind fun t229 => (if t229 = true then (some (decide ((Int.tmod a0 65536) ≥ 65534))) else (some false)))) else ((orthoepyref01_Is.f a0).bind fun t230 => (if t230 = true then (some (decide ((Int.tmod a0 65536) ≥ 65534))) else (some false)))) = some r := h
  clear h
  by_cases c2 : a0 ≥ 64976
  · rw [if_pos c2] at H
    have c2b0 : decide (64976 ≤ a0) = true := decide_eq_true c2
    clear c2
    by_cases c3 : a0 ≤ 65007
    · rw [if_pos c3] at H
      have c3b0 : decide (a0 ≤ 65007) = true := decide_eq_true c3
      clear c3
      obtain rfl := Option.some.inj H
      go_enter Try.func32, Try.ntmps32
      go_wp2
      go_ret
      exact ⟨by first | rfl | (simp; done) | (simp [*]; done), by repeat (first | exact Drawn0.refl _ | apply Drawn0.step)⟩
    · rw [if_neg c3] at H
      have c3b0 : decide (a0 ≤ 65007) = false := decide_eq_false c3
      clear c3
      replace H := Option.bind_eq_some_iff.mp H
      obtain ⟨t229, A40, H⟩ := H
      replace H : (if t229 = true then (some (decide ((Int.tmod a0 65536) ≥ 65534))) else (some false)) = some r := H
      have A4 := Aside0.mk A40
      clear A40
      by_cases c5 : t229 = true
      · subst c5
        have H1 : (some (decide ((Int.tmod a0 65536) ≥ 65534))) = some r := by rw [if_pos rfl] at H; exact H
        clear H
        have H := H1
        clear H1
        obtain rfl := Option.some.inj H
        go_enter Try.func32, Try.ntmps32
        go_wp2_with (first | (go_at_call 31; (with_reducible refine (orthoepyref01_Is.calls a0 true _ A4.out).mono ?_); rintro e w' ⟨rfl, ⟨nd, rfl⟩⟩))
        go_ret
        exact ⟨by first | rfl | (simp; done) | (simp [*]; done), by repeat (first | exact Drawn0.refl _ | apply Drawn0.step)⟩
      · replace c5 := Bool.eq_false_iff.mpr c5
        subst c5
        have H1 : (some false) = some r := by rw [if_neg (show ¬ (false = true) by decide)] at H; exact H
        clear H
        have H := H1
        clear H1
        obtain rfl := Option.some.inj H
        go_enter Try.func32, Try.ntmps32
        go_wp2_with (first | (go_at_call 31; (with_reducible refine (orthoepyref01_Is.calls a0 false _ A4.out).mono ?_); rintro e w' ⟨rfl, ⟨nd, rfl⟩⟩))
        go_ret
        exact ⟨by first | rfl | (simp; done) | (simp [*]; done), by repeat (first | exact Drawn0.refl _ | apply Drawn0.step)⟩
  · rw [if_neg c2] at H
    have c2b0 : decide (64976 ≤ a0) = false := decide_eq_false c2
    clear c2
    replace H := Option.bind_eq_some_iff.mp H
    obtain ⟨t230, A60, H⟩ := H
    replace H : (if t230 = true then (some (decide ((Int.tmod a0 65536) ≥ 65534))) else (some false)) = some r := H
    have A6 := Aside0.mk A60
    clear A60
    by_cases c7 : t230 = true
    · subst c7
      have H1 : (some (decide ((Int.tmod a0 65536) ≥ 65534))) = some r := by rw [if_pos rfl] at H; exact H
      clear H
      have H := H1
      clear H1
      obtain rfl := Option.some.inj H
      go_enter Try.func32, Try.ntmps32
      go_wp2_with (first | (go_at_call 31; (with_reducible refine (orthoepyref01_Is.calls a0 true _ A6.out).mono ?_); rintro e w' ⟨rfl, ⟨nd, rfl⟩⟩))
      go_ret
      exact ⟨by first | rfl | (simp; done) | (simp [*]; done), by repeat (first | exact Drawn0.refl _ | apply Drawn0.step)⟩
    · replace c7 := Bool.eq_false_iff.mpr c7
      subst c7
      have H1 : (some false) = some r := by rw [if_neg (show ¬ (false = true) by decide)] at H; exact H
      clear H
      have H := H1
      clear H1
      obtain rfl := Option.some.inj H
      go_enter Try.func32, Try.ntmps32
      go_wp2_with (first | (go_at_call 31; (with_reducible refine (orthoepyref01_Is.calls a0 false _ A6.out).mono ?_); rintro e w' ⟨rfl, ⟨nd, rfl⟩⟩))
      go_ret
      exact ⟨by first | rfl | (simp; done) | (simp [*]; done), by repeat (first | exact Drawn0.refl _ | apply Drawn0.step)⟩

end Go.Proofs.Ytajinnlaajhoeaa.PAll
