-- The machine's side of laws, written by a program of this session (wip/gen/pp.sh). Lean checks it.
import Derived.Test.YthgloaihgpcjjaaPAllx0
import Derived.Test.YthgloaihgpcjjaaPAllx1
import Derived.Test.YthgloaihgpcjjaaPAllx2
import Derived.Test.YthgloaihgpcjjaaPAllx3
namespace Go.Proofs.Ythgloaihgpcjjaa.PAll
open Go.RowKit Go.Proofs.YthgloaihgpcjjaaW.PrintWords Go.Proofs.YthgloaihgpcjjaaW.PrintLast Go.Proofs.YthgloaihgpcjjaaW.PrintMore
attribute [local go_sem] max2_int min2_int max_two min_two max_three min_three max_four min_four   -- for this text's walks alone
set_option linter.unusedVariables false
set_option linter.unusedSimpArgs false

/-! ### orthoepyref07_Same: function 14 -/
def orthoepyref07_Same.l0 : Nat → List Int → List Int → Int → Option (Bool)
  | 0, _, _, _ => none
  | k + 1, x0, x1, x5 => if x5 < (x0.length : Int) then (if 0 ≤ x5 then (if x5 < (x1.length : Int) then (if (rd x0 x5) = (rd x1 x5) then (orthoepyref07_Same.l0 k x0 x1 (wrap64 (x5 + 1))) else (some false)) else (none)) else (none)) else (some true)
def orthoepyref07_Same.f (k : Nat) (l0 : List Int) (l1 : List Int) : Option (Bool) := if (l0.length : Int) = (l1.length : Int) then (orthoepyref07_Same.l0 k l0 l1 0) else (some false)
theorem orthoepyref07_Same.mono_l : ∀ k, (∀ y0 y1 y2, LeO (orthoepyref07_Same.l0 k y0 y1 y2) (orthoepyref07_Same.l0 (k + 1) y0 y1 y2))
  | 0 => fun _ _ _ r h => by simp [orthoepyref07_Same.l0] at h
  | k + 1 => by
    have ih0 := orthoepyref07_Same.mono_l k
    · intro y0 y1 y2
      unfold orthoepyref07_Same.l0
      repeat' first
      | (with_reducible exact ih0 _ _ _)
      | (with_reducible exact LeO.refl _)
      | (with_reducible exact LeO.none _)
      | (with_reducible refine LeO.ite ?_ ?_)
      | (with_reducible refine LeO.bind ?_ (fun _ => ?_))
      | exact ih0 _ _ _
      | exact LeO.none _
      | refine LeO.ite ?_ ?_
      | refine LeO.bind ?_ (fun _ => ?_)
theorem orthoepyref07_Same.mono : ∀ a0 a1 k, LeO (orthoepyref07_Same.f k a0 a1) (orthoepyref07_Same.f (k + 1) a0 a1) := by
  intro a0 a1 k
  have ih0 := orthoepyref07_Same.mono_l k
  unfold orthoepyref07_Same.f
  repeat' first
      | (with_reducible exact ih0 _ _ _)
      | (with_reducible exact LeO.refl _)
      | (with_reducible exact LeO.none _)
      | (with_reducible refine LeO.ite ?_ ?_)
      | (with_reducible refine LeO.bind ?_ (fun _ => ?_))
      | exact ih0 _ _ _
      | exact LeO.none _
      | refine LeO.ite ?_ ?_
      | refine LeO.bind ?_ (fun _ => ?_)
set_option maxHeartbeats 8000000 in
set_option maxRecDepth 100000 in
theorem orthoepyref07_Same.calls (k : Nat) (A0 : Option Addr) (c0 : Nat) (l0 : List Int) (A1 : Option Addr) (c1 : Nat) (l1 : List Int) (r : Bool) (w : World) (hr0 : Kd.C (Kd.int .i32) w A0 l0.length l0) (hc0 : l0.length ≤ c0) (hr1 : Kd.C (Kd.int .i32) w A1 l1.length l1) (hc1 : l1.length ≤ c1) (h : orthoepyref07_Same.f k l0 l1 = some r) :
    Calls Try.prog 14 #[.slice A0 l0.length c0, .slice A1 l1.length c1] w fun e w' => e = .returned (.bool r) ∧ Drawn0 w w' := by
  have HR0 := Aside0.mk hr0
  have HC0 := Aside0.mk hc0
  clear hr0 hc0
  have HR1 := Aside0.mk hr1
  have HC1 := Aside0.mk hc1
  clear hr1 hc1
  have H : (if (l0.length : Int) = (l1.length : Int) then (orthoepyref07_Same.l0 k l0 l1 0) else (some false)) = some r := h
  clear h
  by_cases c3 : (l0.length : Int) = (l1.length : Int)
  · rw [if_pos c3] at H
    have c3b0 : ((l0.length : Int) == (l1.length : Int)) = true := beq_iff_eq.mpr c3
    have c3b1 : ((l0.length : Int) != (l1.length : Int)) = false := bne_eq_false_iff_eq.mpr c3
    have c3b2 : (l0.length == l1.length) = true := by first | simpa using c3 | (simp at c3 ⊢; omega)
    clear c3
    have H' := Aside0.mk H
    clear H
    go_enter Try.func14, Try.ntmps14
    go_wp2
    repeat (go_quiet (fail); try go_wp2)
    go_loopg [5] k (fun kq v5 w' => ∃ (x5_1 : Int), v5 = .int .i64 x5_1 ∧ Aside0 (orthoepyref07_Same.l0 kq l0 l1 x5_1 = some r) ∧ Aside0 (kq ≤ k) ∧ Drawn0 w w')
    case atStart => exact ⟨(0), (by first | rfl | (simp; done) | (simp [*]; done)), H', ⟨Nat.le_refl _⟩, by repeat (first | exact Drawn0.refl _ | apply Drawn0.step)⟩
    case round =>
      clear H'
      try clear c1
      try clear p2
      try clear c3
      try clear c3b0
      try clear c3b1
      try clear c3b2
      obtain ⟨x5_1, rfl, HA, HK1, ⟨m1, rfl⟩⟩ := hrel
      cases gk with
      | zero => exact absurd HA.out (by simp [orthoepyref07_Same.l0])
      | succ k1 =>
        have H := HA.out
        clear HA
        simp only [orthoepyref07_Same.l0] at H
        by_cases c4 : x5_1 < (l0.length : Int)
        · rw [if_pos c4] at H
          have c4b0 : decide (x5_1 < (l0.length : Int)) = true := decide_eq_true c4
          clear c4
          by_cases c5 : 0 ≤ x5_1
          · rw [if_pos c5] at H
            have c5b0 : decide (0 ≤ x5_1) = true := decide_eq_true c5
            clear c5
            by_cases c6 : x5_1 < (l1.length : Int)
            · rw [if_pos c6] at H
              have c6b0 : decide (x5_1 < (l1.length : Int)) = true := decide_eq_true c6
              clear c6
              by_cases c7 : (rd l0 x5_1) = (rd l1 x5_1)
              · rw [if_pos c7] at H
                have c7b0 : ((rd l0 x5_1) == (rd l1 x5_1)) = true := beq_iff_eq.mpr c7
                have c7b1 : ((rd l0 x5_1) != (rd l1 x5_1)) = false := bne_eq_false_iff_eq.mpr c7
                clear c7
                have H' := Aside0.mk H
                clear H
                have p201 : 0 ≤ (x5_1 : Int) := of_decide_eq_true (by first | (with_reducible assumption) | assumption)
                have q201 : x5_1 < (l0.length : Int) := of_decide_eq_true (by first | (with_reducible assumption) | assumption)
                obtain ⟨ad201, e201, hx201_0⟩ := Kd.at_int HR0.out x5_1 p201 q201
                cases e201
                replace p201 := eq_true p201
                replace q201 := eq_true q201
                have p202 : 0 ≤ (x5_1 : Int) := of_decide_eq_true (by first | (with_reducible assumption) | assumption)
                have q202 : x5_1 < (l1.length : Int) := of_decide_eq_true (by first | (with_reducible assumption) | assumption)
                obtain ⟨ad202, e202, hx202_0⟩ := Kd.at_int HR1.out x5_1 p202 q202
                cases e202
                replace p202 := eq_true p202
                replace q202 := eq_true q202
                go_wp2
                repeat (go_quiet (fail); try go_wp2)
                go_roundg k1
                case measure => have := HK1.out; omega
                case rel => exact ⟨(wrap64 (x5_1 + 1)), (by first | rfl | (simp; done) | (simp [*]; done)), H', ⟨by have := HK1.out; omega⟩, by repeat (first | exact Drawn0.refl _ | apply Drawn0.step)⟩
              · rw [if_neg c7] at H
                have c7b0 : ((rd l0 x5_1) == (rd l1 x5_1)) = false := beq_eq_false_iff_ne.mpr c7
                have c7b1 : ((rd l0 x5_1) != (rd l1 x5_1)) = true := bne_iff_ne.mpr c7
                obtain rfl := Option.some.inj H
                have p201 : 0 ≤ (x5_1 : Int) := of_decide_eq_true (by first | (with_reducible assumption) | assumption)
                have q201 : x5_1 < (l0.length : Int) := of_decide_eq_true (by first | (with_reducible assumption) | assumption)
                obtain ⟨ad201, e201, hx201_0⟩ := Kd.at_int HR0.out x5_1 p201 q201
                cases e201
                replace p201 := eq_true p201
                replace q201 := eq_true q201
                have p202 : 0 ≤ (x5_1 : Int) := of_decide_eq_true (by first | (with_reducible assumption) | assumption)
                have q202 : x5_1 < (l1.length : Int) := of_decide_eq_true (by first | (with_reducible assumption) | assumption)
                obtain ⟨ad202, e202, hx202_0⟩ := Kd.at_int HR1.out x5_1 p202 q202
                cases e202
                replace p202 := eq_true p202
                replace q202 := eq_true q202
                go_wp2
                repeat (go_quiet (fail); try go_wp2)
                go_ret
                exact ⟨by first | rfl | (simp; done) | (simp [*]; done), by repeat (first | exact Drawn0.refl _ | apply Drawn0.step)⟩
            · rw [if_neg c6] at H
              exact absurd H (by simp)
          · rw [if_neg c5] at H
            exact absurd H (by simp)
        · rw [if_neg c4] at H
          have c4b0 : decide (x5_1 < (l0.length : Int)) = false := decide_eq_false c4
          clear c4
          obtain rfl := Option.some.inj H
          go_wp2
          repeat (go_quiet (fail); try go_wp2)
          go_ret
          exact ⟨by first | rfl | (simp; done) | (simp [*]; done), by repeat (first | exact Drawn0.refl _ | apply Drawn0.step)⟩
  · rw [if_neg c3] at H
    have c3b0 : ((l0.length : Int) == (l1.length : Int)) = false := beq_eq_false_iff_ne.mpr c3
    have c3b1 : ((l0.length : Int) != (l1.length : Int)) = true := bne_iff_ne.mpr c3
    have c3b2 : (l0.length == l1.length) = false := by first | simpa using c3 | (simp at c3 ⊢; omega)
    obtain rfl := Option.some.inj H
    go_enter Try.func14, Try.ntmps14
    go_wp2
    repeat (go_quiet (fail); try go_wp2)
    go_ret
    exact ⟨by first | rfl | (simp; done) | (simp [*]; done), by repeat (first | exact Drawn0.refl _ | apply Drawn0.step)⟩

/-! ### orthoepyref03_Compare: function 16 -/
mutual
def orthoepyref03_Compare.l0 : Nat → List Int → List Int → Int → Option (Int)
  | 0, _, _, _ => none
  | k + 1, x5, x6, x7 => if x7 < (x5.length : Int) then (orthoepyref03_Compare.j1 k x5 x6 x7 (decide (x7 < (x6.length : Int)))) else (orthoepyref03_Compare.j1 k x5 x6 x7 false)
def orthoepyref03_Compare.j1 : Nat → List Int → List Int → Int → Bool → Option (Int)
  | 0, _, _, _, _ => none
  | k + 1, x5, x6, x7, x21 => if x21 = true then (if 0 ≤ x7 then (if x7 < (x5.length : Int) then (if x7 < (x6.length : Int) then (if (rd x5 x7) < (rd x6 x7) then (some (-1)) else (if (rd x5 x7) > (rd x6 x7) then (some 1) else (orthoepyref03_Compare.l0 k x5 x6 (wrap64 (x7 + 1))))) else (none)) else (none)) else (none)) else (if (x5.length : Int) < (x6.length : Int) then (some (-1)) else (if (x5.length : Int) > (x6.length : Int) then (some 1) else (some 0)))
end
def orthoepyref03_Compare.f (k : Nat) (l0 : List Int) (l1 : List Int) : Option (Int) := (orthoepyref03_Units.f k l0).bind fun t203 => ((orthoepyref03_Units.f k l1).bind fun t206 => (orthoepyref03_Compare.l0 k t203 t206 0))
theorem orthoepyref03_Compare.mono_l : ∀ k, (∀ y0 y1 y2, LeO (orthoepyref03_Compare.l0 k y0 y1 y2) (orthoepyref03_Compare.l0 (k + 1) y0 y1 y2)) ∧ (∀ y0 y1 y2 y3, LeO (orthoepyref03_Compare.j1 k y0 y1 y2 y3) (orthoepyref03_Compare.j1 (k + 1) y0 y1 y2 y3))
  | 0 => ⟨fun _ _ _ r h => by simp [orthoepyref03_Compare.l0] at h, fun _ _ _ _ r h => by simp [orthoepyref03_Compare.j1] at h⟩
  | k + 1 => by
    obtain ⟨ih0, ih1⟩ := orthoepyref03_Compare.mono_l k
    refine ⟨?_, ?_⟩
    · intro y0 y1 y2
      unfold orthoepyref03_Compare.l0
      repeat' first
      | (with_reducible exact ih0 _ _ _)
      | (with_reducible exact ih1 _ _ _ _)
      | (with_reducible exact orthoepyref03_Units.mono _ _)
      | (with_reducible exact LeO.refl _)
      | (with_reducible exact LeO.none _)
      | (with_reducible refine LeO.ite ?_ ?_)
      | (with_reducible refine LeO.bind ?_ (fun _ => ?_))
      | exact ih0 _ _ _
      | exact ih1 _ _ _ _
      | exact orthoepyref03_Units.mono _ _
      | exact LeO.none _
      | refine LeO.ite ?_ ?_
      | refine LeO.bind ?_ (fun _ => ?_)
    · intro y0 y1 y2 y3
      unfold orthoepyref03_Compare.j1
      repeat' first
      | (with_reducible exact ih0 _ _ _)
      | (with_reducible exact ih1 _ _ _ _)
      | (with_reducible exact orthoepyref03_Units.mono _ _)
      | (with_reducible exact LeO.refl _)
      | (with_reducible exact LeO.none _)
      | (with_reducible refine LeO.ite ?_ ?_)
      | (with_reducible refine LeO.bind ?_ (fun _ => ?_))
      | exact ih0 _ _ _
      | exact ih1 _ _ _ _
      | exact orthoepyref03_Units.mono _ _
      | exact LeO.none _
      | refine LeO.ite ?_ ?_
      | refine LeO.bind ?_ (fun _ => ?_)
theorem orthoepyref03_Compare.mono : ∀ a0 a1 k, LeO (orthoepyref03_Compare.f k a0 a1) (orthoepyref03_Compare.f (k + 1) a0 a1) := by
  intro a0 a1 k
  obtain ⟨ih0, ih1⟩ := orthoepyref03_Compare.mono_l k
  unfold orthoepyref03_Compare.f
  repeat' first
      | (with_reducible exact ih0 _ _ _)
      | (with_reducible exact ih1 _ _ _ _)
      | (with_reducible exact orthoepyref03_Units.mono _ _)
      | (with_reducible exact LeO.refl _)
      | (with_reducible exact LeO.none _)
      | (with_reducible refine LeO.ite ?_ ?_)
      | (with_reducible refine LeO.bind ?_ (fun _ => ?_))
      | exact ih0 _ _ _
      | exact ih1 _ _ _ _
      | exact orthoepyref03_Units.mono _ _
      | exact LeO.none _
      | refine LeO.ite ?_ ?_
      | refine LeO.bind ?_ (fun _ => ?_)
set_option maxHeartbeats 8000000 in
set_option maxRecDepth 100000 in
theorem orthoepyref03_Compare.calls (k : Nat) (A0 : Option Addr) (c0 : Nat) (l0 : List Int) (A1 : Option Addr) (c1 : Nat) (l1 : List Int) (r : Int) (w : World) (hr0 : Kd.C (Kd.int .i32) w A0 l0.length l0) (hc0 : l0.length ≤ c0) (hr1 : Kd.C (Kd.int .i32) w A1 l1.length l1) (hc1 : l1.length ≤ c1) (h : orthoepyref03_Compare.f k l0 l1 = some r) :
    Calls Try.prog 16 #[.slice A0 l0.length c0, .slice A1 l1.length c1] w fun e w' => e = .returned (.int .i64 r) ∧ Below w.heap.size w w' := by
  have HR0 := Aside0.mk hr0
  have HC0 := Aside0.mk hc0
  clear hr0 hc0
  have HR1 := Aside0.mk hr1
  have HC1 := Aside0.mk hc1
  clear hr1 hc1
  have HB := Aside0.mk (Below.refl w.heap.size w)
  have H : ((orthoepyref03_Units.f k l0).bind fun t203 => ((orthoepyref03_Units.f k l1).bind fun t206 => (orthoepyref03_Compare.l0 k t203 t206 0))) = some r := h
  clear h
  replace H := Option.bind_eq_some_iff.mp H
  obtain ⟨t203, A30, H⟩ := H
  replace H : ((orthoepyref03_Units.f k l1).bind fun t206 => (orthoepyref03_Compare.l0 k t203 t206 0)) = some r := H
  have A3 := Aside0.mk A30
  clear A30
  replace H := Option.bind_eq_some_iff.mp H
  obtain ⟨t206, A40, H⟩ := H
  replace H : (orthoepyref03_Compare.l0 k t203 t206 0) = some r := H
  have A4 := Aside0.mk A40
  clear A40
  have H' := Aside0.mk H
  clear H
  go_enter Try.func16, Try.ntmps16
  go_wp2_with (first | (go_at_call 13; (with_reducible refine (orthoepyref03_Units.calls k _ _ l0 t203 _ ?side1 ?side2 A3.out).mono ?_); (case side1 => repeat (first | exact HR0.out | (with_reducible refine Kd.C_alloc ?_ _) | (with_reducible refine Kd.C_drewN ?_ _) | (with_reducible refine Kd.C_drew ?_))); (case side2 => exact HC0.out); rintro e w5 ⟨v204, rfl, ho0, hb⟩; have n0_ := Aside0.mk (Kd.R_lower ho0 (below_size (by repeat (first | (with_reducible first | exact HB.out | apply below_alloc | apply pw_below_drewN | apply below_drew1) | exact HB.out)))); have n1_ := Aside0.mk (below_step (by repeat (first | (with_reducible first | exact HB.out | apply below_alloc | apply pw_below_drewN | apply below_drew1) | exact HB.out)) hb); clear HB; have HO205 := n0_; have HB := n1_; clear n0_ n1_; (try clear hb); (try clear hb2); (try clear hk); (try clear hi); (try clear ho0)) | (go_at_call 13; (with_reducible refine (orthoepyref03_Units.calls k _ _ l1 t206 _ ?side1 ?side2 A4.out).mono ?_); (case side1 => repeat (first | exact (Kd.C_below HR1.out HB.out) | (with_reducible refine Kd.C_alloc ?_ _) | (with_reducible refine Kd.C_drewN ?_ _) | (with_reducible refine Kd.C_drew ?_))); (case side2 => exact HC1.out); rintro e w6 ⟨v207, rfl, ho0, hb⟩; have n0_ := Aside0.mk (Kd.R_elder' (by (with_reducible repeat (first | apply Kd.R_alloc | apply Kd.R_drewN | apply Kd.R_drew)); exact HO205.out) (Kd.R_base ho0) hb); have n1_ := Aside0.mk (Kd.R_lower (Kd.R_new' ho0 (Kd.R_lt (by (with_reducible repeat (first | apply Kd.R_alloc | apply Kd.R_drewN | apply Kd.R_drew)); exact HO205.out))) (below_size (by repeat (first | (with_reducible first | exact HB.out | apply below_alloc | apply pw_below_drewN | apply below_drew1) | exact HB.out)))); have n2_ := Aside0.mk (below_step (by repeat (first | (with_reducible first | exact HB.out | apply below_alloc | apply pw_below_drewN | apply below_drew1) | exact HB.out)) hb); clear HO205; clear HB; have HO205 := n0_; have HO208 := n1_; have HB := n2_; clear n0_ n1_ n2_; (try clear hb); (try clear hb2); (try clear hk); (try clear hi); (try clear ho0)))
  repeat (go_quiet (first | (go_at_call 13; (with_reducible refine (orthoepyref03_Units.calls k _ _ l0 t203 _ ?side1 ?side2 A3.out).mono ?_); (case side1 => repeat (first | exact HR0.out | (with_reducible refine Kd.C_alloc ?_ _) | (with_reducible refine Kd.C_drewN ?_ _) | (with_reducible refine Kd.C_drew ?_))); (case side2 => exact HC0.out); rintro e w5 ⟨v204, rfl, ho0, hb⟩; have n0_ := Aside0.mk (Kd.R_lower ho0 (below_size (by repeat (first | (with_reducible first | exact HB.out | apply below_alloc | apply pw_below_drewN | apply below_drew1) | exact HB.out)))); have n1_ := Aside0.mk (below_step (by repeat (first | (with_reducible first | exact HB.out | apply below_alloc | apply pw_below_drewN | apply below_drew1) | exact HB.out)) hb); clear HB; have HO205 := n0_; have HB := n1_; clear n0_ n1_; (try clear hb); (try clear hb2); (try clear hk); (try clear hi); (try clear ho0)) | (go_at_call 13; (with_reducible refine (orthoepyref03_Units.calls k _ _ l1 t206 _ ?side1 ?side2 A4.out).mono ?_); (case side1 => repeat (first | exact (Kd.C_below HR1.out HB.out) | (with_reducible refine Kd.C_alloc ?_ _) | (with_reducible refine Kd.C_drewN ?_ _) | (with_reducible refine Kd.C_drew ?_))); (case side2 => exact HC1.out); rintro e w6 ⟨v207, rfl, ho0, hb⟩; have n0_ := Aside0.mk (Kd.R_elder' (by (with_reducible repeat (first | apply Kd.R_alloc | apply Kd.R_drewN | apply Kd.R_drew)); exact HO205.out) (Kd.R_base ho0) hb); have n1_ := Aside0.mk (Kd.R_lower (Kd.R_new' ho0 (Kd.R_lt (by (with_reducible repeat (first | apply Kd.R_alloc | apply Kd.R_drewN | apply Kd.R_drew)); exact HO205.out))) (below_size (by repeat (first | (with_reducible first | exact HB.out | apply below_alloc | apply pw_below_drewN | apply below_drew1) | exact HB.out)))); have n2_ := Aside0.mk (below_step (by repeat (first | (with_reducible first | exact HB.out | apply below_alloc | apply pw_below_drewN | apply below_drew1) | exact HB.out)) hb); clear HO205; clear HB; have HO205 := n0_; have HO208 := n1_; have HB := n2_; clear n0_ n1_ n2_; (try clear hb); (try clear hb2); (try clear hk); (try clear hi); (try clear ho0))); try go_wp2_with (first | (go_at_call 13; (with_reducible refine (orthoepyref03_Units.calls k _ _ l0 t203 _ ?side1 ?side2 A3.out).mono ?_); (case side1 => repeat (first | exact HR0.out | (with_reducible refine Kd.C_alloc ?_ _) | (with_reducible refine Kd.C_drewN ?_ _) | (with_reducible refine Kd.C_drew ?_))); (case side2 => exact HC0.out); rintro e w5 ⟨v204, rfl, ho0, hb⟩; have n0_ := Aside0.mk (Kd.R_lower ho0 (below_size (by repeat (first | (with_reducible first | exact HB.out | apply below_alloc | apply pw_below_drewN | apply below_drew1) | exact HB.out)))); have n1_ := Aside0.mk (below_step (by repeat (first | (with_reducible first | exact HB.out | apply below_alloc | apply pw_below_drewN | apply below_drew1) | exact HB.out)) hb); clear HB; have HO205 := n0_; have HB := n1_; clear n0_ n1_; (try clear hb); (try clear hb2); (try clear hk); (try clear hi); (try clear ho0)) | (go_at_call 13; (with_reducible refine (orthoepyref03_Units.calls k _ _ l1 t206 _ ?side1 ?side2 A4.out).mono ?_); (case side1 => repeat (first | exact (Kd.C_below HR1.out HB.out) | (with_reducible refine Kd.C_alloc ?_ _) | (with_reducible refine Kd.C_drewN ?_ _) | (with_reducible refine Kd.C_drew ?_))); (case side2 => exact HC1.out); rintro e w6 ⟨v207, rfl, ho0, hb⟩; have n0_ := Aside0.mk (Kd.R_elder' (by (with_reducible repeat (first | apply Kd.R_alloc | apply Kd.R_drewN | apply Kd.R_drew)); exact HO205.out) (Kd.R_base ho0) hb); have n1_ := Aside0.mk (Kd.R_lower (Kd.R_new' ho0 (Kd.R_lt (by (with_reducible repeat (first | apply Kd.R_alloc | apply Kd.R_drewN | apply Kd.R_drew)); exact HO205.out))) (below_size (by repeat (first | (with_reducible first | exact HB.out | apply below_alloc | apply pw_below_drewN | apply below_drew1) | exact HB.out)))); have n2_ := Aside0.mk (below_step (by repeat (first | (with_reducible first | exact HB.out | apply below_alloc | apply pw_below_drewN | apply below_drew1) | exact HB.out)) hb); clear HO205; clear HB; have HO205 := n0_; have HO208 := n1_; have HB := n2_; clear n0_ n1_ n2_; (try clear hb); (try clear hb2); (try clear hk); (try clear hi); (try clear ho0))))
  go_loopg [7] k (fun kq v7 w' => ∃ (x7_1 : Int), v7 = .int .i64 x7_1 ∧ Aside0 (orthoepyref03_Compare.l0 kq t203 t206 x7_1 = some r) ∧ Aside0 (kq ≤ k) ∧ Aside0 (Kd.R (Kd.int .u16) 43 w' w.heap.size (fun k_ => some k_ ≠ (v207 : Value).ownBlock) v204 t203) ∧ Aside0 (Kd.R (Kd.int .u16) 43 w' w.heap.size (fun k_ => some k_ ≠ (v204 : Value).ownBlock) v207 t206) ∧ Aside0 (Below w.heap.size w w'))
  case atStart => exact ⟨(0), (by first | rfl | (simp; done) | (simp [*]; done)), H', ⟨Nat.le_refl _⟩, ⟨by (with_reducible repeat (first | apply Kd.R_alloc | apply Kd.R_drewN | apply Kd.R_drew)); exact Kd.R_mono HO205.out (fun _ hk => hk.2)⟩, ⟨by (with_reducible repeat (first | apply Kd.R_alloc | apply Kd.R_drewN | apply Kd.R_drew)); exact Kd.R_mono HO208.out (fun _ hk => hk.2)⟩, ⟨by repeat (first | (with_reducible first | exact HB.out | apply below_alloc | apply pw_below_drewN | apply below_drew1) | exact HB.out)⟩⟩
  case round =>
    clear H'
    try clear c1
    try clear p2
    obtain ⟨x7_1, rfl, HA, HK1, HO_5, HO_6, HB⟩ := hrel
    cases gk with
    | zero => exact absurd HA.out (by simp [orthoepyref03_Compare.l0])
    | succ k1 =>
      have H := HA.out
      clear HA
      simp only [orthoepyref03_Compare.l0] at H
      have HC7 := Aside0.mk H
      clear H
      go_upto_region 3 with (fail)
      repeat (go_quiet (fail); go_upto_region 3 with (fail))
      go_cut [21] (fun v21 wc => ∃ (kq : Nat) (x21_6 : Bool), v21 = .bool x21_6 ∧ Aside0 (orthoepyref03_Compare.j1 kq t203 t206 x7_1 x21_6 = some r) ∧ Aside0 (kq ≤ k1) ∧ Aside0 (Kd.R (Kd.int .u16) 43 wc w.heap.size (fun k_ => some k_ ≠ (v207 : Value).ownBlock) v204 t203) ∧ Aside0 (Kd.R (Kd.int .u16) 43 wc w.heap.size (fun k_ => some k_ ≠ (v204 : Value).ownBlock) v207 t206) ∧ Aside0 (Below w.heap.size w wc))
      case first =>
        have H := HC7.out
        clear HC7
        by_cases c8 : x7_1 < (t203.length : Int)
        · rw [if_pos c8] at H
          have c8b0 : decide (x7_1 < (t203.length : Int)) = true := decide_eq_true c8
          clear c8
          (first | rw [c8b0] | (simp only [i64_w, i32_w]; rw [c8b0]) | skip)
          have H' := Aside0.mk H
          clear H
          obtain ⟨Ao9, co9, eo9⟩ := Kd.R_slice HO_5.out
          subst eo9
          obtain ⟨Ao10, co10, eo10⟩ := Kd.R_slice HO_6.out
          subst eo10
          go_wp2
          repeat (go_quiet (fail); try go_wp2)
          go_meet
          case rel => exact ⟨_, (decide (x7_1 < (t206.length : Int))), (by first | rfl | (simp; done) | (simp [*]; done)), H', ⟨by have := HK1.out; first | omega | exact Nat.le_refl _⟩, ⟨by (with_reducible repeat (first | apply Kd.R_alloc | apply Kd.R_drewN | apply Kd.R_drew)); exact HO_5.out⟩, ⟨by (with_reducible repeat (first | apply Kd.R_alloc | apply Kd.R_drewN | apply Kd.R_drew)); exact HO_6.out⟩, ⟨by repeat (first | (with_reducible first | exact HB.out | apply below_alloc | apply pw_below_drewN | apply below_drew1) | exact HB.out)⟩⟩
        · rw [if_neg c8] at H
          have c8b0 : decide (x7_1 < (t203.length : Int)) = false := decide_eq_false c8
          clear c8
          (first | rw [c8b0] | (simp only [i64_w, i32_w]; rw [c8b0]) | skip)
          have H' := Aside0.mk H
          clear H
          obtain ⟨Ao11, co11, eo11⟩ := Kd.R_slice HO_5.out
          subst eo11
          go_wp2
          repeat (go_quiet (fail); try go_wp2)
          go_meet
          case rel => exact ⟨_, (false), (by first | rfl | (simp; done) | (simp [*]; done)), H', ⟨by have := HK1.out; first | omega | exact Nat.le_refl _⟩, ⟨by (with_reducible repeat (first | apply Kd.R_alloc | apply Kd.R_drewN | apply Kd.R_drew)); exact HO_5.out⟩, ⟨by (with_reducible repeat (first | apply Kd.R_alloc | apply Kd.R_drewN | apply Kd.R_drew)); exact HO_6.out⟩, ⟨by repeat (first | (with_reducible first | exact HB.out | apply below_alloc | apply pw_below_drewN | apply below_drew1) | exact HB.out)⟩⟩
      case rest =>
        clear HC7
        try clear c1
        try clear p2
        try clear c8
        try clear c8b0
        try clear p2
        obtain ⟨kq, x21_6, rfl, HA, HJ6, HO_5, HO_6, HB⟩ := hcut
        cases kq with
        | zero => exact absurd HA.out (by simp [orthoepyref03_Compare.j1])
        | succ kj6 =>
          have H := HA.out
          clear HA
          simp only [orthoepyref03_Compare.j1] at H
          by_cases c12 : x21_6 = true
          · subst c12
            have H1 : (if 0 ≤ x7_1 then (if x7_1 < (t203.length : Int) then (if x7_1 < (t206.length : Int) then (if (rd t203 x7_1) < (rd t206 x7_1) then (some (-1)) else (if (rd t203 x7_1) > (rd t206 x7_1) then (some 1) else (orthoepyref03_Compare.l0 kj6 t203 t206 (wrap64 (x7_1 + 1))))) else (none)) else (none)) else (none)) = some r := by rw [if_pos rfl] at H; exact H
            clear H
            have H := H1
            clear H1
            by_cases c13 : 0 ≤ x7_1
            · rw [if_pos c13] at H
              have c13b0 : decide (0 ≤ x7_1) = true := decide_eq_true c13
              clear c13
              by_cases c14 : x7_1 < (t203.length : Int)
              · rw [if_pos c14] at H
                have c14b0 : decide (x7_1 < (t203.length : Int)) = true := decide_eq_true c14
                clear c14
                by_cases c15 : x7_1 < (t206.length : Int)
                · rw [if_pos c15] at H
                  have c15b0 : decide (x7_1 < (t206.length : Int)) = true := decide_eq_true c15
                  clear c15
                  by_cases c16 : (rd t203 x7_1) < (rd t206 x7_1)
                  · rw [if_pos c16] at H
                    have c16b0 : decide ((rd t203 x7_1) < (rd t206 x7_1)) = true := decide_eq_true c16
                    clear c16
                    obtain rfl := Option.some.inj H
                    obtain ⟨Ao17, co17, eo17⟩ := Kd.R_slice HO_5.out
                    subst eo17
                    have p209 : 0 ≤ (x7_1 : Int) := of_decide_eq_true (by first | (with_reducible assumption) | assumption)
                    have q209 : x7_1 < (t203.length : Int) := of_decide_eq_true (by first | (with_reducible assumption) | assumption)
                    obtain ⟨ad209, e209, hx209_0⟩ := Kd.at_int (Kd.R_reads' HO_5.out).2.2 x7_1 p209 q209
                    cases e209
                    replace p209 := eq_true p209
                    replace q209 := eq_true q209
                    obtain ⟨Ao18, co18, eo18⟩ := Kd.R_slice HO_6.out
                    subst eo18
                    have p210 : 0 ≤ (x7_1 : Int) := of_decide_eq_true (by first | (with_reducible assumption) | assumption)
                    have q210 : x7_1 < (t206.length : Int) := of_decide_eq_true (by first | (with_reducible assumption) | assumption)
                    obtain ⟨ad210, e210, hx210_0⟩ := Kd.at_int (Kd.R_reads' HO_6.out).2.2 x7_1 p210 q210
                    cases e210
                    replace p210 := eq_true p210
                    replace q210 := eq_true q210
                    go_wp2
                    repeat (go_quiet (fail); try go_wp2)
                    go_ret
                    exact ⟨by first | rfl | (simp [errW_none, errW_some] <;> rfl) | (simp [*, errW_none, errW_some] <;> rfl), by repeat (first | (with_reducible first | exact HB.out | apply below_alloc | apply pw_below_drewN | apply below_drew1) | exact HB.out)⟩
                  · rw [if_neg c16] at H
                    have c16b0 : decide ((rd t203 x7_1) < (rd t206 x7_1)) = false := decide_eq_false c16
                    clear c16
                    by_cases c19 : (rd t203 x7_1) > (rd t206 x7_1)
                    · rw [if_pos c19] at H
                      have c19b0 : decide ((rd t206 x7_1) < (rd t203 x7_1)) = true := decide_eq_true c19
                      clear c19
                      obtain rfl := Option.some.inj H
                      obtain ⟨Ao20, co20, eo20⟩ := Kd.R_slice HO_5.out
                      subst eo20
                      have p209 : 0 ≤ (x7_1 : Int) := of_decide_eq_true (by first | (with_reducible assumption) | assumption)
                      have q209 : x7_1 < (t203.length : Int) := of_decide_eq_true (by first | (with_reducible assumption) | assumption)
                      obtain ⟨ad209, e209, hx209_0⟩ := Kd.at_int (Kd.R_reads' HO_5.out).2.2 x7_1 p209 q209
                      cases e209
                      replace p209 := eq_true p209
                      replace q209 := eq_true q209
                      obtain ⟨Ao21, co21, eo21⟩ := Kd.R_slice HO_6.out
                      subst eo21
                      have p210 : 0 ≤ (x7_1 : Int) := of_decide_eq_true (by first | (with_reducible assumption) | assumption)
                      have q210 : x7_1 < (t206.length : Int) := of_decide_eq_true (by first | (with_reducible assumption) | assumption)
                      obtain ⟨ad210, e210, hx210_0⟩ := Kd.at_int (Kd.R_reads' HO_6.out).2.2 x7_1 p210 q210
                      cases e210
                      replace p210 := eq_true p210
                      replace q210 := eq_true q210
                      have p211 : 0 ≤ (x7_1 : Int) := of_decide_eq_true (by first | (with_reducible assumption) | assumption)
                      have q211 : x7_1 < (t203.length : Int) := of_decide_eq_true (by first | (with_reducible assumption) | assumption)
                      obtain ⟨ad211, e211, hx211_0⟩ := Kd.at_int (Kd.R_reads' HO_5.out).2.2 x7_1 p211 q211
                      obtain rfl : ad209 = ad211 := (by injection e211)
                      replace p211 := eq_true p211
                      replace q211 := eq_true q211
                      have p212 : 0 ≤ (x7_1 : Int) := of_decide_eq_true (by first | (with_reducible assumption) | assumption)
                      have q212 : x7_1 < (t206.length : Int) := of_decide_eq_true (by first | (with_reducible assumption) | assumption)
                      obtain ⟨ad212, e212, hx212_0⟩ := Kd.at_int (Kd.R_reads' HO_6.out).2.2 x7_1 p212 q212
                      obtain rfl : ad210 = ad212 := (by injection e212)
                      replace p212 := eq_true p212
                      replace q212 := eq_true q212
                      go_wp2
                      repeat (go_quiet (fail); try go_wp2)
                      go_ret
                      exact ⟨by first | rfl | (simp [errW_none, errW_some] <;> rfl) | (simp [*, errW_none, errW_some] <;> rfl), by repeat (first | (with_reducible first | exact HB.out | apply below_alloc | apply pw_below_drewN | apply below_drew1) | exact HB.out)⟩
                    · rw [if_neg c19] at H
                      have c19b0 : decide ((rd t206 x7_1) < (rd t203 x7_1)) = false := decide_eq_false c19
                      clear c19
                      have H' := Aside0.mk H
                      clear H
                      obtain ⟨Ao22, co22, eo22⟩ := Kd.R_slice HO_5.out
                      subst eo22
                      have p209 : 0 ≤ (x7_1 : Int) := of_decide_eq_true (by first | (with_reducible assumption) | assumption)
                      have q209 : x7_1 < (t203.length : Int) := of_decide_eq_true (by first | (with_reducible assumption) | assumption)
                      obtain ⟨ad209, e209, hx209_0⟩ := Kd.at_int (Kd.R_reads' HO_5.out).2.2 x7_1 p209 q209
                      cases e209
                      replace p209 := eq_true p209
                      replace q209 := eq_true q209
                      obtain ⟨Ao23, co23, eo23⟩ := Kd.R_slice HO_6.out
                      subst eo23
                      have p210 : 0 ≤ (x7_1 : Int) := of_decide_eq_true (by first | (with_reducible assumption) | assumption)
                      have q210 : x7_1 < (t206.length : Int) := of_decide_eq_true (by first | (with_reducible assumption) | assumption)
                      obtain ⟨ad210, e210, hx210_0⟩ := Kd.at_int (Kd.R_reads' HO_6.out).2.2 x7_1 p210 q210
                      cases e210
                      replace p210 := eq_true p210
                      replace q210 := eq_true q210
                      have p211 : 0 ≤ (x7_1 : Int) := of_decide_eq_true (by first | (with_reducible assumption) | assumption)
                      have q211 : x7_1 < (t203.length : Int) := of_decide_eq_true (by first | (with_reducible assumption) | assumption)
                      obtain ⟨ad211, e211, hx211_0⟩ := Kd.at_int (Kd.R_reads' HO_5.out).2.2 x7_1 p211 q211
                      obtain rfl : ad209 = ad211 := (by injection e211)
                      replace p211 := eq_true p211
                      replace q211 := eq_true q211
                      have p212 : 0 ≤ (x7_1 : Int) := of_decide_eq_true (by first | (with_reducible assumption) | assumption)
                      have q212 : x7_1 < (t206.length : Int) := of_decide_eq_true (by first | (with_reducible assumption) | assumption)
                      obtain ⟨ad212, e212, hx212_0⟩ := Kd.at_int (Kd.R_reads' HO_6.out).2.2 x7_1 p212 q212
                      obtain rfl : ad210 = ad212 := (by injection e212)
                      replace p212 := eq_true p212
                      replace q212 := eq_true q212
                      go_wp2
                      repeat (go_quiet (fail); try go_wp2)
                      go_roundg kj6
                      case measure => have := HK1.out; have := HJ6.out; omega
                      case rel => exact ⟨(wrap64 (x7_1 + 1)), (by first | rfl | (simp; done) | (simp [*]; done)), H', ⟨by have := HK1.out; have := HJ6.out; omega⟩, ⟨by (with_reducible repeat (first | apply Kd.R_alloc | apply Kd.R_drewN | apply Kd.R_drew)); exact HO_5.out⟩, ⟨by (with_reducible repeat (first | apply Kd.R_alloc | apply Kd.R_drewN | apply Kd.R_drew)); exact HO_6.out⟩, ⟨by repeat (first | (with_reducible first | exact HB.out | apply below_alloc | apply pw_below_drewN | apply below_drew1) | exact HB.out)⟩⟩
                · rw [if_neg c15] at H
                  exact absurd H (by simp)
              · rw [if_neg c14] at H
                exact absurd H (by simp)
            · rw [if_neg c13] at H
              exact absurd H (by simp)
          · replace c12 := Bool.eq_false_iff.mpr c12
            subst c12
            have H1 : (if (t203.length : Int) < (t206.length : Int) then (some (-1)) else (if (t203.length : Int) > (t206.length : Int) then (some 1) else (some 0))) = some r := by rw [if_neg (show ¬ (false = true) by decide)] at H; exact H
            clear H
            have H := H1
            clear H1
            by_cases c24 : (t203.length : Int) < (t206.length : Int)
            · rw [if_pos c24] at H
              have c24b0 : decide ((t203.length : Int) < (t206.length : Int)) = true := decide_eq_true c24
              have c24b1 : decide (t203.length < t206.length) = true := decide_eq_true (Int.ofNat_lt.mp c24)
              clear c24
              obtain rfl := Option.some.inj H
              obtain ⟨Ao25, co25, eo25⟩ := Kd.R_slice HO_5.out
              subst eo25
              obtain ⟨Ao26, co26, eo26⟩ := Kd.R_slice HO_6.out
              subst eo26
              go_wp2
              repeat (go_quiet (fail); try go_wp2)
              go_ret
              exact ⟨by first | rfl | (simp [errW_none, errW_some] <;> rfl) | (simp [*, errW_none, errW_some] <;> rfl), by repeat (first | (with_reducible first | exact HB.out | apply below_alloc | apply pw_below_drewN | apply below_drew1) | exact HB.out)⟩
            · rw [if_neg c24] at H
              have c24b0 : decide ((t203.length : Int) < (t206.length : Int)) = false := decide_eq_false c24
              have c24b1 : decide (t203.length < t206.length) = false := decide_eq_false (fun h => c24 (Int.ofNat_lt.mpr h))
              clear c24
              by_cases c27 : (t203.length : Int) > (t206.length : Int)
              · rw [if_pos c27] at H
                have c27b0 : decide ((t206.length : Int) < (t203.length : Int)) = true := decide_eq_true c27
                have c27b1 : decide (t206.length < t203.length) = true := decide_eq_true (Int.ofNat_lt.mp c27)
                clear c27
                obtain rfl := Option.some.inj H
                obtain ⟨Ao28, co28, eo28⟩ := Kd.R_slice HO_5.out
                subst eo28
                obtain ⟨Ao29, co29, eo29⟩ := Kd.R_slice HO_6.out
                subst eo29
                go_wp2
                repeat (go_quiet (fail); try go_wp2)
                go_ret
                exact ⟨by first | rfl | (simp [errW_none, errW_some] <;> rfl) | (simp [*, errW_none, errW_some] <;> rfl), by repeat (first | (with_reducible first | exact HB.out | apply below_alloc | apply pw_below_drewN | apply below_drew1) | exact HB.out)⟩
              · rw [if_neg c27] at H
                have c27b0 : decide ((t206.length : Int) < (t203.length : Int)) = false := decide_eq_false c27
                have c27b1 : decide (t206.length < t203.length) = false := decide_eq_false (fun h => c27 (Int.ofNat_lt.mpr h))
                clear c27
                obtain rfl := Option.some.inj H
                obtain ⟨Ao30, co30, eo30⟩ := Kd.R_slice HO_5.out
                subst eo30
                obtain ⟨Ao31, co31, eo31⟩ := Kd.R_slice HO_6.out
                subst eo31
                go_wp2
                repeat (go_quiet (fail); try go_wp2)
                go_ret
                exact ⟨by first | rfl | (simp [errW_none, errW_some] <;> rfl) | (simp [*, errW_none, errW_some] <;> rfl), by repeat (first | (with_reducible first | exact HB.out | apply below_alloc | apply pw_below_drewN | apply below_drew1) | exact HB.out)⟩

/-! ### orthoepylaw03_Utf16All: function 3 -/
def orthoepylaw03_Utf16All.j0 : Nat → List Int → List Int → List Int → Bool → Option (Bool)
  | 0, _, _, _, _ => none
  | k + 1, x0, x1, x2, x25 => if x25 = true then ((orthoepylaw03_awake.f).bind fun t213 => (some t213)) else ((utf16_Scalars.f k x2).bind fun bt214 => ((orthoepyref03_Scalars.f k x2).bind fun bt219 => ((utf16_Units.f x0).bind fun t224 => ((orthoepyref03_Units.f k x0).bind fun t227 => ((orthoepylaw03_same.f k t224 t227).bind fun t230 => (if t230 = true then ((orthoepyref07_Same.f k bt214.1 bt219.1).bind fun t231 => (if t231 = true then (if bt214.2.1 = bt219.2.1 then (if (bt214.2.2 == bt219.2.2) = true then ((utf16_Compare.f k x0 x1).bind fun t232 => ((orthoepyref03_Compare.f k x0 x1).bind fun t233 => (if t232 = t233 then ((orthoepylaw03_awake.f).bind fun t234 => (some t234)) else (some false)))) else (some false)) else (some false)) else (some false))) else (some false)))))))
def orthoepylaw03_Utf16All.f (k : Nat) (l0 : List Int) (l1 : List Int) (l2 : List Int) : Option (Bool) := if (l0.length : Int) > 200 then (orthoepylaw03_Utf16All.j0 k l0 l1 l2 true) else (if (l1.length : Int) > 200 then (orthoepylaw03_Utf16All.j0 k l0 l1 l2 true) else (orthoepylaw03_Utf16All.j0 k l0 l1 l2 (decide ((l2.length : Int) > 200))))
theorem orthoepylaw03_Utf16All.mono_l : ∀ k, (∀ y0 y1 y2 y3, LeO (orthoepylaw03_Utf16All.j0 k y0 y1 y2 y3) (orthoepylaw03_Utf16All.j0 (k + 1) y0 y1 y2 y3))
  | 0 => fun _ _ _ _ r h => by simp [orthoepylaw03_Utf16All.j0] at h
  | k + 1 => by
    have ih0 := orthoepylaw03_Utf16All.mono_l k
    · intro y0 y1 y2 y3
      unfold orthoepylaw03_Utf16All.j0
      repeat' first
      | (with_reducible exact ih0 _ _ _ _)
      | (with_reducible exact orthoepylaw03_same.mono _ _ _)
      | (with_reducible exact orthoepyref03_Compare.mono _ _ _)
      | (with_reducible exact orthoepyref03_Scalars.mono _ _)
      | (with_reducible exact orthoepyref03_Units.mono _ _)
      | (with_reducible exact orthoepyref07_Same.mono _ _ _)
      | (with_reducible exact utf16_Compare.mono _ _ _)
      | (with_reducible exact utf16_Scalars.mono _ _)
      | (with_reducible exact LeO.refl _)
      | (with_reducible exact LeO.none _)
      | (with_reducible refine LeO.ite ?_ ?_)
      | (with_reducible refine LeO.bind ?_ (fun _ => ?_))
      | exact ih0 _ _ _ _
      | exact orthoepylaw03_same.mono _ _ _
      | exact orthoepyref03_Compare.mono _ _ _
      | exact orthoepyref03_Scalars.mono _ _
      | exact orthoepyref03_Units.mono _ _
      | exact orthoepyref07_Same.mono _ _ _
      | exact utf16_Compare.mono _ _ _
      | exact utf16_Scalars.mono _ _
      | exact LeO.none _
      | refine LeO.ite ?_ ?_
      | refine LeO.bind ?_ (fun _ => ?_)
theorem orthoepylaw03_Utf16All.mono : ∀ a0 a1 a2 k, LeO (orthoepylaw03_Utf16All.f k a0 a1 a2) (orthoepylaw03_Utf16All.f (k + 1) a0 a1 a2) := by
  intro a0 a1 a2 k
  have ih0 := orthoepylaw03_Utf16All.mono_l k
  unfold orthoepylaw03_Utf16All.f
  repeat' first
      | (with_reducible exact ih0 _ _ _ _)
      | (with_reducible exact orthoepylaw03_same.mono _ _ _)
      | (with_reducible exact orthoepyref03_Compare.mono _ _ _)
      | (with_reducible exact orthoepyref03_Scalars.mono _ _)
      | (with_reducible exact orthoepyref03_Units.mono _ _)
      | (with_reducible exact orthoepyref07_Same.mono _ _ _)
      | (with_reducible exact utf16_Compare.mono _ _ _)
      | (with_reducible exact utf16_Scalars.mono _ _)
      | (with_reducible exact LeO.refl _)
      | (with_reducible exact LeO.none _)
      | (with_reducible refine LeO.ite ?_ ?_)
      | (with_reducible refine LeO.bind ?_ (fun _ => ?_))
      | exact ih0 _ _ _ _
      | exact orthoepylaw03_same.mono _ _ _
      | exact orthoepyref03_Compare.mono _ _ _
      | exact orthoepyref03_Scalars.mono _ _
      | exact orthoepyref03_Units.mono _ _
      | exact orthoepyref07_Same.mono _ _ _
      | exact utf16_Compare.mono _ _ _
      | exact utf16_Scalars.mono _ _
      | exact LeO.none _
      | refine LeO.ite ?_ ?_
      | refine LeO.bind ?_ (fun _ => ?_)
set_option maxHeartbeats 8000000 in
set_option maxRecDepth 100000 in
theorem orthoepylaw03_Utf16All.calls (k : Nat) (A0 : Option Addr) (c0 : Nat) (l0 : List Int) (A1 : Option Addr) (c1 : Nat) (l1 : List Int) (A2 : Option Addr) (c2 : Nat) (l2 : List Int) (r : Bool) (w : World) (hr0 : Kd.C (Kd.int .i32) w A0 l0.length l0) (hc0 : l0.length ≤ c0) (hr1 : Kd.C (Kd.int .i32) w A1 l1.length l1) (hc1 : l1.length ≤ c1) (hr2 : Kd.C (Kd.int .u16) w A2 l2.length l2) (hc2 : l2.length ≤ c2) (h : orthoepylaw03_Utf16All.f k l0 l1 l2 = some r) (hT_ : Aside0 (r = true)) :
    Calls Try.prog 3 #[.slice A0 l0.length c0, .slice A1 l1.length c1, .slice A2 l2.length c2] w fun e w' => e = .returned (.bool r) ∧ Below w.heap.size w w' := by
  have HR0 := Aside0.mk hr0
  have HC0 := Aside0.mk hc0
  clear hr0 hc0
  have HR1 := Aside0.mk hr1
  have HC1 := Aside0.mk hc1
  clear hr1 hc1
  have HR2 := Aside0.mk hr2
  have HC2 := Aside0.mk hc2
  clear hr2 hc2
  have HB := Aside0.mk (Below.refl w.heap.size w)
  have H : (if (l0.length : Int) > 200 then (orthoepylaw03_Utf16All.j0 k l0 l1 l2 true) else (if (l1.length : Int) > 200 then (orthoepylaw03_Utf16All.j0 k l0 l1 l2 true) else (orthoepylaw03_Utf16All.j0 k l0 l1 l2 (decide ((l2.length : Int) > 200))))) = some r := h
  clear h
  have HC4 := Aside0.mk H
  clear H
  go_enter Try.func3, Try.ntmps3
  go_upto_region 1 with (fail)
  go_cut [25] (fun v25 wc => ∃ (kq : Nat) (x25_3 : Bool), v25 = .bool x25_3 ∧ Aside0 (orthoepylaw03_Utf16All.j0 kq l0 l1 l2 x25_3 = some r) ∧ Aside0 (kq ≤ k) ∧ Aside0 (Below w.heap.size w wc))
  case first =>
    have H := HC4.out
    clear HC4
    by_cases c5 : (l0.length : Int) > 200
    · rw [if_pos c5] at H
      have c5b0 : decide (200 < (l0.length : Int)) = true := decide_eq_true c5
      have c5b1 : decide (200 < l0.length) = true := decide_eq_true (by omega)
      clear c5
      (first | rw [c5b0] | (simp only [i64_w, i32_w]; rw [c5b0]) | skip)
      have H' := Aside0.mk H
      clear H
      go_wp2
      go_meet
      case rel => exact ⟨_, (true), (by first | rfl | (simp; done) | (simp [*]; done)), H', ⟨by first | omega | exact Nat.le_refl _⟩, ⟨by repeat (first | (with_reducible first | exact HB.out | apply below_alloc | apply pw_below_drewN | apply below_drew1) | exact HB.out)⟩⟩
    · rw [if_neg c5] at H
      have c5b0 : decide (200 < (l0.length : Int)) = false := decide_eq_false c5
      have c5b1 : decide (200 < l0.length) = false := decide_eq_false (by omega)
      clear c5
      (first | rw [c5b0] | (simp only [i64_w, i32_w]; rw [c5b0]) | skip)
      by_cases c6 : (l1.length : Int) > 200
      · rw [if_pos c6] at H
        have c6b0 : decide (200 < (l1.length : Int)) = true := decide_eq_true c6
        have c6b1 : decide (200 < l1.length) = true := decide_eq_true (by omega)
        clear c6
        have H' := Aside0.mk H
        clear H
        go_wp2
        go_meet
        case rel => exact ⟨_, (true), (by first | rfl | (simp; done) | (simp [*]; done)), H', ⟨by first | omega | exact Nat.le_refl _⟩, ⟨by repeat (first | (with_reducible first | exact HB.out | apply below_alloc | apply pw_below_drewN | apply below_drew1) | exact HB.out)⟩⟩
      · rw [if_neg c6] at H
        have c6b0 : decide (200 < (l1.length : Int)) = false := decide_eq_false c6
        have c6b1 : decide (200 < l1.length) = false := decide_eq_false (by omega)
        clear c6
        have H' := Aside0.mk H
        clear H
        go_wp2
        go_meet
        case rel => exact ⟨_, (decide ((l2.length : Int) > 200)), (by first | rfl | (simp; done) | (simp [*]; done)), H', ⟨by first | omega | exact Nat.le_refl _⟩, ⟨by repeat (first | (with_reducible first | exact HB.out | apply below_alloc | apply pw_below_drewN | apply below_drew1) | exact HB.out)⟩⟩
  case rest =>
    clear HC4
    try clear c1
    try clear c2
    try clear p2
    try clear c3
    try clear c5
    try clear c5b0
    try clear c5b1
    try clear c6
    try clear c6b0
    try clear c6b1
    obtain ⟨kq, x25_3, rfl, HA, HJ3, HB⟩ := hcut
    cases kq with
    | zero => exact absurd HA.out (by simp [orthoepylaw03_Utf16All.j0])
    | succ kj3 =>
      have H := HA.out
      clear HA
      simp only [orthoepylaw03_Utf16All.j0] at H
      by_cases c7 : x25_3 = true
      · subst c7
        have H1 : ((orthoepylaw03_awake.f).bind fun t213 => (some t213)) = some r := by rw [if_pos rfl] at H; exact H
        clear H
        have H := H1
        clear H1
        replace H := Option.bind_eq_some_iff.mp H
        obtain ⟨t213, A80, H⟩ := H
        replace H : (some t213) = some r := H
        have A8 := Aside0.mk A80
        clear A80
        obtain rfl := Option.some.inj H
        go_wp2_with (first | ((with_reducible refine gate_callee (f := 8) rfl ?_); refine goesL_ (some 26) rfl rfl Try.func8 (by kernel_rfl) rfl #[] rfl (by (try simp only [List.map_toArray, List.map_cons, List.map_nil]); first | done | rfl | (simp only [List.length_drop, List.length_take]; rfl)) ?_; (with_reducible refine (orthoepylaw03_awake.calls  t213 _ A8.out).mono ?_); rintro e w9 ⟨rfl, hb⟩; refine ⟨_, rfl, ?_⟩; have n0_ := Aside0.mk (below_step (by repeat (first | (with_reducible first | exact HB.out | apply below_alloc | apply pw_below_drewN | apply below_drew1) | exact HB.out)) hb); clear HB; have HB := n0_; clear n0_; (try clear hb); (try clear hb2); (try clear hk); (try clear hi)))
        go_ret
        exact ⟨by first | rfl | (simp [errW_none, errW_some] <;> rfl) | (simp [*, errW_none, errW_some] <;> rfl), by repeat (first | (with_reducible first | exact HB.out | apply below_alloc | apply pw_below_drewN | apply below_drew1) | exact HB.out)⟩
      · replace c7 := Bool.eq_false_iff.mpr c7
        subst c7
        have H1 : ((utf16_Scalars.f kj3 l2).bind fun bt214 => ((orthoepyref03_Scalars.f kj3 l2).bind fun bt219 => ((utf16_Units.f l0).bind fun t224 => ((orthoepyref03_Units.f kj3 l0).bind fun t227 => ((orthoepylaw03_same.f kj3 t224 t227).bind fun t230 => (if t230 = true then ((orthoepyref07_Same.f kj3 bt214.1 bt219.1).bind fun t231 => (if t231 = true then (if bt214.2.1 = bt219.2.1 then (if (bt214.2.2 == bt219.2.2) = true then ((utf16_Compare.f kj3 l0 l1).bind fun t232 => ((orthoepyref03_Compare.f kj3 l0 l1).bind fun t233 => (if t232 = t233 then ((orthoepylaw03_awake.f).bind fun t234 => (some t234)) else (some false)))) else (some false)) else (some false)) else (some false))) else (some false))))))) = some r := by rw [if_neg (show ¬ (false = true) by decide)] at H; exact H
        clear H
        have H := H1
        clear H1
        replace H := Option.bind_eq_some_iff.mp H
        obtain ⟨⟨t214, t215, t216⟩, A100, H⟩ := H
        replace H : ((orthoepyref03_Scalars.f kj3 l2).bind fun bt219 => ((utf16_Units.f l0).bind fun t224 => ((orthoepyref03_Units.f kj3 l0).bind fun t227 => ((orthoepylaw03_same.f kj3 t224 t227).bind fun t230 => (if t230 = true then ((orthoepyref07_Same.f kj3 t214 bt219.1).bind fun t231 => (if t231 = true then (if t215 = bt219.2.1 then (if (t216 == bt219.2.2) = true then ((utf16_Compare.f kj3 l0 l1).bind fun t232 => ((orthoepyref03_Compare.f kj3 l0 l1).bind fun t233 => (if t232 = t233 then ((orthoepylaw03_awake.f).bind fun t234 => (some t234)) else (some false)))) else (some false)) else (some false)) else (some false))) else (some false)))))) = some r := H
        have A10 := Aside0.mk A100
        clear A100
        replace H := Option.bind_eq_some_iff.mp H
        obtain ⟨⟨t219, t220, t221⟩, A110, H⟩ := H
        replace H : ((utf16_Units.f l0).bind fun t224 => ((orthoepyref03_Units.f kj3 l0).bind fun t227 => ((orthoepylaw03_same.f kj3 t224 t227).bind fun t230 => (if t230 = true then ((orthoepyref07_Same.f kj3 t214 t219).bind fun t231 => (if t231 = true then (if t215 = t220 then (if (t216 == t221) = true then ((utf16_Compare.f kj3 l0 l1).bind fun t232 => ((orthoepyref03_Compare.f kj3 l0 l1).bind fun t233 => (if t232 = t233 then ((orthoepylaw03_awake.f).bind fun t234 => (some t234)) else (some false)))) else (some false)) else (some false)) else (some false))) else (some false))))) = some r := H
        have A11 := Aside0.mk A110
        clear A110
        replace H := Option.bind_eq_some_iff.mp H
        obtain ⟨t224, A120, H⟩ := H
        replace H : ((orthoepyref03_Units.f kj3 l0).bind fun t227 => ((orthoepylaw03_same.f kj3 t224 t227).bind fun t230 => (if t230 = true then ((orthoepyref07_Same.f kj3 t214 t219).bind fun t231 => (if t231 = true then (if t215 = t220 then (if (t216 == t221) = true then ((utf16_Compare.f kj3 l0 l1).bind fun t232 => ((orthoepyref03_Compare.f kj3 l0 l1).bind fun t233 => (if t232 = t233 then ((orthoepylaw03_awake.f).bind fun t234 => (some t234)) else (some false)))) else (some false)) else (some false)) else (some false))) else (some false)))) = some r := H
        have A12 := Aside0.mk A120
        clear A120
        replace H := Option.bind_eq_some_iff.mp H
        obtain ⟨t227, A130, H⟩ := H
        replace H : ((orthoepylaw03_same.f kj3 t224 t227).bind fun t230 => (if t230 = true then ((orthoepyref07_Same.f kj3 t214 t219).bind fun t231 => (if t231 = true then (if t215 = t220 then (if (t216 == t221) = true then ((utf16_Compare.f kj3 l0 l1).bind fun t232 => ((orthoepyref03_Compare.f kj3 l0 l1).bind fun t233 => (if t232 = t233 then ((orthoepylaw03_awake.f).bind fun t234 => (some t234)) else (some false)))) else (some false)) else (some false)) else (some false))) else (some false))) = some r := H
        have A13 := Aside0.mk A130
        clear A130
        replace H := Option.bind_eq_some_iff.mp H
        obtain ⟨t230, A140, H⟩ := H
        replace H : (if t230 = true then ((orthoepyref07_Same.f kj3 t214 t219).bind fun t231 => (if t231 = true then (if t215 = t220 then (if (t216 == t221) = true then ((utf16_Compare.f kj3 l0 l1).bind fun t232 => ((orthoepyref03_Compare.f kj3 l0 l1).bind fun t233 => (if t232 = t233 then ((orthoepylaw03_awake.f).bind fun t234 => (some t234)) else (some false)))) else (some false)) else (some false)) else (some false))) else (some false)) = some r := H
        have A14 := Aside0.mk A140
        clear A140
        by_cases c15 : t230 = true
        · subst c15
          have H1 : ((orthoepyref07_Same.f kj3 t214 t219).bind fun t231 => (if t231 = true then (if t215 = t220 then (if (t216 == t221) = true then ((utf16_Compare.f kj3 l0 l1).bind fun t232 => ((orthoepyref03_Compare.f kj3 l0 l1).bind fun t233 => (if t232 = t233 then ((orthoepylaw03_awake.f).bind fun t234 => (some t234)) else (some false)))) else (some false)) else (some false)) else (some false))) = some r := by rw [if_pos rfl] at H; exact H
          clear H
          have H := H1
          clear H1
          replace H := Option.bind_eq_some_iff.mp H
          obtain ⟨t231, A160, H⟩ := H
          replace H : (if t231 = true then (if t215 = t220 then (if (t216 == t221) = true then ((utf16_Compare.f kj3 l0 l1).bind fun t232 => ((orthoepyref03_Compare.f kj3 l0 l1).bind fun t233 => (if t232 = t233 then ((orthoepylaw03_awake.f).bind fun t234 => (some t234)) else (some false)))) else (some false)) else (some false)) else (some false)) = some r := H
          have A16 := Aside0.mk A160
          clear A160
          by_cases c17 : t231 = true
          · subst c17
            have H1 : (if t215 = t220 then (if (t216 == t221) = true then ((utf16_Compare.f kj3 l0 l1).bind fun t232 => ((orthoepyref03_Compare.f kj3 l0 l1).bind fun t233 => (if t232 = t233 then ((orthoepylaw03_awake.f).bind fun t234 => (some t234)) else (some false)))) else (some false)) else (some false)) = some r := by rw [if_pos rfl] at H; exact H
            clear H
            have H := H1
            clear H1
            by_cases c18 : t215 = t220
            · rw [if_pos c18] at H
              have c18b0 : (t215 == t220) = true := beq_iff_eq.mpr c18
              have c18b1 : (t215 != t220) = false := bne_eq_false_iff_eq.mpr c18
              clear c18
              by_cases c19 : (t216 == t221) = true
              · rw [if_pos c19] at H
                have c19b0 : (t216 == t221) = true := c19
                (try (have c19b1 : decide (t216 = t221) = true := by simpa using c19))
                (try (have c19b2 : (t216 == t221) = true := by simpa using c19))
                clear c19
                replace H := Option.bind_eq_some_iff.mp H
                obtain ⟨t232, A200, H⟩ := H
                replace H : ((orthoepyref03_Compare.f kj3 l0 l1).bind fun t233 => (if t232 = t233 then ((orthoepylaw03_awake.f).bind fun t234 => (some t234)) else (some false))) = some r := H
                have A20 := Aside0.mk A200
                clear A200
                replace H := Option.bind_eq_some_iff.mp H
                obtain ⟨t233, A210, H⟩ := H
                replace H : (if t232 = t233 then ((orthoepylaw03_awake.f).bind fun t234 => (some t234)) else (some false)) = some r := H
                have A21 := Aside0.mk A210
                clear A210
                by_cases c22 : t232 = t233
                · rw [if_pos c22] at H
                  have c22b0 : (t232 == t233) = true := beq_iff_eq.mpr c22
                  have c22b1 : (t232 != t233) = false := bne_eq_false_iff_eq.mpr c22
                  clear c22
                  replace H := Option.bind_eq_some_iff.mp H
                  obtain ⟨t234, A230, H⟩ := H
                  replace H : (some t234) = some r := H
                  have A23 := Aside0.mk A230
                  clear A230
                  obtain rfl := Option.some.inj H
                  go_wp2_with (first | ((with_reducible refine gate_callee (f := 9) rfl ?_); refine goesL_ (some 29) rfl rfl Try.func9 (by kernel_rfl) rfl #[.slice A2 l2.length c2] rfl (by (try simp only [List.map_toArray, List.map_cons, List.map_nil]); first | done | rfl | (simp only [List.length_drop, List.length_take]; rfl)) ?_; (with_reducible refine (utf16_Scalars.calls kj3 _ _ l2 t214 t215 t216 _ ?side1 ?side2 A10.out).mono ?_); (case side1 => repeat (first | exact (Kd.C_below HR2.out HB.out) | (with_reducible refine Kd.C_alloc ?_ _) | (with_reducible refine Kd.C_drewN ?_ _) | (with_reducible refine Kd.C_drew ?_))); (case side2 => exact HC2.out); rintro e w24 ⟨v217, rfl, ho0, hb⟩; refine ⟨_, rfl, ?_⟩; have n0_ := Aside0.mk (Kd.R_lower ho0 (below_size (by repeat (first | (with_reducible first | exact HB.out | apply below_alloc | apply pw_below_drewN | apply below_drew1) | exact HB.out)))); have n1_ := Aside0.mk (below_step (by repeat (first | (with_reducible first | exact HB.out | apply below_alloc | apply pw_below_drewN | apply below_drew1) | exact HB.out)) hb); clear HB; have HO218 := n0_; have HB := n1_; clear n0_ n1_; (try clear hb); (try clear hb2); (try clear hk); (try clear hi); (try clear ho0)) | ((with_reducible refine gate_callee (f := 10) rfl ?_); refine goesL_ (some 35) rfl rfl Try.func10 (by kernel_rfl) rfl #[.slice A2 l2.length c2] rfl (by (try simp only [List.map_toArray, List.map_cons, List.map_nil]); first | done | rfl | (simp only [List.length_drop, List.length_take]; rfl)) ?_; (with_reducible refine (orthoepyref03_Scalars.calls kj3 _ _ l2 t219 t220 t221 _ ?side1 ?side2 A11.out).mono ?_); (case side1 => repeat (first | exact (Kd.C_below HR2.out HB.out) | (with_reducible refine Kd.C_alloc ?_ _) | (with_reducible refine Kd.C_drewN ?_ _) | (with_reducible refine Kd.C_drew ?_))); (case side2 => exact HC2.out); rintro e w25 ⟨v222, rfl, ho0, hb⟩; refine ⟨_, rfl, ?_⟩; have n0_ := Aside0.mk (Kd.R_elder' (by (with_reducible repeat (first | apply Kd.R_alloc | apply Kd.R_drewN | apply Kd.R_drew)); exact HO218.out) (Kd.R_base ho0) hb); have n1_ := Aside0.mk (Kd.R_lower (Kd.R_new' ho0 (Kd.R_lt (by (with_reducible repeat (first | apply Kd.R_alloc | apply Kd.R_drewN | apply Kd.R_drew)); exact HO218.out))) (below_size (by repeat (first | (with_reducible first | exact HB.out | apply below_alloc | apply pw_below_drewN | apply below_drew1) | exact HB.out)))); have n2_ := Aside0.mk (below_step (by repeat (first | (with_reducible first | exact HB.out | apply below_alloc | apply pw_below_drewN | apply below_drew1) | exact HB.out)) hb); clear HO218; clear HB; have HO218 := n0_; have HO223 := n1_; have HB := n2_; clear n0_ n1_ n2_; (try clear hb); (try clear hb2); (try clear hk); (try clear hi); (try clear ho0)) | ((with_reducible refine gate_callee (f := 12) rfl ?_); refine goesL_ (some 40) rfl rfl Try.func12 (by kernel_rfl) rfl #[.slice A0 l0.length c0] rfl (by (try simp only [List.map_toArray, List.map_cons, List.map_nil]); first | done | rfl | (simp only [List.length_drop, List.length_take]; rfl)) ?_; (with_reducible refine (utf16_Units.calls _ _ l0 t224 _ ?side1 ?side2 A12.out).mono ?_); (case side1 => repeat (first | exact (Kd.C_below HR0.out HB.out) | (with_reducible refine Kd.C_alloc ?_ _) | (with_reducible refine Kd.C_drewN ?_ _) | (with_reducible refine Kd.C_drew ?_))); (case side2 => exact HC0.out); rintro e w26 ⟨v225, rfl, ho0, hb⟩; refine ⟨_, rfl, ?_⟩; have n0_ := Aside0.mk (Kd.R_below (by (with_reducible repeat (first | apply Kd.R_alloc | apply Kd.R_drewN | apply Kd.R_drew)); exact HO218.out) hb); have n1_ := Aside0.mk (Kd.R_below (by (with_reducible repeat (first | apply Kd.R_alloc | apply Kd.R_drewN | apply Kd.R_drew)); exact HO223.out) hb); have n2_ := Aside0.mk (Kd.R_lower ho0 (below_size (by repeat (first | (with_reducible first | exact HB.out | apply below_alloc | apply pw_below_drewN | apply below_drew1) | exact HB.out)))); have n3_ := Aside0.mk (below_step (by repeat (first | (with_reducible first | exact HB.out | apply below_alloc | apply pw_below_drewN | apply below_drew1) | exact HB.out)) hb); clear HO218; clear HO223; clear HB; have HO218 := n0_; have HO223 := n1_; have HO226 := n2_; have HB := n3_; clear n0_ n1_ n2_ n3_; (try clear hb); (try clear hb2); (try clear hk); (try clear hi); (try clear ho0)) | ((with_reducible refine gate_callee (f := 13) rfl ?_); refine goesL_ (some 42) rfl rfl Try.func13 (by kernel_rfl) rfl #[.slice A0 l0.length c0] rfl (by (try simp only [List.map_toArray, List.map_cons, List.map_nil]); first | done | rfl | (simp only [List.length_drop, List.length_take]; rfl)) ?_; (with_reducible refine (orthoepyref03_Units.calls kj3 _ _ l0 t227 _ ?side1 ?side2 A13.out).mono ?_); (case side1 => repeat (first | exact (Kd.C_below HR0.out HB.out) | (with_reducible refine Kd.C_alloc ?_ _) | (with_reducible refine Kd.C_drewN ?_ _) | (with_reducible refine Kd.C_drew ?_))); (case side2 => exact HC0.out); rintro e w27 ⟨v228, rfl, ho0, hb⟩; refine ⟨_, rfl, ?_⟩; have n0_ := Aside0.mk (Kd.R_below (by (with_reducible repeat (first | apply Kd.R_alloc | apply Kd.R_drewN | apply Kd.R_drew)); exact HO218.out) hb); have n1_ := Aside0.mk (Kd.R_below (by (with_reducible repeat (first | apply Kd.R_alloc | apply Kd.R_drewN | apply Kd.R_drew)); exact HO223.out) hb); have n2_ := Aside0.mk (Kd.R_elder' (by (with_reducible repeat (first | apply Kd.R_alloc | apply Kd.R_drewN | apply Kd.R_drew)); exact HO226.out) (Kd.R_base ho0) hb); have n3_ := Aside0.mk (Kd.R_lower (Kd.R_new' ho0 (Kd.R_lt (by (with_reducible repeat (first | apply Kd.R_alloc | apply Kd.R_drewN | apply Kd.R_drew)); exact HO226.out))) (below_size (by repeat (first | (with_reducible first | exact HB.out | apply below_alloc | apply pw_below_drewN | apply below_drew1) | exact HB.out)))); have n4_ := Aside0.mk (below_step (by repeat (first | (with_reducible first | exact HB.out | apply below_alloc | apply pw_below_drewN | apply below_drew1) | exact HB.out)) hb); clear HO218; clear HO223; clear HO226; clear HB; have HO218 := n0_; have HO223 := n1_; have HO226 := n2_; have HO229 := n3_; have HB := n4_; clear n0_ n1_ n2_ n3_ n4_; (try clear hb); (try clear hb2); (try clear hk); (try clear hi); (try clear ho0); obtain ⟨Ao28, co28, eo28⟩ := Kd.R_slice HO226.out; subst eo28; obtain ⟨Ao29, co29, eo29⟩ := Kd.R_slice HO229.out; subst eo29) | ((with_reducible refine gate_callee (f := 11) rfl ?_); refine goesL_ (some 43) rfl rfl Try.func11 (by kernel_rfl) rfl #[.slice Ao28 t224.length co28, .slice Ao29 t227.length co29] rfl (by (try simp only [List.map_toArray, List.map_cons, List.map_nil]); first | done | rfl | (simp only [List.length_drop, List.length_take]; rfl)) ?_; (with_reducible refine (orthoepylaw03_same.calls kj3 _ _ t224 _ _ t227 true _ ?side1 ?side2 ?side3 ?side4 A14.out).mono ?_); (case side1 => repeat (first | exact (Kd.R_reads' HO226.out).2.2 | (with_reducible refine Kd.C_alloc ?_ _) | (with_reducible refine Kd.C_drewN ?_ _) | (with_reducible refine Kd.C_drew ?_))); (case side2 => exact (Kd.R_reads' HO226.out).2.1); (case side3 => repeat (first | exact (Kd.R_reads' HO229.out).2.2 | (with_reducible refine Kd.C_alloc ?_ _) | (with_reducible refine Kd.C_drewN ?_ _) | (with_reducible refine Kd.C_drew ?_))); (case side4 => exact (Kd.R_reads' HO229.out).2.1); rintro e w' ⟨rfl, ⟨nd, rfl⟩⟩; refine ⟨_, rfl, ?_⟩; obtain ⟨Ao30, co30, eo30⟩ := Kd.R_slice HO218.out; subst eo30; obtain ⟨Ao31, co31, eo31⟩ := Kd.R_slice HO223.out; subst eo31) | (go_at_call 14; (with_reducible refine (orthoepyref07_Same.calls kj3 _ _ t214 _ _ t219 true _ ?side1 ?side2 ?side3 ?side4 A16.out).mono ?_); (case side1 => repeat (first | exact (Kd.R_reads' HO218.out).2.2 | (with_reducible refine Kd.C_alloc ?_ _) | (with_reducible refine Kd.C_drewN ?_ _) | (with_reducible refine Kd.C_drew ?_))); (case side2 => exact (Kd.R_reads' HO218.out).2.1); (case side3 => repeat (first | exact (Kd.R_reads' HO223.out).2.2 | (with_reducible refine Kd.C_alloc ?_ _) | (with_reducible refine Kd.C_drewN ?_ _) | (with_reducible refine Kd.C_drew ?_))); (case side4 => exact (Kd.R_reads' HO223.out).2.1); rintro e w' ⟨rfl, ⟨nd, rfl⟩⟩) | (go_at_call 15; (with_reducible refine (utf16_Compare.calls kj3 _ _ l0 _ _ l1 t232 _ ?side1 ?side2 ?side3 ?side4 A20.out).mono ?_); (case side1 => repeat (first | exact (Kd.C_below HR0.out (by repeat (first | (with_reducible first | exact HB.out | apply below_alloc | apply pw_below_drewN | apply below_drew1) | exact HB.out))) | (with_reducible refine Kd.C_alloc ?_ _) | (with_reducible refine Kd.C_drewN ?_ _) | (with_reducible refine Kd.C_drew ?_))); (case side2 => exact HC0.out); (case side3 => repeat (first | exact (Kd.C_below HR1.out (by repeat (first | (with_reducible first | exact HB.out | apply below_alloc | apply pw_below_drewN | apply below_drew1) | exact HB.out))) | (with_reducible refine Kd.C_alloc ?_ _) | (with_reducible refine Kd.C_drewN ?_ _) | (with_reducible refine Kd.C_drew ?_))); (case side4 => exact HC1.out); rintro e w32 ⟨rfl, hb⟩; have n0_ := Aside0.mk (Kd.R_below (by (with_reducible repeat (first | apply Kd.R_alloc | apply Kd.R_drewN | apply Kd.R_drew)); exact HO218.out) hb); have n1_ := Aside0.mk (Kd.R_below (by (with_reducible repeat (first | apply Kd.R_alloc | apply Kd.R_drewN | apply Kd.R_drew)); exact HO223.out) hb); have n2_ := Aside0.mk (Kd.R_below (by (with_reducible repeat (first | apply Kd.R_alloc | apply Kd.R_drewN | apply Kd.R_drew)); exact HO226.out) hb); have n3_ := Aside0.mk (Kd.R_below (by (with_reducible repeat (first | apply Kd.R_alloc | apply Kd.R_drewN | apply Kd.R_drew)); exact HO229.out) hb); have n4_ := Aside0.mk (below_step (by repeat (first | (with_reducible first | exact HB.out | apply below_alloc | apply pw_below_drewN | apply below_drew1) | exact HB.out)) hb); clear HO218; clear HO223; clear HO226; clear HO229; clear HB; have HO218 := n0_; have HO223 := n1_; have HO226 := n2_; have HO229 := n3_; have HB := n4_; clear n0_ n1_ n2_ n3_ n4_; (try clear hb); (try clear hb2); (try clear hk); (try clear hi)) | (go_at_call 16; (with_reducible refine (orthoepyref03_Compare.calls kj3 _ _ l0 _ _ l1 t233 _ ?side1 ?side2 ?side3 ?side4 A21.out).mono ?_); (case side1 => repeat (first | exact (Kd.C_below HR0.out HB.out) | (with_reducible refine Kd.C_alloc ?_ _) | (with_reducible refine Kd.C_drewN ?_ _) | (with_reducible refine Kd.C_drew ?_))); (case side2 => exact HC0.out); (case side3 => repeat (first | exact (Kd.C_below HR1.out HB.out) | (with_reducible refine Kd.C_alloc ?_ _) | (with_reducible refine Kd.C_drewN ?_ _) | (with_reducible refine Kd.C_drew ?_))); (case side4 => exact HC1.out); rintro e w33 ⟨rfl, hb⟩; have n0_ := Aside0.mk (Kd.R_below (by (with_reducible repeat (first | apply Kd.R_alloc | apply Kd.R_drewN | apply Kd.R_drew)); exact HO218.out) hb); have n1_ := Aside0.mk (Kd.R_below (by (with_reducible repeat (first | apply Kd.R_alloc | apply Kd.R_drewN | apply Kd.R_drew)); exact HO223.out) hb); have n2_ := Aside0.mk (Kd.R_below (by (with_reducible repeat (first | apply Kd.R_alloc | apply Kd.R_drewN | apply Kd.R_drew)); exact HO226.out) hb); have n3_ := Aside0.mk (Kd.R_below (by (with_reducible repeat (first | apply Kd.R_alloc | apply Kd.R_drewN | apply Kd.R_drew)); exact HO229.out) hb); have n4_ := Aside0.mk (below_step (by repeat (first | (with_reducible first | exact HB.out | apply below_alloc | apply pw_below_drewN | apply below_drew1) | exact HB.out)) hb); clear HO218; clear HO223; clear HO226; clear HO229; clear HB; have HO218 := n0_; have HO223 := n1_; have HO226 := n2_; have HO229 := n3_; have HB := n4_; clear n0_ n1_ n2_ n3_ n4_; (try clear hb); (try clear hb2); (try clear hk); (try clear hi)) | (go_at_call 8; (with_reducible refine (orthoepylaw03_awake.calls  t234 _ A23.out).mono ?_); rintro e w34 ⟨rfl, hb⟩; have n0_ := Aside0.mk (Kd.R_below (by (with_reducible repeat (first | apply Kd.R_alloc | apply Kd.R_drewN | apply Kd.R_drew)); exact HO218.out) hb); have n1_ := Aside0.mk (Kd.R_below (by (with_reducible repeat (first | apply Kd.R_alloc | apply Kd.R_drewN | apply Kd.R_drew)); exact HO223.out) hb); have n2_ := Aside0.mk (Kd.R_below (by (with_reducible repeat (first | apply Kd.R_alloc | apply Kd.R_drewN | apply Kd.R_drew)); exact HO226.out) hb); have n3_ := Aside0.mk (Kd.R_below (by (with_reducible repeat (first | apply Kd.R_alloc | apply Kd.R_drewN | apply Kd.R_drew)); exact HO229.out) hb); have n4_ := Aside0.mk (below_step (by repeat (first | (with_reducible first | exact HB.out | apply below_alloc | apply pw_below_drewN | apply below_drew1) | exact HB.out)) hb); clear HO218; clear HO223; clear HO226; clear HO229; clear HB; have HO218 := n0_; have HO223 := n1_; have HO226 := n2_; have HO229 := n3_; have HB := n4_; clear n0_ n1_ n2_ n3_ n4_; (try clear hb); (try clear hb2); (try clear hk); (try clear hi)))
                  go_ret
                  exact ⟨by first | rfl | (simp [errW_none, errW_some] <;> rfl) | (simp [*, errW_none, errW_some] <;> rfl), by repeat (first | (with_reducible first | exact HB.out | apply below_alloc | apply pw_below_drewN | apply below_drew1) | exact HB.out)⟩
                · rw [if_neg c22] at H
                  have c22b0 : (t232 == t233) = false := beq_eq_false_iff_ne.mpr c22
                  have c22b1 : (t232 != t233) = true := bne_iff_ne.mpr c22
                  obtain rfl := Option.some.inj H
                  exact absurd hT_.out (by decide)
              · rw [if_neg c19] at H
                have c19b0 : (t216 == t221) = false := by simpa using c19
                (try (have c19b1 : decide (t216 = t221) = false := by simpa using c19))
                (try (have c19b2 : (t216 == t221) = false := by simpa using c19))
                (try (have c19b3 : ¬ (t216 = t221) := by simpa using c19))
                clear c19
                obtain rfl := Option.some.inj H
                exact absurd hT_.out (by decide)
            · rw [if_neg c18] at H
              have c18b0 : (t215 == t220) = false := beq_eq_false_iff_ne.mpr c18
              have c18b1 : (t215 != t220) = true := bne_iff_ne.mpr c18
              obtain rfl := Option.some.inj H
              exact absurd hT_.out (by decide)
          · replace c17 := Bool.eq_false_iff.mpr c17
            subst c17
            have H1 : (some false) = some r := by rw [if_neg (show ¬ (false = true) by decide)] at H; exact H
            clear H
            have H := H1
            clear H1
            obtain rfl := Option.some.inj H
            exact absurd hT_.out (by decide)
        · replace c15 := Bool.eq_false_iff.mpr c15
          subst c15
          have H1 : (some false) = some r := by rw [if_neg (show ¬ (false = true) by decide)] at H; exact H
          clear H
          have H := H1
          clear H1
          obtain rfl := Option.some.inj H
          exact absurd hT_.out (by decide)

/-- THE ONE PURE STATEMENT of orthoepylaw03_Utf16All: yours. -/
def orthoepylaw03_Utf16All.Pure : Prop := ∀ (l0 : List Int) (l1 : List Int) (l2 : List Int), l0.length ≤ maxLen → l0.length * 4 ≤ 140737488351232 → (∀ x ∈ l0, (Lit.int .i32 x).wf = true) → l1.length ≤ maxLen → l1.length * 4 ≤ 140737488351232 → (∀ x ∈ l1, (Lit.int .i32 x).wf = true) → l2.length ≤ maxLen → l2.length * 2 ≤ 140737488351232 → (∀ x ∈ l2, (Lit.int .u16 x).wf = true) → ∃ k, orthoepylaw03_Utf16All.f k l0 l1 l2 = some true
theorem orthoepylaw03_Utf16All.walk (P : orthoepylaw03_Utf16All.Pure) (a0 : Option Addr) (len0 cap0 : Nat) (z0 : List Int) (a1 : Option Addr) (len1 cap1 : Nat) (z1 : List Int) (a2 : Option Addr) (len2 cap2 : Nat) (z2 : List Int) (w : World) (w0 : (a0 = none ∧ len0 = 0 ∧ cap0 = 0 ∧ z0 = []) ∨ ∃ x, a0 = some x ∧ len0 ≤ cap0 ∧ cap0 ≤ maxLen ∧ z0.length = cap0 ∧ (∀ i, i < z0.length → w.cell? (x.add i) = some (.int .i32 (z0.getD i 0))) ∧ ∀ n ∈ z0, (Lit.int .i32 n).wf = true) (y0 : len0 * 4 ≤ 140737488351232) (w1 : (a1 = none ∧ len1 = 0 ∧ cap1 = 0 ∧ z1 = []) ∨ ∃ x, a1 = some x ∧ len1 ≤ cap1 ∧ cap1 ≤ maxLen ∧ z1.length = cap1 ∧ (∀ i, i < z1.length → w.cell? (x.add i) = some (.int .i32 (z1.getD i 0))) ∧ ∀ n ∈ z1, (Lit.int .i32 n).wf = true) (y1 : len1 * 4 ≤ 140737488351232) (w2 : (a2 = none ∧ len2 = 0 ∧ cap2 = 0 ∧ z2 = []) ∨ ∃ x, a2 = some x ∧ len2 ≤ cap2 ∧ cap2 ≤ maxLen ∧ z2.length = cap2 ∧ (∀ i, i < z2.length → w.cell? (x.add i) = some (.int .u16 (z2.getD i 0))) ∧ ∀ n ∈ z2, (Lit.int .u16 n).wf = true) (y2 : len2 * 2 ≤ 140737488351232) :
    Calls Try.prog 3 #[.slice a0 len0 cap0, .slice a1 len1 cap1, .slice a2 len2 cap2] w fun e w' => e = .returned (.bool true) ∧ Below w.heap.size w w' := by
  obtain ⟨l0, rfl, hr0, hm0, hw0, hc0⟩ := ReadsInt.ofRowC w0
  obtain ⟨l1, rfl, hr1, hm1, hw1, hc1⟩ := ReadsInt.ofRowC w1
  obtain ⟨l2, rfl, hr2, hm2, hw2, hc2⟩ := ReadsInt.ofRowC w2
  obtain ⟨k, h⟩ := P l0 l1 l2 hm0 y0 hw0 hm1 y1 hw1 hm2 y2 hw2
  refine (orthoepylaw03_Utf16All.calls k _ _ l0 _ _ l1 _ _ l2 true w (Kd.C_of_reads (d := (0 : Int)) (h1 := fun _ => rfl) hr0) hc0 (Kd.C_of_reads (d := (0 : Int)) (h1 := fun _ => rfl) hr1) hc1 (Kd.C_of_reads (d := (0 : Int)) (h1 := fun _ => rfl) hr2) hc2 h ⟨rfl⟩).mono ?_
  rintro e w' ⟨rfl, hd⟩
  exact ⟨rfl, hd⟩

/-! ### orthoepylaw00_Place: function 22 -/
def orthoepylaw00_Place.f (a0 : Int) (a1 : Int) : Option (Int) := if a1 = 0 then (none) else (if (Int.tmod a0 a1) < 0 then (some (wrap64 ((Int.tmod a0 a1) + a1))) else (some (Int.tmod a0 a1)))
set_option maxHeartbeats 8000000 in
set_option maxRecDepth 100000 in
theorem orthoepylaw00_Place.calls (a0 : Int) (a1 : Int) (r : Int) (w : World) (h : orthoepylaw00_Place.f a0 a1 = some r) :
    Calls Try.prog 22 #[.int .i64 a0, .int .i64 a1] w fun e w' => e = .returned (.int .i64 r) ∧ Drawn0 w w' := by
  have H : (if a1 = 0 then (none) else (if (Int.tmod a0 a1) < 0 then (some (wrap64 ((Int.tmod a0 a1) + a1))) else (some (Int.tmod a0 a1)))) = some r := h
  clear h
  by_cases c3 : a1 = 0
  · rw [if_pos c3] at H
    exact absurd H (by simp)
  · rw [if_neg c3] at H
    have c3b0 : (a1 == 0) = false := beq_eq_false_iff_ne.mpr c3
    have c3b1 : (a1 != 0) = true := bne_iff_ne.mpr c3
    by_cases c4 : (Int.tmod a0 a1) < 0
    · rw [if_pos c4] at H
      have c4b0 : decide ((Int.tmod a0 a1) < 0) = true := decide_eq_true c4
      clear c4
      obtain rfl := Option.some.inj H
      go_enter Try.func22, Try.ntmps22
      go_wp2
      go_ret
      exact ⟨by first | rfl | (simp; done) | (simp [*]; done), by repeat (first | exact Drawn0.refl _ | apply Drawn0.step)⟩
    · rw [if_neg c4] at H
      have c4b0 : decide ((Int.tmod a0 a1) < 0) = false := decide_eq_false c4
      clear c4
      obtain rfl := Option.some.inj H
      go_enter Try.func22, Try.ntmps22
      go_wp2
      go_ret
      exact ⟨by first | rfl | (simp; done) | (simp [*]; done), by repeat (first | exact Drawn0.refl _ | apply Drawn0.step)⟩

end Go.Proofs.Ythgloaihgpcjjaa.PAll
