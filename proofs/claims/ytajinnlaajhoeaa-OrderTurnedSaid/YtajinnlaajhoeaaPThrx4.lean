-- The machine's side of laws, written by a program of this session (wip/gen/pp.sh). Lean checks it.
import Derived.Test.YtajinnlaajhoeaaPThrx0
import Derived.Test.YtajinnlaajhoeaaPThrx1
import Derived.Test.YtajinnlaajhoeaaPThrx2
import Derived.Test.YtajinnlaajhoeaaPThrx3
namespace Go.Proofs.Ytajinnlaajhoeaa.PThr
open Go.RowKit Go.Proofs.YtajinnlaajhoeaaW.PrintWords Go.Proofs.YtajinnlaajhoeaaW.PrintLast
set_option linter.unusedVariables false
set_option linter.unusedSimpArgs false

/-! ### orthoepylaw21_OrderMerges: function 6 -/
mutual
def orthoepylaw21_OrderMerges.j0 : Nat → List ByteArray → List Int → List Int → Bool → Option (Bool)
  | 0, _, _, _, _ => none
  | k + 1, x0, x1, x2, x28 => if x28 = true then ((orthoepylaw21_awake.f).bind fun t188 => (some t188)) else (orthoepylaw21_OrderMerges.l0 k x0 x1 x2 ([] : List Int) 0)
def orthoepylaw21_OrderMerges.l0 : Nat → List ByteArray → List Int → List Int → List Int → Int → Option (Bool)
  | 0, _, _, _, _, _ => none
  | k + 1, x0, x1, x2, x7, x9 => if x9 < (x1.length : Int) then (if 0 ≤ x9 then (if (x0.length : Int) = 0 then (none) else ((orthoepylaw21_put.f k x0 x7 (Int.tmod (wrap64 (rd x1 x9)) (x0.length : Int))).bind fun t190 => (orthoepylaw21_OrderMerges.l0 k x0 x1 x2 t190 (wrap64 (x9 + 1))))) else (none)) else (orthoepylaw21_OrderMerges.l1 k x0 x2 x7 ([] : List Int) 0)
def orthoepylaw21_OrderMerges.l1 : Nat → List ByteArray → List Int → List Int → List Int → Int → Option (Bool)
  | 0, _, _, _, _, _ => none
  | k + 1, x0, x2, x7, x8, x10 => if x10 < (x2.length : Int) then (if 0 ≤ x10 then (if (x0.length : Int) = 0 then (none) else ((orthoepylaw21_put.f k x0 x8 (Int.tmod (wrap64 (rd x2 x10)) (x0.length : Int))).bind fun t194 => (orthoepylaw21_OrderMerges.l1 k x0 x2 x7 t194 (wrap64 (x10 + 1))))) else (none)) else ((order_Merge.f x0 x7 x8).bind fun t197 => ((orthoepyref21_Merge.f k x0 x7 x8).bind fun t200 => ((orthoepylaw21_same.f t197 t200).bind fun t203 => (if t203 = true then ((orthoepylaw21_awake.f).bind fun t204 => (some t204)) else (some false)))))
end
def orthoepylaw21_OrderMerges.f (k : Nat) (l0 : List ByteArray) (l1 : List Int) (l2 : List Int) : Option (Bool) := (orthoepylaw21_right.f k l0).bind fun t187 => (if t187 = true then (if (l0.length : Int) = 0 then (orthoepylaw21_OrderMerges.j0 k l0 l1 l2 true) else (if (l1.length : Int) > 30 then (orthoepylaw21_OrderMerges.j0 k l0 l1 l2 true) else (orthoepylaw21_OrderMerges.j0 k l0 l1 l2 (decide ((l2.length : Int) > 30))))) else (orthoepylaw21_OrderMerges.j0 k l0 l1 l2 true))
theorem orthoepylaw21_OrderMerges.mono_l : ∀ k, (∀ y0 y1 y2 y3, LeO (orthoepylaw21_OrderMerges.j0 k y0 y1 y2 y3) (orthoepylaw21_OrderMerges.j0 (k + 1) y0 y1 y2 y3)) ∧ (∀ y0 y1 y2 y3 y4, LeO (orthoepylaw21_OrderMerges.l0 k y0 y1 y2 y3 y4) (orthoepylaw21_OrderMerges.l0 (k + 1) y0 y1 y2 y3 y4)) ∧ (∀ y0 y1 y2 y3 y4, LeO (orthoepylaw21_OrderMerges.l1 k y0 y1 y2 y3 y4) (orthoepylaw21_OrderMerges.l1 (k + 1) y0 y1 y2 y3 y4))
  | 0 => ⟨fun _ _ _ _ r h => by simp [orthoepylaw21_OrderMerges.j0] at h, fun _ _ _ _ _ r h => by simp [orthoepylaw21_OrderMerges.l0] at h, fun _ _ _ _ _ r h => by simp [orthoepylaw21_OrderMerges.l1] at h⟩
  | k + 1 => by
    obtain ⟨ih0, ih1, ih2⟩ := orthoepylaw21_OrderMerges.mono_l k
    refine ⟨?_, ?_, ?_⟩
    · intro y0 y1 y2 y3
      unfold orthoepylaw21_OrderMerges.j0
      repeat' first
      | (with_reducible exact ih0 _ _ _ _)
      | (with_reducible exact ih1 _ _ _ _ _)
      | (with_reducible exact ih2 _ _ _ _ _)
      | (with_reducible exact orthoepylaw21_put.mono _ _ _ _)
      | (with_reducible exact orthoepylaw21_right.mono _ _)
      | (with_reducible exact orthoepyref21_Merge.mono _ _ _ _)
      | (with_reducible exact LeO.refl _)
      | (with_reducible exact LeO.none _)
      | (with_reducible refine LeO.ite ?_ ?_)
      | (with_reducible refine LeO.bind ?_ (fun _ => ?_))
      | exact ih0 _ _ _ _
      | exact ih1 _ _ _ _ _
      | exact ih2 _ _ _ _ _
      | exact orthoepylaw21_put.mono _ _ _ _
      | exact orthoepylaw21_right.mono _ _
      | exact orthoepyref21_Merge.mono _ _ _ _
      | exact LeO.none _
      | refine LeO.ite ?_ ?_
      | refine LeO.bind ?_ (fun _ => ?_)
    · intro y0 y1 y2 y3 y4
      unfold orthoepylaw21_OrderMerges.l0
      repeat' first
      | (with_reducible exact ih0 _ _ _ _)
      | (with_reducible exact ih1 _ _ _ _ _)
      | (with_reducible exact ih2 _ _ _ _ _)
      | (with_reducible exact orthoepylaw21_put.mono _ _ _ _)
      | (with_reducible exact orthoepylaw21_right.mono _ _)
      | (with_reducible exact orthoepyref21_Merge.mono _ _ _ _)
      | (with_reducible exact LeO.refl _)
      | (with_reducible exact LeO.none _)
      | (with_reducible refine LeO.ite ?_ ?_)
      | (with_reducible refine LeO.bind ?_ (fun _ => ?_))
      | exact ih0 _ _ _ _
      | exact ih1 _ _ _ _ _
      | exact ih2 _ _ _ _ _
      | exact orthoepylaw21_put.mono _ _ _ _
      | exact orthoepylaw21_right.mono _ _
      | exact orthoepyref21_Merge.mono _ _ _ _
      | exact LeO.none _
      | refine LeO.ite ?_ ?_
      | refine LeO.bind ?_ (fun _ => ?_)
    · intro y0 y1 y2 y3 y4
      unfold orthoepylaw21_OrderMerges.l1
      repeat' first
      | (with_reducible exact ih0 _ _ _ _)
      | (with_reducible exact ih1 _ _ _ _ _)
      | (with_reducible exact ih2 _ _ _ _ _)
      | (with_reducible exact orthoepylaw21_put.mono _ _ _ _)
      | (with_reducible exact orthoepylaw21_right.mono _ _)
      | (with_reducible exact orthoepyref21_Merge.mono _ _ _ _)
      | (with_reducible exact LeO.refl _)
      | (with_reducible exact LeO.none _)
      | (with_reducible refine LeO.ite ?_ ?_)
      | (with_reducible refine LeO.bind ?_ (fun _ => ?_))
      | exact ih0 _ _ _ _
      | exact ih1 _ _ _ _ _
      | exact ih2 _ _ _ _ _
      | exact orthoepylaw21_put.mono _ _ _ _
      | exact orthoepylaw21_right.mono _ _
      | exact orthoepyref21_Merge.mono _ _ _ _
      | exact LeO.none _
      | refine LeO.ite ?_ ?_
      | refine LeO.bind ?_ (fun _ => ?_)
theorem orthoepylaw21_OrderMerges.mono : ∀ a0 a1 a2 k, LeO (orthoepylaw21_OrderMerges.f k a0 a1 a2) (orthoepylaw21_OrderMerges.f (k + 1) a0 a1 a2) := by
  intro a0 a1 a2 k
  obtain ⟨ih0, ih1, ih2⟩ := orthoepylaw21_OrderMerges.mono_l k
  unfold orthoepylaw21_OrderMerges.f
  repeat' first
      | (with_reducible exact ih0 _ _ _ _)
      | (with_reducible exact ih1 _ _ _ _ _)
      | (with_reducible exact ih2 _ _ _ _ _)
      | (with_reducible exact orthoepylaw21_put.mono _ _ _ _)
      | (with_reducible exact orthoepylaw21_right.mono _ _)
      | (with_reducible exact orthoepyref21_Merge.mono _ _ _ _)
      | (with_reducible exact LeO.refl _)
      | (with_reducible exact LeO.none _)
      | (with_reducible refine LeO.ite ?_ ?_)
      | (with_reducible refine LeO.bind ?_ (fun _ => ?_))
      | exact ih0 _ _ _ _
      | exact ih1 _ _ _ _ _
      | exact ih2 _ _ _ _ _
      | exact orthoepylaw21_put.mono _ _ _ _
      | exact orthoepylaw21_right.mono _ _
      | exact orthoepyref21_Merge.mono _ _ _ _
      | exact LeO.none _
      | refine LeO.ite ?_ ?_
      | refine LeO.bind ?_ (fun _ => ?_)
set_option maxHeartbeats 8000000 in
set_option maxRecDepth 100000 in
theorem orthoepylaw21_OrderMerges.calls (k : Nat) (A0 : Option Addr) (c0 : Nat) (l0 : List ByteArray) (A1 : Option Addr) (c1 : Nat) (l1 : List Int) (A2 : Option Addr) (c2 : Nat) (l2 : List Int) (r : Bool) (w : World) (hr0 : Kd.C Kd.string w A0 l0.length l0) (hc0 : l0.length ≤ c0) (hr1 : Kd.C (Kd.int .u8) w A1 l1.length l1) (hc1 : l1.length ≤ c1) (hr2 : Kd.C (Kd.int .u8) w A2 l2.length l2) (hc2 : l2.length ≤ c2) (h : orthoepylaw21_OrderMerges.f k l0 l1 l2 = some r) (hT_ : Aside0 (r = true)) :
    Calls Try.prog 6 #[.slice A0 l0.length c0, .slice A1 l1.length c1, .slice A2 l2.length c2] w fun e w' => e = .returned (.bool r) ∧ Below w.heap.size w w' := by
  have HR0 := Aside0.mk hr0
  have HC0 := Aside0.mk hc0
  clear hr0 hc0
  have HR1 := Aside0.mk hr1
  have HC1 := Aside0.mk hc1
  clear hr1 hc1
  have HR2 := Aside0.mk hr2
  have HC2 := Aside0.mk hc2
  clear hr2 hc2
  have HB := Aside0.mk (Below.refl w.heap.size w)
  have H : ((orthoepylaw21_right.f k l0).bind fun t187 => (if t187 = true then (if (l0.length : Int) = 0 then (orthoepylaw21_OrderMerges.j0 k l0 l1 l2 true) else (if (l1.length : Int) > 30 then (orthoepylaw21_OrderMerges.j0 k l0 l1 l2 true) else (orthoepylaw21_OrderMerges.j0 k l0 l1 l2 (decide ((l2.length : Int) > 30))))) else (orthoepylaw21_OrderMerges.j0 k l0 l1 l2 true))) = some r := h
  clear h
  have HC4 := Aside0.mk H
  clear H
  go_enter Try.func6, Try.ntmps6
  go_upto_region 1 with (fail)
  go_cut [28] (fun v28 wc => ∃ (kq : Nat) (x28_3 : Bool), v28 = .bool x28_3 ∧ Aside0 (orthoepylaw21_OrderMerges.j0 kq l0 l1 l2 x28_3 = some r) ∧ Aside0 (kq ≤ k) ∧ Aside0 (Below w.heap.size w wc))
  case first =>
    have H := HC4.out
    clear HC4
    replace H := Option.bind_eq_some_iff.mp H
    obtain ⟨t187, A50, H⟩ := H
    replace H : (if t187 = true then (if (l0.length : Int) = 0 then (orthoepylaw21_OrderMerges.j0 k l0 l1 l2 true) else (if (l1.length : Int) > 30 then (orthoepylaw21_OrderMerges.j0 k l0 l1 l2 true) else (orthoepylaw21_OrderMerges.j0 k l0 l1 l2 (decide ((l2.length : Int) > 30))))) else (orthoepylaw21_OrderMerges.j0 k l0 l1 l2 true)) = some r := H
    have A5 := Aside0.mk A50
    clear A50
    by_cases c6 : t187 = true
    · subst c6
      have H1 : (if (l0.length : Int) = 0 then (orthoepylaw21_OrderMerges.j0 k l0 l1 l2 true) else (if (l1.length : Int) > 30 then (orthoepylaw21_OrderMerges.j0 k l0 l1 l2 true) else (orthoepylaw21_OrderMerges.j0 k l0 l1 l2 (decide ((l2.length : Int) > 30))))) = some r := by rw [if_pos rfl] at H; exact H
      clear H
      have H := H1
      clear H1
      by_cases c7 : (l0.length : Int) = 0
      · rw [if_pos c7] at H
        have c7b0 : ((l0.length : Int) == 0) = true := beq_iff_eq.mpr c7
        have c7b1 : ((l0.length : Int) != 0) = false := bne_eq_false_iff_eq.mpr c7
        clear c7
        (first | rw [c7b0] | (simp only [i64_w, i32_w]; rw [c7b0]) | skip)
        have H' := Aside0.mk H
        clear H
        go_wp2_with (first | ((with_reducible refine gate_callee (f := 10) rfl ?_); refine goesL_ (some 12) rfl rfl Try.func10 (by kernel_rfl) rfl #[.slice A0 l0.length c0] rfl (by (try simp only [List.map_toArray, List.map_cons, List.map_nil]); first | done | rfl | (simp only [List.length_drop, List.length_take]; rfl)) ?_; (with_reducible refine (orthoepylaw21_right.calls k _ _ l0 true _ ?side1 ?side2 A5.out).mono ?_); (case side1 => repeat (first | exact (Kd.C_below HR0.out HB.out) | (with_reducible refine Kd.C_alloc ?_ _) | (with_reducible refine Kd.C_drewN ?_ _) | (with_reducible refine Kd.C_drew ?_))); (case side2 => exact HC0.out); rintro e w8 ⟨rfl, hb⟩; refine ⟨_, rfl, ?_⟩; have n0_ := Aside0.mk (below_step (by repeat (first | (with_reducible first | exact HB.out | apply below_alloc | apply pw_below_drewN | apply below_drew1) | exact HB.out)) hb); clear HB; have HB := n0_; clear n0_; (try clear hb); (try clear hb2); (try clear hk); (try clear hi)))
        go_meet
        case rel => exact ⟨_, (true), (by first | rfl | (simp; done) | (simp [*]; done)), H', ⟨by first | omega | exact Nat.le_refl _⟩, ⟨by repeat (first | (with_reducible first | exact HB.out | apply below_alloc | apply pw_below_drewN | apply below_drew1) | exact HB.out)⟩⟩
      · rw [if_neg c7] at H
        have c7b0 : ((l0.length : Int) == 0) = false := beq_eq_false_iff_ne.mpr c7
        have c7b1 : ((l0.length : Int) != 0) = true := bne_iff_ne.mpr c7
        have c7b2 : ¬ (l0 = []) := fun h_ => c7 (by rw [h_]; rfl)
        (first | rw [c7b0] | (simp only [i64_w, i32_w]; rw [c7b0]) | skip)
        by_cases c9 : (l1.length : Int) > 30
        · rw [if_pos c9] at H
          have c9b0 : decide (30 < (l1.length : Int)) = true := decide_eq_true c9
          have c9b1 : decide (30 < l1.length) = true := decide_eq_true (by omega)
          clear c9
          have H' := Aside0.mk H
          clear H
          go_wp2_with (first | ((with_reducible refine gate_callee (f := 10) rfl ?_); refine goesL_ (some 12) rfl rfl Try.func10 (by kernel_rfl) rfl #[.slice A0 l0.length c0] rfl (by (try simp only [List.map_toArray, List.map_cons, List.map_nil]); first | done | rfl | (simp only [List.length_drop, List.length_take]; rfl)) ?_; (with_reducible refine (orthoepylaw21_right.calls k _ _ l0 true _ ?side1 ?side2 A5.out).mono ?_); (case side1 => repeat (first | exact (Kd.C_below HR0.out HB.out) | (with_reducible refine Kd.C_alloc ?_ _) | (with_reducible refine Kd.C_drewN ?_ _) | (with_reducible refine Kd.C_drew ?_))); (case side2 => exact HC0.out); rintro e w10 ⟨rfl, hb⟩; refine ⟨_, rfl, ?_⟩; have n0_ := Aside0.mk (below_step (by repeat (first | (with_reducible first | exact HB.out | apply below_alloc | apply pw_below_drewN | apply below_drew1) | exact HB.out)) hb); clear HB; have HB := n0_; clear n0_; (try clear hb); (try clear hb2); (try clear hk); (try clear hi)))
          go_meet
          case rel => exact ⟨_, (true), (by first | rfl | (simp; done) | (simp [*]; done)), H', ⟨by first | omega | exact Nat.le_refl _⟩, ⟨by repeat (first | (with_reducible first | exact HB.out | apply below_alloc | apply pw_below_drewN | apply below_drew1) | exact HB.out)⟩⟩
        · rw [if_neg c9] at H
          have c9b0 : decide (30 < (l1.length : Int)) = false := decide_eq_false c9
          have c9b1 : decide (30 < l1.length) = false := decide_eq_false (by omega)
          clear c9
          have H' := Aside0.mk H
          clear H
          go_wp2_with (first | ((with_reducible refine gate_callee (f := 10) rfl ?_); refine goesL_ (some 12) rfl rfl Try.func10 (by kernel_rfl) rfl #[.slice A0 l0.length c0] rfl (by (try simp only [List.map_toArray, List.map_cons, List.map_nil]); first | done | rfl | (simp only [List.length_drop, List.length_take]; rfl)) ?_; (with_reducible refine (orthoepylaw21_right.calls k _ _ l0 true _ ?side1 ?side2 A5.out).mono ?_); (case side1 => repeat (first | exact (Kd.C_below HR0.out HB.out) | (with_reducible refine Kd.C_alloc ?_ _) | (with_reducible refine Kd.C_drewN ?_ _) | (with_reducible refine Kd.C_drew ?_))); (case side2 => exact HC0.out); rintro e w11 ⟨rfl, hb⟩; refine ⟨_, rfl, ?_⟩; have n0_ := Aside0.mk (below_step (by repeat (first | (with_reducible first | exact HB.out | apply below_alloc | apply pw_below_drewN | apply below_drew1) | exact HB.out)) hb); clear HB; have HB := n0_; clear n0_; (try clear hb); (try clear hb2); (try clear hk); (try clear hi)))
          go_meet
          case rel => exact ⟨_, (decide ((l2.length : Int) > 30)), (by first | rfl | (simp; done) | (simp [*]; done)), H', ⟨by first | omega | exact Nat.le_refl _⟩, ⟨by repeat (first | (with_reducible first | exact HB.out | apply below_alloc | apply pw_below_drewN | apply below_drew1) | exact HB.out)⟩⟩
    · replace c6 := Bool.eq_false_iff.mpr c6
      subst c6
      have H1 : (orthoepylaw21_OrderMerges.j0 k l0 l1 l2 true) = some r := by rw [if_neg (show ¬ (false = true) by decide)] at H; exact H
      clear H
      have H := H1
      clear H1
      have H' := Aside0.mk H
      clear H
      go_wp2_with (first | ((with_reducible refine gate_callee (f := 10) rfl ?_); refine goesL_ (some 12) rfl rfl Try.func10 (by kernel_rfl) rfl #[.slice A0 l0.length c0] rfl (by (try simp only [List.map_toArray, List.map_cons, List.map_nil]); first | done | rfl | (simp only [List.length_drop, List.length_take]; rfl)) ?_; (with_reducible refine (orthoepylaw21_right.calls k _ _ l0 false _ ?side1 ?side2 A5.out).mono ?_); (case side1 => repeat (first | exact (Kd.C_below HR0.out HB.out) | (with_reducible refine Kd.C_alloc ?_ _) | (with_reducible refine Kd.C_drewN ?_ _) | (with_reducible refine Kd.C_drew ?_))); (case side2 => exact HC0.out); rintro e w12 ⟨rfl, hb⟩; refine ⟨_, rfl, ?_⟩; have n0_ := Aside0.mk (below_step (by repeat (first | (with_reducible first | exact HB.out | apply below_alloc | apply pw_below_drewN | apply below_drew1) | exact HB.out)) hb); clear HB; have HB := n0_; clear n0_; (try clear hb); (try clear hb2); (try clear hk); (try clear hi)))
      go_meet
      case rel => exact ⟨_, (true), (by first | rfl | (simp; done) | (simp [*]; done)), H', ⟨by first | omega | exact Nat.le_refl _⟩, ⟨by repeat (first | (with_reducible first | exact HB.out | apply below_alloc | apply pw_below_drewN | apply below_drew1) | exact HB.out)⟩⟩
  case rest =>
    clear HC4
    try clear c1
    try clear c2
    try clear p2
    try clear c6
    try clear c7
    try clear c7b0
    try clear c7b1
    try clear c7b2
    try clear c9
    try clear c9b0
    try clear c9b1
    try clear c10
    obtain ⟨kq, x28_3, rfl, HA, HJ3, HB⟩ := hcut
    cases kq with
    | zero => exact absurd HA.out (by simp [orthoepylaw21_OrderMerges.j0])
    | succ kj3 =>
      have H := HA.out
      clear HA
      simp only [orthoepylaw21_OrderMerges.j0] at H
      by_cases c13 : x28_3 = true
      · subst c13
        have H1 : ((orthoepylaw21_awake.f).bind fun t188 => (some t188)) = some r := by rw [if_pos rfl] at H; exact H
        clear H
        have H := H1
        clear H1
        replace H := Option.bind_eq_some_iff.mp H
        obtain ⟨t188, A140, H⟩ := H
        replace H : (some t188) = some r := H
        have A14 := Aside0.mk A140
        clear A140
        obtain rfl := Option.some.inj H
        go_wp2_with (first | ((with_reducible refine gate_callee (f := 11) rfl ?_); refine goesL_ (some 29) rfl rfl Try.func11 (by kernel_rfl) rfl #[] rfl (by (try simp only [List.map_toArray, List.map_cons, List.map_nil]); first | done | rfl | (simp only [List.length_drop, List.length_take]; rfl)) ?_; (with_reducible refine (orthoepylaw21_awake.calls  t188 _ A14.out).mono ?_); rintro e w15 ⟨rfl, hb⟩; refine ⟨_, rfl, ?_⟩; have n0_ := Aside0.mk (below_step (by repeat (first | (with_reducible first | exact HB.out | apply below_alloc | apply pw_below_drewN | apply below_drew1) | exact HB.out)) hb); clear HB; have HB := n0_; clear n0_; (try clear hb); (try clear hb2); (try clear hk); (try clear hi)))
        go_ret
        exact ⟨by first | rfl | (simp [errW_none, errW_some] <;> rfl) | (simp [*, errW_none, errW_some] <;> rfl), by repeat (first | (with_reducible first | exact HB.out | apply below_alloc | apply pw_below_drewN | apply below_drew1) | exact HB.out)⟩
      · replace c13 := Bool.eq_false_iff.mpr c13
        subst c13
        have H1 : (orthoepylaw21_OrderMerges.l0 kj3 l0 l1 l2 ([] : List Int) 0) = some r := by rw [if_neg (show ¬ (false = true) by decide)] at H; exact H
        clear H
        have H := H1
        clear H1
        have H' := Aside0.mk H
        clear H
        go_wp2
        go_loopg [7, 9] kj3 (fun kq v7 v9 w' => ∃ (x7_2 : List Int) (x9_2 : Int), v9 = .int .i64 x9_2 ∧ Aside0 (orthoepylaw21_OrderMerges.l0 kq l0 l1 l2 x7_2 x9_2 = some r) ∧ Aside0 (kq ≤ kj3) ∧ Aside0 (Kd.R (Kd.int .i64) 3 w' w.heap.size (fun _ => True) v7 x7_2) ∧ Aside0 (Below w.heap.size w w'))
        case atStart => exact ⟨(([] : List Int)), (0), (by first | rfl | (simp; done) | (simp [*]; done)), H', ⟨Nat.le_refl _⟩, ⟨by first | exact Kd.R_nil _ _ _ _ _ | exact Kd.N_nil _ _ _ _ _ | exact Kd.V_nil _ _ _ _ _ | exact Kd.Q_nil _ _ _ _ _ | exact Kd.S_nil _ _ _ _ _⟩, ⟨by repeat (first | (with_reducible first | exact HB.out | apply below_alloc | apply pw_below_drewN | apply below_drew1) | exact HB.out)⟩⟩
        case round =>
          clear H'
          try clear c1
          try clear c2
          try clear p2
          try clear c6
          try clear c7
          try clear c7b0
          try clear c7b1
          try clear c7b2
          try clear c9
          try clear c9b0
          try clear c9b1
          try clear c10
          try clear c11
          try clear c13
          try clear p2
          obtain ⟨x7_2, x9_2, rfl, HA, HK2, HO_7, HB⟩ := hrel
          cases gk with
          | zero => exact absurd HA.out (by simp [orthoepylaw21_OrderMerges.l0])
          | succ k2 =>
            have H := HA.out
            clear HA
            simp only [orthoepylaw21_OrderMerges.l0] at H
            by_cases c16 : x9_2 < (l1.length : Int)
            · rw [if_pos c16] at H
              have c16b0 : decide (x9_2 < (l1.length : Int)) = true := decide_eq_true c16
              clear c16
              by_cases c17 : 0 ≤ x9_2
              · rw [if_pos c17] at H
                have c17b0 : decide (0 ≤ x9_2) = true := decide_eq_true c17
                clear c17
                by_cases c18 : (l0.length : Int) = 0
                · rw [if_pos c18] at H
                  exact absurd H (by simp)
                · rw [if_neg c18] at H
                  have c18b0 : ((l0.length : Int) == 0) = false := beq_eq_false_iff_ne.mpr c18
                  have c18b1 : ((l0.length : Int) != 0) = true := bne_iff_ne.mpr c18
                  have c18b2 : ¬ (l0 = []) := fun h_ => c18 (by rw [h_]; rfl)
                  replace H := Option.bind_eq_some_iff.mp H
                  obtain ⟨t190, A190, H⟩ := H
                  replace H : (orthoepylaw21_OrderMerges.l0 k2 l0 l1 l2 t190 (wrap64 (x9_2 + 1))) = some r := H
                  have A19 := Aside0.mk A190
                  clear A190
                  have H' := Aside0.mk H
                  clear H
                  have p189 : 0 ≤ (x9_2 : Int) := of_decide_eq_true (by first | (with_reducible assumption) | assumption)
                  have q189 : x9_2 < (l1.length : Int) := of_decide_eq_true (by first | (with_reducible assumption) | assumption)
                  obtain ⟨ad189, e189, hx189_0⟩ := Kd.at_int HR1.out x9_2 p189 q189
                  cases e189
                  replace hx189_0 := (HB.out.cell (World.block_lt_of_cell? w _ hx189_0)).trans hx189_0
                  replace p189 := eq_true p189
                  replace q189 := eq_true q189
                  obtain ⟨Ao20, co20, eo20⟩ := Kd.R_slice HO_7.out
                  subst eo20
                  go_wp2_with (first | ((with_reducible refine gate_callee (f := 20) rfl ?_); refine goesL_ (some 46) rfl rfl Try.func20 (by kernel_rfl) rfl #[.slice A0 l0.length c0, .slice Ao20 x7_2.length co20, .int .i64 (Int.tmod (wrap64 (rd l1 x9_2)) (l0.length : Int))] rfl (by (try simp only [List.map_toArray, List.map_cons, List.map_nil]); first | done | rfl | (simp only [List.length_drop, List.length_take]; rfl)) ?_; (with_reducible refine (orthoepylaw21_put.calls k2 _ _ l0 _ _ x7_2 (Int.tmod (wrap64 (rd l1 x9_2)) (l0.length : Int)) t190 _ ?side1 ?side2 ?side3 ?side4 A19.out).mono ?_); (case side1 => repeat (first | exact (Kd.C_below HR0.out HB.out) | (with_reducible refine Kd.C_alloc ?_ _) | (with_reducible refine Kd.C_drewN ?_ _) | (with_reducible refine Kd.C_drew ?_))); (case side2 => exact HC0.out); (case side3 => repeat (first | exact (Kd.R_reads' HO_7.out).2.2 | (with_reducible refine Kd.C_alloc ?_ _) | (with_reducible refine Kd.C_drewN ?_ _) | (with_reducible refine Kd.C_drew ?_))); (case side4 => exact (Kd.R_reads' HO_7.out).2.1); rintro e w21 ⟨v191, rfl, ho0, hb⟩; refine ⟨_, rfl, ?_⟩; have n0_ := Aside0.mk (Kd.R_elder' (by (with_reducible repeat (first | apply Kd.R_alloc | apply Kd.R_drewN | apply Kd.R_drew)); exact HO_7.out) (Kd.R_base ho0) hb); have n1_ := Aside0.mk (Kd.R_lower (Kd.R_new' ho0 (Kd.R_lt (by (with_reducible repeat (first | apply Kd.R_alloc | apply Kd.R_drewN | apply Kd.R_drew)); exact HO_7.out))) (below_size (by repeat (first | (with_reducible first | exact HB.out | apply below_alloc | apply pw_below_drewN | apply below_drew1) | exact HB.out)))); have n2_ := Aside0.mk (below_step (by repeat (first | (with_reducible first | exact HB.out | apply below_alloc | apply pw_below_drewN | apply below_drew1) | exact HB.out)) hb); clear HO_7; clear HB; have HO_7 := n0_; have HO192 := n1_; have HB := n2_; clear n0_ n1_ n2_; (try clear hb); (try clear hb2); (try clear hk); (try clear hi); (try clear ho0)))
                  go_roundg k2
                  case measure => have := HJ3.out; have := HK2.out; omega
                  case rel => exact ⟨(t190), (wrap64 (x9_2 + 1)), (by first | rfl | (simp; done) | (simp [*]; done)), H', ⟨by have := HJ3.out; have := HK2.out; omega⟩, ⟨by (with_reducible repeat (first | apply Kd.R_alloc | apply Kd.R_drewN | apply Kd.R_drew)); exact Kd.R_mono HO192.out (fun _ hk => trivial)⟩, ⟨by repeat (first | (with_reducible first | exact HB.out | apply below_alloc | apply pw_below_drewN | apply below_drew1) | exact HB.out)⟩⟩
              · rw [if_neg c17] at H
                exact absurd H (by simp)
            · rw [if_neg c16] at H
              have c16b0 : decide (x9_2 < (l1.length : Int)) = false := decide_eq_false c16
              clear c16
              have H' := Aside0.mk H
              clear H
              go_wp2
              go_loopg [8, 10] k2 (fun kq v8 v10 w' => ∃ (x8_3 : List Int) (x10_3 : Int), v10 = .int .i64 x10_3 ∧ Aside0 (orthoepylaw21_OrderMerges.l1 kq l0 l2 x7_2 x8_3 x10_3 = some r) ∧ Aside0 (kq ≤ k2) ∧ Aside0 (Kd.R (Kd.int .i64) 3 w' w.heap.size (fun k_ => some k_ ≠ (v8 : Value).ownBlock) u7 x7_2) ∧ Aside0 (Kd.R (Kd.int .i64) 3 w' w.heap.size (fun k_ => some k_ ≠ (u7 : Value).ownBlock) v8 x8_3) ∧ Aside0 (Below w.heap.size w w'))
              case atStart => exact ⟨(([] : List Int)), (0), (by first | rfl | (simp; done) | (simp [*]; done)), H', ⟨Nat.le_refl _⟩, ⟨by (with_reducible repeat (first | apply Kd.R_alloc | apply Kd.R_drewN | apply Kd.R_drew)); exact Kd.R_mono HO_7.out (fun _ hk => (by simp [Value.ownBlock]))⟩, ⟨by first | exact Kd.R_nil _ _ _ _ _ | exact Kd.N_nil _ _ _ _ _ | exact Kd.V_nil _ _ _ _ _ | exact Kd.Q_nil _ _ _ _ _ | exact Kd.S_nil _ _ _ _ _⟩, ⟨by repeat (first | (with_reducible first | exact HB.out | apply below_alloc | apply pw_below_drewN | apply below_drew1) | exact HB.out)⟩⟩
              case round =>
                clear H'
                try clear c1
                try clear p1
                try clear q1
                try clear hx1
                try clear c2
                try clear p2
                try clear c6
                try clear p6
                try clear c7
                try clear c7b0
                try clear c7b1
                try clear c7b2
                try clear c9
                try clear c9b0
                try clear c9b1
                try clear c10
                try clear c11
                try clear c13
                try clear c16
                try clear c16b0
                try clear c17
                try clear c17b0
                try clear c18
                try clear c18b0
                try clear c18b1
                try clear c18b2
                try clear p18
                try clear q18
                try clear hx18
                try clear c20
                try clear hx189_0
                try clear p189
                try clear p2
                try clear q189
                obtain ⟨x8_3, x10_3, rfl, HA, HK3, HO_7, HO_8, HB⟩ := hrel
                cases gk with
                | zero => exact absurd HA.out (by simp [orthoepylaw21_OrderMerges.l1])
                | succ k3 =>
                  have H := HA.out
                  clear HA
                  simp only [orthoepylaw21_OrderMerges.l1] at H
                  by_cases c22 : x10_3 < (l2.length : Int)
                  · rw [if_pos c22] at H
                    have c22b0 : decide (x10_3 < (l2.length : Int)) = true := decide_eq_true c22
                    clear c22
                    by_cases c23 : 0 ≤ x10_3
                    · rw [if_pos c23] at H
                      have c23b0 : decide (0 ≤ x10_3) = true := decide_eq_true c23
                      clear c23
                      by_cases c24 : (l0.length : Int) = 0
                      · rw [if_pos c24] at H
                        exact absurd H (by simp)
                      · rw [if_neg c24] at H
                        have c24b0 : ((l0.length : Int) == 0) = false := beq_eq_false_iff_ne.mpr c24
                        have c24b1 : ((l0.length : Int) != 0) = true := bne_iff_ne.mpr c24
                        have c24b2 : ¬ (l0 = []) := fun h_ => c24 (by rw [h_]; rfl)
                        replace H := Option.bind_eq_some_iff.mp H
                        obtain ⟨t194, A250, H⟩ := H
                        replace H : (orthoepylaw21_OrderMerges.l1 k3 l0 l2 x7_2 t194 (wrap64 (x10_3 + 1))) = some r := H
                        have A25 := Aside0.mk A250
                        clear A250
                        have H' := Aside0.mk H
                        clear H
                        have p193 : 0 ≤ (x10_3 : Int) := of_decide_eq_true (by first | (with_reducible assumption) | assumption)
                        have q193 : x10_3 < (l2.length : Int) := of_decide_eq_true (by first | (with_reducible assumption) | assumption)
                        obtain ⟨ad193, e193, hx193_0⟩ := Kd.at_int HR2.out x10_3 p193 q193
                        cases e193
                        replace hx193_0 := (HB.out.cell (World.block_lt_of_cell? w _ hx193_0)).trans hx193_0
                        replace p193 := eq_true p193
                        replace q193 := eq_true q193
                        obtain ⟨Ao26, co26, eo26⟩ := Kd.R_slice HO_8.out
                        subst eo26
                        go_wp2_with (first | ((with_reducible refine gate_callee (f := 20) rfl ?_); refine goesL_ (some 63) rfl rfl Try.func20 (by kernel_rfl) rfl #[.slice A0 l0.length c0, .slice Ao26 x8_3.length co26, .int .i64 (Int.tmod (wrap64 (rd l2 x10_3)) (l0.length : Int))] rfl (by (try simp only [List.map_toArray, List.map_cons, List.map_nil]); first | done | rfl | (simp only [List.length_drop, List.length_take]; rfl)) ?_; (with_reducible refine (orthoepylaw21_put.calls k3 _ _ l0 _ _ x8_3 (Int.tmod (wrap64 (rd l2 x10_3)) (l0.length : Int)) t194 _ ?side1 ?side2 ?side3 ?side4 A25.out).mono ?_); (case side1 => repeat (first | exact (Kd.C_below HR0.out HB.out) | (with_reducible refine Kd.C_alloc ?_ _) | (with_reducible refine Kd.C_drewN ?_ _) | (with_reducible refine Kd.C_drew ?_))); (case side2 => exact HC0.out); (case side3 => repeat (first | exact (Kd.R_reads' HO_8.out).2.2 | (with_reducible refine Kd.C_alloc ?_ _) | (with_reducible refine Kd.C_drewN ?_ _) | (with_reducible refine Kd.C_drew ?_))); (case side4 => exact (Kd.R_reads' HO_8.out).2.1); rintro e w27 ⟨v195, rfl, ho0, hb⟩; refine ⟨_, rfl, ?_⟩; have n0_ := Aside0.mk (Kd.R_elder' (by (with_reducible repeat (first | apply Kd.R_alloc | apply Kd.R_drewN | apply Kd.R_drew)); exact HO_7.out) (Kd.R_base ho0) hb); have n1_ := Aside0.mk (Kd.R_elder' (by (with_reducible repeat (first | apply Kd.R_alloc | apply Kd.R_drewN | apply Kd.R_drew)); exact HO_8.out) (Kd.R_base ho0) hb); have n2_ := Aside0.mk (Kd.R_lower (Kd.R_new' (Kd.R_new' ho0 (Kd.R_lt (by (with_reducible repeat (first | apply Kd.R_alloc | apply Kd.R_drewN | apply Kd.R_drew)); exact HO_7.out))) (Kd.R_lt (by (with_reducible repeat (first | apply Kd.R_alloc | apply Kd.R_drewN | apply Kd.R_drew)); exact HO_8.out))) (below_size (by repeat (first | (with_reducible first | exact HB.out | apply below_alloc | apply pw_below_drewN | apply below_drew1) | exact HB.out)))); have n3_ := Aside0.mk (below_step (by repeat (first | (with_reducible first | exact HB.out | apply below_alloc | apply pw_below_drewN | apply below_drew1) | exact HB.out)) hb); clear HO_7; clear HO_8; clear HB; have HO_7 := n0_; have HO_8 := n1_; have HO196 := n2_; have HB := n3_; clear n0_ n1_ n2_ n3_; (try clear hb); (try clear hb2); (try clear hk); (try clear hi); (try clear ho0)))
                        go_roundg k3
                        case measure => have := HJ3.out; have := HK2.out; have := HK3.out; omega
                        case rel => exact ⟨(t194), (wrap64 (x10_3 + 1)), (by first | rfl | (simp; done) | (simp [*]; done)), H', ⟨by have := HJ3.out; have := HK2.out; have := HK3.out; omega⟩, ⟨by (with_reducible repeat (first | apply Kd.R_alloc | apply Kd.R_drewN | apply Kd.R_drew)); exact Kd.R_mono HO_7.out (fun _ hk => hk.2)⟩, ⟨by (with_reducible repeat (first | apply Kd.R_alloc | apply Kd.R_drewN | apply Kd.R_drew)); exact Kd.R_mono HO196.out (fun _ hk => hk.1.2)⟩, ⟨by repeat (first | (with_reducible first | exact HB.out | apply below_alloc | apply pw_below_drewN | apply below_drew1) | exact HB.out)⟩⟩
                    · rw [if_neg c23] at H
                      exact absurd H (by simp)
                  · rw [if_neg c22] at H
                    have c22b0 : decide (x10_3 < (l2.length : Int)) = false := decide_eq_false c22
                    clear c22
                    replace H := Option.bind_eq_some_iff.mp H
                    obtain ⟨t197, A280, H⟩ := H
                    replace H : ((orthoepyref21_Merge.f k3 l0 x7_2 x8_3).bind fun t200 => ((orthoepylaw21_same.f t197 t200).bind fun t203 => (if t203 = true then ((orthoepylaw21_awake.f).bind fun t204 => (some t204)) else (some false)))) = some r := H
                    have A28 := Aside0.mk A280
                    clear A280
                    replace H := Option.bind_eq_some_iff.mp H
                    obtain ⟨t200, A290, H⟩ := H
                    replace H : ((orthoepylaw21_same.f t197 t200).bind fun t203 => (if t203 = true then ((orthoepylaw21_awake.f).bind fun t204 => (some t204)) else (some false))) = some r := H
                    have A29 := Aside0.mk A290
                    clear A290
                    replace H := Option.bind_eq_some_iff.mp H
                    obtain ⟨t203, A300, H⟩ := H
                    replace H : (if t203 = true then ((orthoepylaw21_awake.f).bind fun t204 => (some t204)) else (some false)) = some r := H
                    have A30 := Aside0.mk A300
                    clear A300
                    by_cases c31 : t203 = true
                    · subst c31
                      have H1 : ((orthoepylaw21_awake.f).bind fun t204 => (some t204)) = some r := by rw [if_pos rfl] at H; exact H
                      clear H
                      have H := H1
                      clear H1
                      replace H := Option.bind_eq_some_iff.mp H
                      obtain ⟨t204, A320, H⟩ := H
                      replace H : (some t204) = some r := H
                      have A32 := Aside0.mk A320
                      clear A320
                      obtain rfl := Option.some.inj H
                      obtain ⟨Ao33, co33, eo33⟩ := Kd.R_slice HO_7.out
                      subst eo33
                      obtain ⟨Ao34, co34, eo34⟩ := Kd.R_slice HO_8.out
                      subst eo34
                      go_wp2_with (first | ((with_reducible refine gate_callee (f := 18) rfl ?_); refine goesL_ (some 67) rfl rfl Try.func18 (by kernel_rfl) rfl #[.slice A0 l0.length c0, .slice Ao33 x7_2.length co33, .slice Ao34 x8_3.length co34] rfl (by (try simp only [List.map_toArray, List.map_cons, List.map_nil]); first | done | rfl | (simp only [List.length_drop, List.length_take]; rfl)) ?_; (with_reducible refine (order_Merge.calls _ _ l0 _ _ x7_2 _ _ x8_3 t197 _ ?side1 ?side2 ?side3 ?side4 ?side5 ?side6 A28.out).mono ?_); (case side1 => repeat (first | exact (Kd.C_below HR0.out HB.out) | (with_reducible refine Kd.C_alloc ?_ _) | (with_reducible refine Kd.C_drewN ?_ _) | (with_reducible refine Kd.C_drew ?_))); (case side2 => exact HC0.out); (case side3 => repeat (first | exact (Kd.R_reads' HO_7.out).2.2 | (with_reducible refine Kd.C_alloc ?_ _) | (with_reducible refine Kd.C_drewN ?_ _) | (with_reducible refine Kd.C_drew ?_))); (case side4 => exact (Kd.R_reads' HO_7.out).2.1); (case side5 => repeat (first | exact (Kd.R_reads' HO_8.out).2.2 | (with_reducible refine Kd.C_alloc ?_ _) | (with_reducible refine Kd.C_drewN ?_ _) | (with_reducible refine Kd.C_drew ?_))); (case side6 => exact (Kd.R_reads' HO_8.out).2.1); rintro e w35 ⟨v198, rfl, ho0, hb⟩; refine ⟨_, rfl, ?_⟩; have n0_ := Aside0.mk (Kd.R_elder' (by (with_reducible repeat (first | apply Kd.R_alloc | apply Kd.R_drewN | apply Kd.R_drew)); exact HO_7.out) (Kd.R_base ho0) hb); have n1_ := Aside0.mk (Kd.R_elder' (by (with_reducible repeat (first | apply Kd.R_alloc | apply Kd.R_drewN | apply Kd.R_drew)); exact HO_8.out) (Kd.R_base ho0) hb); have n2_ := Aside0.mk (Kd.R_lower (Kd.R_new' (Kd.R_new' ho0 (Kd.R_lt (by (with_reducible repeat (first | apply Kd.R_alloc | apply Kd.R_drewN | apply Kd.R_drew)); exact HO_7.out))) (Kd.R_lt (by (with_reducible repeat (first | apply Kd.R_alloc | apply Kd.R_drewN | apply Kd.R_drew)); exact HO_8.out))) (below_size (by repeat (first | (with_reducible first | exact HB.out | apply below_alloc | apply pw_below_drewN | apply below_drew1) | exact HB.out)))); have n3_ := Aside0.mk (below_step (by repeat (first | (with_reducible first | exact HB.out | apply below_alloc | apply pw_below_drewN | apply below_drew1) | exact HB.out)) hb); clear HO_7; clear HO_8; clear HB; have HO_7 := n0_; have HO_8 := n1_; have HO199 := n2_; have HB := n3_; clear n0_ n1_ n2_ n3_; (try clear hb); (try clear hb2); (try clear hk); (try clear hi); (try clear ho0)) | ((with_reducible refine gate_callee (f := 19) rfl ?_); refine goesL_ (some 71) rfl rfl Try.func19 (by kernel_rfl) rfl #[.slice A0 l0.length c0, .slice Ao33 x7_2.length co33, .slice Ao34 x8_3.length co34] rfl (by (try simp only [List.map_toArray, List.map_cons, List.map_nil]); first | done | rfl | (simp only [List.length_drop, List.length_take]; rfl)) ?_; (with_reducible refine (orthoepyref21_Merge.calls k3 _ _ l0 _ _ x7_2 _ _ x8_3 t200 _ ?side1 ?side2 ?side3 ?side4 ?side5 ?side6 A29.out).mono ?_); (case side1 => repeat (first | exact (Kd.C_below HR0.out HB.out) | (with_reducible refine Kd.C_alloc ?_ _) | (with_reducible refine Kd.C_drewN ?_ _) | (with_reducible refine Kd.C_drew ?_))); (case side2 => exact HC0.out); (case side3 => repeat (first | exact (Kd.R_reads' HO_7.out).2.2 | (with_reducible refine Kd.C_alloc ?_ _) | (with_reducible refine Kd.C_drewN ?_ _) | (with_reducible refine Kd.C_drew ?_))); (case side4 => exact (Kd.R_reads' HO_7.out).2.1); (case side5 => repeat (first | exact (Kd.R_reads' HO_8.out).2.2 | (with_reducible refine Kd.C_alloc ?_ _) | (with_reducible refine Kd.C_drewN ?_ _) | (with_reducible refine Kd.C_drew ?_))); (case side6 => exact (Kd.R_reads' HO_8.out).2.1); rintro e w36 ⟨v201, rfl, ho0, hb⟩; refine ⟨_, rfl, ?_⟩; have n0_ := Aside0.mk (Kd.R_elder' (by (with_reducible repeat (first | apply Kd.R_alloc | apply Kd.R_drewN | apply Kd.R_drew)); exact HO_7.out) (Kd.R_base ho0) hb); have n1_ := Aside0.mk (Kd.R_elder' (by (with_reducible repeat (first | apply Kd.R_alloc | apply Kd.R_drewN | apply Kd.R_drew)); exact HO_8.out) (Kd.R_base ho0) hb); have n2_ := Aside0.mk (Kd.R_elder' (by (with_reducible repeat (first | apply Kd.R_alloc | apply Kd.R_drewN | apply Kd.R_drew)); exact HO199.out) (Kd.R_base ho0) hb); have n3_ := Aside0.mk (Kd.R_lower (Kd.R_new' (Kd.R_new' (Kd.R_new' ho0 (Kd.R_lt (by (with_reducible repeat (first | apply Kd.R_alloc | apply Kd.R_drewN | apply Kd.R_drew)); exact HO_7.out))) (Kd.R_lt (by (with_reducible repeat (first | apply Kd.R_alloc | apply Kd.R_drewN | apply Kd.R_drew)); exact HO_8.out))) (Kd.R_lt (by (with_reducible repeat (first | apply Kd.R_alloc | apply Kd.R_drewN | apply Kd.R_drew)); exact HO199.out))) (below_size (by repeat (first | (with_reducible first | exact HB.out | apply below_alloc | apply pw_below_drewN | apply below_drew1) | exact HB.out)))); have n4_ := Aside0.mk (below_step (by repeat (first | (with_reducible first | exact HB.out | apply below_alloc | apply pw_below_drewN | apply below_drew1) | exact HB.out)) hb); clear HO_7; clear HO_8; clear HO199; clear HB; have HO_7 := n0_; have HO_8 := n1_; have HO199 := n2_; have HO202 := n3_; have HB := n4_; clear n0_ n1_ n2_ n3_ n4_; (try clear hb); (try clear hb2); (try clear hk); (try clear hi); (try clear ho0); obtain ⟨Ao37, co37, eo37⟩ := Kd.R_slice HO199.out; subst eo37; obtain ⟨Ao38, co38, eo38⟩ := Kd.R_slice HO202.out; subst eo38) | ((with_reducible refine gate_callee (f := 14) rfl ?_); refine goesL_ (some 72) rfl rfl Try.func14 (by kernel_rfl) rfl #[.slice Ao37 t197.length co37, .slice Ao38 t200.length co38] rfl (by (try simp only [List.map_toArray, List.map_cons, List.map_nil]); first | done | rfl | (simp only [List.length_drop, List.length_take]; rfl)) ?_; (with_reducible refine (orthoepylaw21_same.calls _ _ t197 _ _ t200 true _ ?side1 ?side2 ?side3 ?side4 A30.out).mono ?_); (case side1 => repeat (first | exact (Kd.R_reads' HO199.out).2.2 | (with_reducible refine Kd.C_alloc ?_ _) | (with_reducible refine Kd.C_drewN ?_ _) | (with_reducible refine Kd.C_drew ?_))); (case side2 => exact (Kd.R_reads' HO199.out).2.1); (case side3 => repeat (first | exact (Kd.R_reads' HO202.out).2.2 | (with_reducible refine Kd.C_alloc ?_ _) | (with_reducible refine Kd.C_drewN ?_ _) | (with_reducible refine Kd.C_drew ?_))); (case side4 => exact (Kd.R_reads' HO202.out).2.1); rintro e w' ⟨rfl, ⟨nd, rfl⟩⟩; refine ⟨_, rfl, ?_⟩) | (go_at_call 11; (with_reducible refine (orthoepylaw21_awake.calls  t204 _ A32.out).mono ?_); rintro e w39 ⟨rfl, hb⟩; have n0_ := Aside0.mk (Kd.R_below (by (with_reducible repeat (first | apply Kd.R_alloc | apply Kd.R_drewN | apply Kd.R_drew)); exact HO_7.out) hb); have n1_ := Aside0.mk (Kd.R_below (by (with_reducible repeat (first | apply Kd.R_alloc | apply Kd.R_drewN | apply Kd.R_drew)); exact HO_8.out) hb); have n2_ := Aside0.mk (Kd.R_below (by (with_reducible repeat (first | apply Kd.R_alloc | apply Kd.R_drewN | apply Kd.R_drew)); exact HO199.out) hb); have n3_ := Aside0.mk (Kd.R_below (by (with_reducible repeat (first | apply Kd.R_alloc | apply Kd.R_drewN | apply Kd.R_drew)); exact HO202.out) hb); have n4_ := Aside0.mk (below_step (by repeat (first | (with_reducible first | exact HB.out | apply below_alloc | apply pw_below_drewN | apply below_drew1) | exact HB.out)) hb); clear HO_7; clear HO_8; clear HO199; clear HO202; clear HB; have HO_7 := n0_; have HO_8 := n1_; have HO199 := n2_; have HO202 := n3_; have HB := n4_; clear n0_ n1_ n2_ n3_ n4_; (try clear hb); (try clear hb2); (try clear hk); (try clear hi)))
                      go_ret
                      exact ⟨by first | rfl | (simp [errW_none, errW_some] <;> rfl) | (simp [*, errW_none, errW_some] <;> rfl), by repeat (first | (with_reducible first | exact HB.out | apply below_alloc | apply pw_below_drewN | apply below_drew1) | exact HB.out)⟩
                    · replace c31 := Bool.eq_false_iff.mpr c31
                      subst c31
                      have H1 : (some false) = some r := by rw [if_neg (show ¬ (false = true) by decide)] at H; exact H
                      clear H
                      have H := H1
                      clear H1
                      obtain rfl := Option.some.inj H
                      exact absurd hT_.out (by decide)

/-! ### orthoepylaw00_Place: function 17 -/
def orthoepylaw00_Place.f (a0 : Int) (a1 : Int) : Option (Int) := Go.Proofs.Ytajinnlaajhoeaa.PAll.orthoepylaw00_Place.f a0 a1
theorem orthoepylaw00_Place.calls (a0 : Int) (a1 : Int) (r : Int) (w : World) (h : orthoepylaw00_Place.f a0 a1 = some r) :
    Calls Try.prog 17 #[.int .i64 a0, .int .i64 a1] w fun e w' => e = .returned (.int .i64 r) ∧ Drawn0 w w' := Go.Proofs.Ytajinnlaajhoeaa.PAll.orthoepylaw00_Place.calls a0 a1 r w h

end Go.Proofs.Ytajinnlaajhoeaa.PThr
