-- The machine's side of laws, written by a program of this session (wip/gen/pp.sh). Lean checks it.
import Derived.Test.YtajinnlaajhoeaaPScax0
import Derived.Test.YtajinnlaajhoeaaPScax1
namespace Go.Proofs.Ytajinnlaajhoeaa.PSca
open Go.RowKit Go.Proofs.YtajinnlaajhoeaaW.PrintWords Go.Proofs.YtajinnlaajhoeaaW.PrintLast
set_option linter.unusedVariables false
set_option linter.unusedSimpArgs false

/-! ### orthoepylaw21_OrderScalars: function 9 -/
mutual
def orthoepylaw21_OrderScalars.j0 : Nat → ByteArray → ByteArray → ByteArray → List Int → List Int → Bool → Option (Bool)
  | 0, _, _, _, _, _, _ => none
  | k + 1, x7, x8, x9, x10, x11, x32 => if x32 = true then (if x7.size + x8.size ≤ 9223372036854775807 then (if x7.size + x9.size ≤ 9223372036854775807 then ((order_Less.f (x7 ++ x8) (x7 ++ x9)).bind fun t140 => (if (t140 == (decide ((x10.length : Int) < (x11.length : Int)))) = true then ((orthoepylaw21_awake.f).bind fun t141 => (some t141)) else (some false))) else (none)) else (none)) else (if 0 < (x10.length : Int) then (if 0 < (x11.length : Int) then (if (rd x10 0) ≥ 65536 then (if (rd x11 0) ≥ 57344 then (orthoepylaw21_OrderScalars.j1 k x7 x8 x9 (rd x10 0) (rd x11 0) (decide ((rd x10 0) < (rd x11 0))) (decide ((rd x11 0) < 65536))) else (orthoepylaw21_OrderScalars.j1 k x7 x8 x9 (rd x10 0) (rd x11 0) (decide ((rd x10 0) < (rd x11 0))) false)) else (orthoepylaw21_OrderScalars.j1 k x7 x8 x9 (rd x10 0) (rd x11 0) (decide ((rd x10 0) < (rd x11 0))) false)) else (none)) else (none))
def orthoepylaw21_OrderScalars.j1 : Nat → ByteArray → ByteArray → ByteArray → Int → Int → Bool → Bool → Option (Bool)
  | 0, _, _, _, _, _, _, _ => none
  | k + 1, x7, x8, x9, x12, x13, x14, x67 => if x67 = true then (orthoepylaw21_OrderScalars.j2 k x7 x8 x9 x12 x13 true) else (orthoepylaw21_OrderScalars.j2 k x7 x8 x9 x12 x13 x14)
def orthoepylaw21_OrderScalars.j2 : Nat → ByteArray → ByteArray → ByteArray → Int → Int → Bool → Option (Bool)
  | 0, _, _, _, _, _, _ => none
  | k + 1, x7, x8, x9, x12, x13, x14 => if x13 ≥ 65536 then (if x12 ≥ 57344 then (orthoepylaw21_OrderScalars.j3 k x7 x8 x9 x12 x13 x14 (decide (x12 < 65536))) else (orthoepylaw21_OrderScalars.j3 k x7 x8 x9 x12 x13 x14 false)) else (orthoepylaw21_OrderScalars.j3 k x7 x8 x9 x12 x13 x14 false)
def orthoepylaw21_OrderScalars.j3 : Nat → ByteArray → ByteArray → ByteArray → Int → Int → Bool → Bool → Option (Bool)
  | 0, _, _, _, _, _, _, _ => none
  | k + 1, x7, x8, x9, x12, x13, x14, x77 => if x77 = true then (if x12 = x13 then ((orthoepylaw21_awake.f).bind fun t144 => (some t144)) else (if x7.size + x8.size ≤ 9223372036854775807 then (if x7.size + x9.size ≤ 9223372036854775807 then ((order_Less.f (x7 ++ x8) (x7 ++ x9)).bind fun t145 => (if (t145 == false) = true then ((orthoepylaw21_awake.f).bind fun t146 => (some t146)) else (some false))) else (none)) else (none))) else (if x12 = x13 then ((orthoepylaw21_awake.f).bind fun t147 => (some t147)) else (if x7.size + x8.size ≤ 9223372036854775807 then (if x7.size + x9.size ≤ 9223372036854775807 then ((order_Less.f (x7 ++ x8) (x7 ++ x9)).bind fun t148 => (if (t148 == x14) = true then ((orthoepylaw21_awake.f).bind fun t149 => (some t149)) else (some false))) else (none)) else (none)))
end
def orthoepylaw21_OrderScalars.f (k : Nat) (l0 : List Int) (l1 : List Int) (l2 : List Int) : Option (Bool) := (orthoepylaw00_Str.f k l0).bind fun t131 => ((orthoepylaw00_Str.f k l1).bind fun t132 => ((orthoepylaw00_Str.f k l2).bind fun t133 => ((orthoepyref02_Of.f t132).bind fun t134 => ((orthoepyref02_Of.f t133).bind fun t137 => (if (t134.length : Int) = 0 then (orthoepylaw21_OrderScalars.j0 k t131 t132 t133 t134 t137 true) else (orthoepylaw21_OrderScalars.j0 k t131 t132 t133 t134 t137 ((t137.length : Int) == 0)))))))
theorem orthoepylaw21_OrderScalars.mono_l : ∀ k, (∀ y0 y1 y2 y3 y4 y5, LeO (orthoepylaw21_OrderScalars.j0 k y0 y1 y2 y3 y4 y5) (orthoepylaw21_OrderScalars.j0 (k + 1) y0 y1 y2 y3 y4 y5)) ∧ (∀ y0 y1 y2 y3 y4 y5 y6, LeO (orthoepylaw21_OrderScalars.j1 k y0 y1 y2 y3 y4 y5 y6) (orthoepylaw21_OrderScalars.j1 (k + 1) y0 y1 y2 y3 y4 y5 y6)) ∧ (∀ y0 y1 y2 y3 y4 y5, LeO (orthoepylaw21_OrderScalars.j2 k y0 y1 y2 y3 y4 y5) (orthoepylaw21_OrderScalars.j2 (k + 1) y0 y1 y2 y3 y4 y5)) ∧ (∀ y0 y1 y2 y3 y4 y5 y6, LeO (orthoepylaw21_OrderScalars.j3 k y0 y1 y2 y3 y4 y5 y6) (orthoepylaw21_OrderScalars.j3 (k + 1) y0 y1 y2 y3 y4 y5 y6))
  | 0 => ⟨fun _ _ _ _ _ _ r h => by simp [orthoepylaw21_OrderScalars.j0] at h, fun _ _ _ _ _ _ _ r h => by simp [orthoepylaw21_OrderScalars.j1] at h, fun _ _ _ _ _ _ r h => by simp [orthoepylaw21_OrderScalars.j2] at h, fun _ _ _ _ _ _ _ r h => by simp [orthoepylaw21_OrderScalars.j3] at h⟩
  | k + 1 => by
    obtain ⟨ih0, ih1, ih2, ih3⟩ := orthoepylaw21_OrderScalars.mono_l k
    refine ⟨?_, ?_, ?_, ?_⟩
    · intro y0 y1 y2 y3 y4 y5
      unfold orthoepylaw21_OrderScalars.j0
      repeat' first
      | (with_reducible exact ih0 _ _ _ _ _ _)
      | (with_reducible exact ih1 _ _ _ _ _ _ _)
      | (with_reducible exact ih2 _ _ _ _ _ _)
      | (with_reducible exact ih3 _ _ _ _ _ _ _)
      | (with_reducible exact orthoepylaw00_Str.mono _ _)
      | (with_reducible exact LeO.refl _)
      | (with_reducible exact LeO.none _)
      | (with_reducible refine LeO.ite ?_ ?_)
      | (with_reducible refine LeO.bind ?_ (fun _ => ?_))
      | exact ih0 _ _ _ _ _ _
      | exact ih1 _ _ _ _ _ _ _
      | exact ih2 _ _ _ _ _ _
      | exact ih3 _ _ _ _ _ _ _
      | exact orthoepylaw00_Str.mono _ _
      | exact LeO.none _
      | refine LeO.ite ?_ ?_
      | refine LeO.bind ?_ (fun _ => ?_)
    · intro y0 y1 y2 y3 y4 y5 y6
      unfold orthoepylaw21_OrderScalars.j1
      repeat' first
      | (with_reducible exact ih0 _ _ _ _ _ _)
      | (with_reducible exact ih1 _ _ _ _ _ _ _)
      | (with_reducible exact ih2 _ _ _ _ _ _)
      | (with_reducible exact ih3 _ _ _ _ _ _ _)
      | (with_reducible exact orthoepylaw00_Str.mono _ _)
      | (with_reducible exact LeO.refl _)
      | (with_reducible exact LeO.none _)
      | (with_reducible refine LeO.ite ?_ ?_)
      | (with_reducible refine LeO.bind ?_ (fun _ => ?_))
      | exact ih0 _ _ _ _ _ _
      | exact ih1 _ _ _ _ _ _ _
      | exact ih2 _ _ _ _ _ _
      | exact ih3 _ _ _ _ _ _ _
      | exact orthoepylaw00_Str.mono _ _
      | exact LeO.none _
      | refine LeO.ite ?_ ?_
      | refine LeO.bind ?_ (fun _ => ?_)
    · intro y0 y1 y2 y3 y4 y5
      unfold orthoepylaw21_OrderScalars.j2
      repeat' first
      | (with_reducible exact ih0 _ _ _ _ _ _)
      | (with_reducible exact ih1 _ _ _ _ _ _ _)
      | (with_reducible exact ih2 _ _ _ _ _ _)
      | (with_reducible exact ih3 _ _ _ _ _ _ _)
      | (with_reducible exact orthoepylaw00_Str.mono _ _)
      | (with_reducible exact LeO.refl _)
      | (with_reducible exact LeO.none _)
      | (with_reducible refine LeO.ite ?_ ?_)
      | (with_reducible refine LeO.bind ?_ (fun _ => ?_))
      | exact ih0 _ _ _ _ _ _
      | exact ih1 _ _ _ _ _ _ _
      | exact ih2 _ _ _ _ _ _
      | exact ih3 _ _ _ _ _ _ _
      | exact orthoepylaw00_Str.mono _ _
      | exact LeO.none _
      | refine LeO.ite ?_ ?_
      | refine LeO.bind ?_ (fun _ => ?_)
    · intro y0 y1 y2 y3 y4 y5 y6
      unfold orthoepylaw21_OrderScalars.j3
      repeat' first
      | (with_reducible exact ih0 _ _ _ _ _ _)
      | (with_reducible exact ih1 _ _ _ _ _ _ _)
      | (with_reducible exact ih2 _ _ _ _ _ _)
      | (with_reducible exact ih3 _ _ _ _ _ _ _)
      | (with_reducible exact orthoepylaw00_Str.mono _ _)
      | (with_reducible exact LeO.refl _)
      | (with_reducible exact LeO.none _)
      | (with_reducible refine LeO.ite ?_ ?_)
      | (with_reducible refine LeO.bind ?_ (fun _ => ?_))
      | exact ih0 _ _ _ _ _ _
      | exact ih1 _ _ _ _ _ _ _
      | exact ih2 _ _ _ _ _ _
      | exact ih3 _ _ _ _ _ _ _
      | exact orthoepylaw00_Str.mono _ _
      | exact LeO.none _
      | refine LeO.ite ?_ ?_
      | refine LeO.bind ?_ (fun _ => ?_)
theorem orthoepylaw21_OrderScalars.mono : ∀ a0 a1 a2 k, LeO (orthoepylaw21_OrderScalars.f k a0 a1 a2) (orthoepylaw21_OrderScalars.f (k + 1) a0 a1 a2) := by
  intro a0 a1 a2 k
  obtain ⟨ih0, ih1, ih2, ih3⟩ := orthoepylaw21_OrderScalars.mono_l k
  unfold orthoepylaw21_OrderScalars.f
  repeat' first
      | (with_reducible exact ih0 _ _ _ _ _ _)
      | (with_reducible exact ih1 _ _ _ _ _ _ _)
      | (with_reducible exact ih2 _ _ _ _ _ _)
      | (with_reducible exact ih3 _ _ _ _ _ _ _)
      | (with_reducible exact orthoepylaw00_Str.mono _ _)
      | (with_reducible exact LeO.refl _)
      | (with_reducible exact LeO.none _)
      | (with_reducible refine LeO.ite ?_ ?_)
      | (with_reducible refine LeO.bind ?_ (fun _ => ?_))
      | exact ih0 _ _ _ _ _ _
      | exact ih1 _ _ _ _ _ _ _
      | exact ih2 _ _ _ _ _ _
      | exact ih3 _ _ _ _ _ _ _
      | exact orthoepylaw00_Str.mono _ _
      | exact LeO.none _
      | refine LeO.ite ?_ ?_
      | refine LeO.bind ?_ (fun _ => ?_)
set_option maxHeartbeats 8000000 in
set_option maxRecDepth 100000 in
theorem orthoepylaw21_OrderScalars.calls (k : Nat) (A0 : Option Addr) (c0 : Nat) (l0 : List Int) (A1 : Option Addr) (c1 : Nat) (l1 : List Int) (A2 : Option Addr) (c2 : Nat) (l2 : List Int) (r : Bool) (w : World) (hr0 : Kd.C (Kd.int .i64) w A0 l0.length l0) (hc0 : l0.length ≤ c0) (hr1 : Kd.C (Kd.int .i64) w A1 l1.length l1) (hc1 : l1.length ≤ c1) (hr2 : Kd.C (Kd.int .i64) w A2 l2.length l2) (hc2 : l2.length ≤ c2) (h : orthoepylaw21_OrderScalars.f k l0 l1 l2 = some r) (hT_ : Aside0 (r = true)) :
    Calls Try.prog 9 #[.slice A0 l0.length c0, .slice A1 l1.length c1, .slice A2 l2.length c2] w fun e w' => e = .returned (.bool r) ∧ Below w.heap.size w w' := by
  have HR0 := Aside0.mk hr0
  have HC0 := Aside0.mk hc0
  clear hr0 hc0
  have HR1 := Aside0.mk hr1
  have HC1 := Aside0.mk hc1
  clear hr1 hc1
  have HR2 := Aside0.mk hr2
  have HC2 := Aside0.mk hc2
  clear hr2 hc2
  have HB := Aside0.mk (Below.refl w.heap.size w)
  have H : ((orthoepylaw00_Str.f k l0).bind fun t131 => ((orthoepylaw00_Str.f k l1).bind fun t132 => ((orthoepylaw00_Str.f k l2).bind fun t133 => ((orthoepyref02_Of.f t132).bind fun t134 => ((orthoepyref02_Of.f t133).bind fun t137 => (if (t134.length : Int) = 0 then (orthoepylaw21_OrderScalars.j0 k t131 t132 t133 t134 t137 true) else (orthoepylaw21_OrderScalars.j0 k t131 t132 t133 t134 t137 ((t137.length : Int) == 0)))))))) = some r := h
  clear h
  replace H := Option.bind_eq_some_iff.mp H
  obtain ⟨t131, A40, H⟩ := H
  replace H : ((orthoepylaw00_Str.f k l1).bind fun t132 => ((orthoepylaw00_Str.f k l2).bind fun t133 => ((orthoepyref02_Of.f t132).bind fun t134 => ((orthoepyref02_Of.f t133).bind fun t137 => (if (t134.length : Int) = 0 then (orthoepylaw21_OrderScalars.j0 k t131 t132 t133 t134 t137 true) else (orthoepylaw21_OrderScalars.j0 k t131 t132 t133 t134 t137 ((t137.length : Int) == 0))))))) = some r := H
  have A4 := Aside0.mk A40
  clear A40
  replace H := Option.bind_eq_some_iff.mp H
  obtain ⟨t132, A50, H⟩ := H
  replace H : ((orthoepylaw00_Str.f k l2).bind fun t133 => ((orthoepyref02_Of.f t132).bind fun t134 => ((orthoepyref02_Of.f t133).bind fun t137 => (if (t134.length : Int) = 0 then (orthoepylaw21_OrderScalars.j0 k t131 t132 t133 t134 t137 true) else (orthoepylaw21_OrderScalars.j0 k t131 t132 t133 t134 t137 ((t137.length : Int) == 0)))))) = some r := H
  have A5 := Aside0.mk A50
  clear A50
  replace H := Option.bind_eq_some_iff.mp H
  obtain ⟨t133, A60, H⟩ := H
  replace H : ((orthoepyref02_Of.f t132).bind fun t134 => ((orthoepyref02_Of.f t133).bind fun t137 => (if (t134.length : Int) = 0 then (orthoepylaw21_OrderScalars.j0 k t131 t132 t133 t134 t137 true) else (orthoepylaw21_OrderScalars.j0 k t131 t132 t133 t134 t137 ((t137.length : Int) == 0))))) = some r := H
  have A6 := Aside0.mk A60
  clear A60
  replace H := Option.bind_eq_some_iff.mp H
  obtain ⟨t134, A70, H⟩ := H
  replace H : ((orthoepyref02_Of.f t133).bind fun t137 => (if (t134.length : Int) = 0 then (orthoepylaw21_OrderScalars.j0 k t131 t132 t133 t134 t137 true) else (orthoepylaw21_OrderScalars.j0 k t131 t132 t133 t134 t137 ((t137.length : Int) == 0)))) = some r := H
  have A7 := Aside0.mk A70
  clear A70
  replace H := Option.bind_eq_some_iff.mp H
  obtain ⟨t137, A80, H⟩ := H
  replace H : (if (t134.length : Int) = 0 then (orthoepylaw21_OrderScalars.j0 k t131 t132 t133 t134 t137 true) else (orthoepylaw21_OrderScalars.j0 k t131 t132 t133 t134 t137 ((t137.length : Int) == 0))) = some r := H
  have A8 := Aside0.mk A80
  clear A80
  have HC9 := Aside0.mk H
  clear H
  go_enter Try.func9, Try.ntmps9
  go_upto_region 3 with (first | (go_at_call 21; (with_reducible refine (orthoepylaw00_Str.calls k _ _ l0 t131 _ ?side1 ?side2 A4.out).mono ?_); (case side1 => repeat (first | exact HR0.out | (with_reducible refine Kd.C_alloc ?_ _) | (with_reducible refine Kd.C_drewN ?_ _) | (with_reducible refine Kd.C_drew ?_))); (case side2 => exact HC0.out); rintro e w10 ⟨rfl, hb⟩; have n0_ := Aside0.mk (below_step (by repeat (first | (with_reducible first | exact HB.out | apply below_alloc | apply pw_below_drewN | apply below_drew1) | exact HB.out)) hb); clear HB; have HB := n0_; clear n0_; (try clear hb); (try clear hb2); (try clear hk); (try clear hi)) | (go_at_call 21; (with_reducible refine (orthoepylaw00_Str.calls k _ _ l1 t132 _ ?side1 ?side2 A5.out).mono ?_); (case side1 => repeat (first | exact (Kd.C_below HR1.out HB.out) | (with_reducible refine Kd.C_alloc ?_ _) | (with_reducible refine Kd.C_drewN ?_ _) | (with_reducible refine Kd.C_drew ?_))); (case side2 => exact HC1.out); rintro e w11 ⟨rfl, hb⟩; have n0_ := Aside0.mk (below_step (by repeat (first | (with_reducible first | exact HB.out | apply below_alloc | apply pw_below_drewN | apply below_drew1) | exact HB.out)) hb); clear HB; have HB := n0_; clear n0_; (try clear hb); (try clear hb2); (try clear hk); (try clear hi)) | (go_at_call 21; (with_reducible refine (orthoepylaw00_Str.calls k _ _ l2 t133 _ ?side1 ?side2 A6.out).mono ?_); (case side1 => repeat (first | exact (Kd.C_below HR2.out HB.out) | (with_reducible refine Kd.C_alloc ?_ _) | (with_reducible refine Kd.C_drewN ?_ _) | (with_reducible refine Kd.C_drew ?_))); (case side2 => exact HC2.out); rintro e w12 ⟨rfl, hb⟩; have n0_ := Aside0.mk (below_step (by repeat (first | (with_reducible first | exact HB.out | apply below_alloc | apply pw_below_drewN | apply below_drew1) | exact HB.out)) hb); clear HB; have HB := n0_; clear n0_; (try clear hb); (try clear hb2); (try clear hk); (try clear hi)) | (go_at_call 22; (with_reducible refine (orthoepyref02_Of.calls t132 t134 _ A7.out).mono ?_); rintro e w13 ⟨v135, rfl, ho0, hb⟩; have n0_ := Aside0.mk (Kd.R_lower ho0 (below_size (by repeat (first | (with_reducible first | exact HB.out | apply below_alloc | apply pw_below_drewN | apply below_drew1) | exact HB.out)))); have n1_ := Aside0.mk (below_step (by repeat (first | (with_reducible first | exact HB.out | apply below_alloc | apply pw_below_drewN | apply below_drew1) | exact HB.out)) hb); clear HB; have HO136 := n0_; have HB := n1_; clear n0_ n1_; (try clear hb); (try clear hb2); (try clear hk); (try clear hi); (try clear ho0)) | (go_at_call 22; (with_reducible refine (orthoepyref02_Of.calls t133 t137 _ A8.out).mono ?_); rintro e w14 ⟨v138, rfl, ho0, hb⟩; have n0_ := Aside0.mk (Kd.R_elder' (by (with_reducible repeat (first | apply Kd.R_alloc | apply Kd.R_drewN | apply Kd.R_drew)); exact HO136.out) (Kd.R_base ho0) hb); have n1_ := Aside0.mk (Kd.R_lower (Kd.R_new' ho0 (Kd.R_lt (by (with_reducible repeat (first | apply Kd.R_alloc | apply Kd.R_drewN | apply Kd.R_drew)); exact HO136.out))) (below_size (by repeat (first | (with_reducible first | exact HB.out | apply below_alloc | apply pw_below_drewN | apply below_drew1) | exact HB.out)))); have n2_ := Aside0.mk (below_step (by repeat (first | (with_reducible first | exact HB.out | apply below_alloc | apply pw_below_drewN | apply below_drew1) | exact HB.out)) hb); clear HO136; clear HB; have HO136 := n0_; have HO139 := n1_; have HB := n2_; clear n0_ n1_ n2_; (try clear hb); (try clear hb2); (try clear hk); (try clear hi); (try clear ho0)))
  repeat (go_quiet (first | (go_at_call 21; (with_reducible refine (orthoepylaw00_Str.calls k _ _ l0 t131 _ ?side1 ?side2 A4.out).mono ?_); (case side1 => repeat (first | exact HR0.out | (with_reducible refine Kd.C_alloc ?_ _) | (with_reducible refine Kd.C_drewN ?_ _) | (with_reducible refine Kd.C_drew ?_))); (case side2 => exact HC0.out); rintro e w10 ⟨rfl, hb⟩; have n0_ := Aside0.mk (below_step (by repeat (first | (with_reducible first | exact HB.out | apply below_alloc | apply pw_below_drewN | apply below_drew1) | exact HB.out)) hb); clear HB; have HB := n0_; clear n0_; (try clear hb); (try clear hb2); (try clear hk); (try clear hi)) | (go_at_call 21; (with_reducible refine (orthoepylaw00_Str.calls k _ _ l1 t132 _ ?side1 ?side2 A5.out).mono ?_); (case side1 => repeat (first | exact (Kd.C_below HR1.out HB.out) | (with_reducible refine Kd.C_alloc ?_ _) | (with_reducible refine Kd.C_drewN ?_ _) | (with_reducible refine Kd.C_drew ?_))); (case side2 => exact HC1.out); rintro e w11 ⟨rfl, hb⟩; have n0_ := Aside0.mk (below_step (by repeat (first | (with_reducible first | exact HB.out | apply below_alloc | apply pw_below_drewN | apply below_drew1) | exact HB.out)) hb); clear HB; have HB := n0_; clear n0_; (try clear hb); (try clear hb2); (try clear hk); (try clear hi)) | (go_at_call 21; (with_reducible refine (orthoepylaw00_Str.calls k _ _ l2 t133 _ ?side1 ?side2 A6.out).mono ?_); (case side1 => repeat (first | exact (Kd.C_below HR2.out HB.out) | (with_reducible refine Kd.C_alloc ?_ _) | (with_reducible refine Kd.C_drewN ?_ _) | (with_reducible refine Kd.C_drew ?_))); (case side2 => exact HC2.out); rintro e w12 ⟨rfl, hb⟩; have n0_ := Aside0.mk (below_step (by repeat (first | (with_reducible first | exact HB.out | apply below_alloc | apply pw_below_drewN | apply below_drew1) | exact HB.out)) hb); clear HB; have HB := n0_; clear n0_; (try clear hb); (try clear hb2); (try clear hk); (try clear hi)) | (go_at_call 22; (with_reducible refine (orthoepyref02_Of.calls t132 t134 _ A7.out).mono ?_); rintro e w13 ⟨v135, rfl, ho0, hb⟩; have n0_ := Aside0.mk (Kd.R_lower ho0 (below_size (by repeat (first | (with_reducible first | exact HB.out | apply below_alloc | apply pw_below_drewN | apply below_drew1) | exact HB.out)))); have n1_ := Aside0.mk (below_step (by repeat (first | (with_reducible first | exact HB.out | apply below_alloc | apply pw_below_drewN | apply below_drew1) | exact HB.out)) hb); clear HB; have HO136 := n0_; have HB := n1_; clear n0_ n1_; (try clear hb); (try clear hb2); (try clear hk); (try clear hi); (try clear ho0)) | (go_at_call 22; (with_reducible refine (orthoepyref02_Of.calls t133 t137 _ A8.out).mono ?_); rintro e w14 ⟨v138, rfl, ho0, hb⟩; have n0_ := Aside0.mk (Kd.R_elder' (by (with_reducible repeat (first | apply Kd.R_alloc | apply Kd.R_drewN | apply Kd.R_drew)); exact HO136.out) (Kd.R_base ho0) hb); have n1_ := Aside0.mk (Kd.R_lower (Kd.R_new' ho0 (Kd.R_lt (by (with_reducible repeat (first | apply Kd.R_alloc | apply Kd.R_drewN | apply Kd.R_drew)); exact HO136.out))) (below_size (by repeat (first | (with_reducible first | exact HB.out | apply below_alloc | apply pw_below_drewN | apply below_drew1) | exact HB.out)))); have n2_ := Aside0.mk (below_step (by repeat (first | (with_reducible first | exact HB.out | apply below_alloc | apply pw_below_drewN | apply below_drew1) | exact HB.out)) hb); clear HO136; clear HB; have HO136 := n0_; have HO139 := n1_; have HB := n2_; clear n0_ n1_ n2_; (try clear hb); (try clear hb2); (try clear hk); (try clear hi); (try clear ho0))); go_upto_region 3 with (first | (go_at_call 21; (with_reducible refine (orthoepylaw00_Str.calls k _ _ l0 t131 _ ?side1 ?side2 A4.out).mono ?_); (case side1 => repeat (first | exact HR0.out | (with_reducible refine Kd.C_alloc ?_ _) | (with_reducible refine Kd.C_drewN ?_ _) | (with_reducible refine Kd.C_drew ?_))); (case side2 => exact HC0.out); rintro e w10 ⟨rfl, hb⟩; have n0_ := Aside0.mk (below_step (by repeat (first | (with_reducible first | exact HB.out | apply below_alloc | apply pw_below_drewN | apply below_drew1) | exact HB.out)) hb); clear HB; have HB := n0_; clear n0_; (try clear hb); (try clear hb2); (try clear hk); (try clear hi)) | (go_at_call 21; (with_reducible refine (orthoepylaw00_Str.calls k _ _ l1 t132 _ ?side1 ?side2 A5.out).mono ?_); (case side1 => repeat (first | exact (Kd.C_below HR1.out HB.out) | (with_reducible refine Kd.C_alloc ?_ _) | (with_reducible refine Kd.C_drewN ?_ _) | (with_reducible refine Kd.C_drew ?_))); (case side2 => exact HC1.out); rintro e w11 ⟨rfl, hb⟩; have n0_ := Aside0.mk (below_step (by repeat (first | (with_reducible first | exact HB.out | apply below_alloc | apply pw_below_drewN | apply below_drew1) | exact HB.out)) hb); clear HB; have HB := n0_; clear n0_; (try clear hb); (try clear hb2); (try clear hk); (try clear hi)) | (go_at_call 21; (with_reducible refine (orthoepylaw00_Str.calls k _ _ l2 t133 _ ?side1 ?side2 A6.out).mono ?_); (case side1 => repeat (first | exact (Kd.C_below HR2.out HB.out) | (with_reducible refine Kd.C_alloc ?_ _) | (with_reducible refine Kd.C_drewN ?_ _) | (with_reducible refine Kd.C_drew ?_))); (case side2 => exact HC2.out); rintro e w12 ⟨rfl, hb⟩; have n0_ := Aside0.mk (below_step (by repeat (first | (with_reducible first | exact HB.out | apply below_alloc | apply pw_below_drewN | apply below_drew1) | exact HB.out)) hb); clear HB; have HB := n0_; clear n0_; (try clear hb); (try clear hb2); (try clear hk); (try clear hi)) | (go_at_call 22; (with_reducible refine (orthoepyref02_Of.calls t132 t134 _ A7.out).mono ?_); rintro e w13 ⟨v135, rfl, ho0, hb⟩; have n0_ := Aside0.mk (Kd.R_lower ho0 (below_size (by repeat (first | (with_reducible first | exact HB.out | apply below_alloc | apply pw_below_drewN | apply below_drew1) | exact HB.out)))); have n1_ := Aside0.mk (below_step (by repeat (first | (with_reducible first | exact HB.out | apply below_alloc | apply pw_below_drewN | apply below_drew1) | exact HB.out)) hb); clear HB; have HO136 := n0_; have HB := n1_; clear n0_ n1_; (try clear hb); (try clear hb2); (try clear hk); (try clear hi); (try clear ho0)) | (go_at_call 22; (with_reducible refine (orthoepyref02_Of.calls t133 t137 _ A8.out).mono ?_); rintro e w14 ⟨v138, rfl, ho0, hb⟩; have n0_ := Aside0.mk (Kd.R_elder' (by (with_reducible repeat (first | apply Kd.R_alloc | apply Kd.R_drewN | apply Kd.R_drew)); exact HO136.out) (Kd.R_base ho0) hb); have n1_ := Aside0.mk (Kd.R_lower (Kd.R_new' ho0 (Kd.R_lt (by (with_reducible repeat (first | apply Kd.R_alloc | apply Kd.R_drewN | apply Kd.R_drew)); exact HO136.out))) (below_size (by repeat (first | (with_reducible first | exact HB.out | apply below_alloc | apply pw_below_drewN | apply below_drew1) | exact HB.out)))); have n2_ := Aside0.mk (below_step (by repeat (first | (with_reducible first | exact HB.out | apply below_alloc | apply pw_below_drewN | apply below_drew1) | exact HB.out)) hb); clear HO136; clear HB; have HO136 := n0_; have HO139 := n1_; have HB := n2_; clear n0_ n1_ n2_; (try clear hb); (try clear hb2); (try clear hk); (try clear hi); (try clear ho0))))
  (try simp only [Act.put, List.setIfInBounds_toArray, List.set_cons_zero, List.set_cons_succ])
  go_cut [32] (fun v32 wc => ∃ (kq : Nat) (x32_8 : Bool), v32 = .bool x32_8 ∧ Aside0 (orthoepylaw21_OrderScalars.j0 kq t131 t132 t133 t134 t137 x32_8 = some r) ∧ Aside0 (kq ≤ k) ∧ Aside0 (Kd.R (Kd.int .i32) 21 wc w.heap.size (fun k_ => some k_ ≠ (v138 : Value).ownBlock) v135 t134) ∧ Aside0 (Kd.R (Kd.int .i32) 21 wc w.heap.size (fun k_ => some k_ ≠ (v135 : Value).ownBlock) v138 t137) ∧ Aside0 (Below w.heap.size w wc))
  case first =>
    have H := HC9.out
    clear HC9
    by_cases c15 : (t134.length : Int) = 0
    · rw [if_pos c15] at H
      have c15b0 : ((t134.length : Int) == 0) = true := beq_iff_eq.mpr c15
      have c15b1 : ((t134.length : Int) != 0) = false := bne_eq_false_iff_eq.mpr c15
      clear c15
      (first | rw [c15b0] | (simp only [i64_w, i32_w]; rw [c15b0]) | skip)
      have H' := Aside0.mk H
      clear H
      obtain ⟨Ao16, co16, eo16⟩ := Kd.R_slice HO136.out
      subst eo16
      go_wp2
      repeat (go_quiet (fail); try go_wp2)
      go_meet
      case rel => exact ⟨_, (true), (by first | rfl | (simp; done) | (simp [*]; done)), H', ⟨by first | omega | exact Nat.le_refl _⟩, ⟨by (with_reducible repeat (first | apply Kd.R_alloc | apply Kd.R_drewN | apply Kd.R_drew)); exact Kd.R_mono HO136.out (fun _ hk => hk.2)⟩, ⟨by (with_reducible repeat (first | apply Kd.R_alloc | apply Kd.R_drewN | apply Kd.R_drew)); exact Kd.R_mono HO139.out (fun _ hk => hk.2)⟩, ⟨by repeat (first | (with_reducible first | exact HB.out | apply below_alloc | apply pw_below_drewN | apply below_drew1) | exact HB.out)⟩⟩
    · rw [if_neg c15] at H
      have c15b0 : ((t134.length : Int) == 0) = false := beq_eq_false_iff_ne.mpr c15
      have c15b1 : ((t134.length : Int) != 0) = true := bne_iff_ne.mpr c15
      have c15b2 : ¬ (t134 = []) := fun h_ => c15 (by rw [h_]; rfl)
      (first | rw [c15b0] | (simp only [i64_w, i32_w]; rw [c15b0]) | skip)
      have H' := Aside0.mk H
      clear H
      obtain ⟨Ao17, co17, eo17⟩ := Kd.R_slice HO136.out
      subst eo17
      obtain ⟨Ao18, co18, eo18⟩ := Kd.R_slice HO139.out
      subst eo18
      go_wp2
      repeat (go_quiet (fail); try go_wp2)
      go_meet
      case rel => exact ⟨_, (((t137.length : Int) == 0)), (by first | rfl | (simp; done) | (simp [*]; done)), H', ⟨by first | omega | exact Nat.le_refl _⟩, ⟨by (with_reducible repeat (first | apply Kd.R_alloc | apply Kd.R_drewN | apply Kd.R_drew)); exact Kd.R_mono HO136.out (fun _ hk => hk.2)⟩, ⟨by (with_reducible repeat (first | apply Kd.R_alloc | apply Kd.R_drewN | apply Kd.R_drew)); exact Kd.R_mono HO139.out (fun _ hk => hk.2)⟩, ⟨by repeat (first | (with_reducible first | exact HB.out | apply below_alloc | apply pw_below_drewN | apply below_drew1) | exact HB.out)⟩⟩
  case rest =>
    clear HC9
    try clear c1
    try clear c2
    try clear p2
    try clear c9
    try clear c15
    try clear c15b0
    try clear c15b1
    try clear c15b2
    obtain ⟨kq, x32_8, rfl, HA, HJ8, HO_10, HO_11, HB⟩ := hcut
    cases kq with
    | zero => exact absurd HA.out (by simp [orthoepylaw21_OrderScalars.j0])
    | succ kj8 =>
      have H := HA.out
      clear HA
      simp only [orthoepylaw21_OrderScalars.j0] at H
      by_cases c19 : x32_8 = true
      · subst c19
        have H1 : (if t131.size + t132.size ≤ 9223372036854775807 then (if t131.size + t133.size ≤ 9223372036854775807 then ((order_Less.f (t131 ++ t132) (t131 ++ t133)).bind fun t140 => (if (t140 == (decide ((t134.length : Int) < (t137.length : Int)))) = true then ((orthoepylaw21_awake.f).bind fun t141 => (some t141)) else (some false))) else (none)) else (none)) = some r := by rw [if_pos rfl] at H; exact H
        clear H
        have H := H1
        clear H1
        by_cases c20 : t131.size + t132.size ≤ 9223372036854775807
        · rw [if_pos c20] at H
          have c20b0 := eq_true c20
          have c20b1 : decide (t131.size + t132.size ≤ 9223372036854775807) = true := decide_eq_true c20
          try have c20b2 : (9223372036854775807 < t131.size + t132.size) = False := eq_false (Nat.not_lt.2 c20)
          by_cases c21 : t131.size + t133.size ≤ 9223372036854775807
          · rw [if_pos c21] at H
            have c21b0 := eq_true c21
            have c21b1 : decide (t131.size + t133.size ≤ 9223372036854775807) = true := decide_eq_true c21
            try have c21b2 : (9223372036854775807 < t131.size + t133.size) = False := eq_false (Nat.not_lt.2 c21)
            replace H := Option.bind_eq_some_iff.mp H
            obtain ⟨t140, A220, H⟩ := H
            replace H : (if (t140 == (decide ((t134.length : Int) < (t137.length : Int)))) = true then ((orthoepylaw21_awake.f).bind fun t141 => (some t141)) else (some false)) = some r := H
            have A22 := Aside0.mk A220
            clear A220
            by_cases c23 : (t140 == (decide ((t134.length : Int) < (t137.length : Int)))) = true
            · rw [if_pos c23] at H
              have c23b0 : (t140 == (decide ((t134.length : Int) < (t137.length : Int)))) = true := c23
              have c23bx : (t140 == decide (t134.length < t137.length)) = true := by rw [show decide (t134.length < t137.length) = decide ((t134.length : Int) < (t137.length : Int)) from decide_eq_decide.2 (by omega)]; exact c23b0
              (try (have c23b1 : decide (t140 = (decide ((t134.length : Int) < (t137.length : Int)))) = true := by simpa using c23))
              (try (have c23b2 : (t140 == (decide ((t134.length : Int) < (t137.length : Int)))) = true := by simpa using c23))
              clear c23
              replace H := Option.bind_eq_some_iff.mp H
              obtain ⟨t141, A240, H⟩ := H
              replace H : (some t141) = some r := H
              have A24 := Aside0.mk A240
              clear A240
              obtain rfl := Option.some.inj H
              go_wp2_with (first | (go_at_call 12; (with_reducible refine (order_Less.calls (t131 ++ t132) (t131 ++ t133) t140 _ A22.out).mono ?_); rintro e w25 ⟨rfl, hb⟩; have n0_ := Aside0.mk (Kd.R_below (by (with_reducible repeat (first | apply Kd.R_alloc | apply Kd.R_drewN | apply Kd.R_drew)); exact HO_10.out) hb); have n1_ := Aside0.mk (Kd.R_below (by (with_reducible repeat (first | apply Kd.R_alloc | apply Kd.R_drewN | apply Kd.R_drew)); exact HO_11.out) hb); have n2_ := Aside0.mk (below_step (by repeat (first | (with_reducible first | exact HB.out | apply below_alloc | apply pw_below_drewN | apply below_drew1) | exact HB.out)) hb); clear HO_10; clear HO_11; clear HB; have HO_10 := n0_; have HO_11 := n1_; have HB := n2_; clear n0_ n1_ n2_; (try clear hb); (try clear hb2); (try clear hk); (try clear hi); obtain ⟨Ao26, co26, eo26⟩ := Kd.R_slice HO_10.out; subst eo26; obtain ⟨Ao27, co27, eo27⟩ := Kd.R_slice HO_11.out; subst eo27) | (go_at_call 11; (with_reducible refine (orthoepylaw21_awake.calls  t141 _ A24.out).mono ?_); rintro e w28 ⟨rfl, hb⟩; have n0_ := Aside0.mk (Kd.R_below (by (with_reducible repeat (first | apply Kd.R_alloc | apply Kd.R_drewN | apply Kd.R_drew)); exact HO_10.out) hb); have n1_ := Aside0.mk (Kd.R_below (by (with_reducible repeat (first | apply Kd.R_alloc | apply Kd.R_drewN | apply Kd.R_drew)); exact HO_11.out) hb); have n2_ := Aside0.mk (below_step (by repeat (first | (with_reducible first | exact HB.out | apply below_alloc | apply pw_below_drewN | apply below_drew1) | exact HB.out)) hb); clear HO_10; clear HO_11; clear HB; have HO_10 := n0_; have HO_11 := n1_; have HB := n2_; clear n0_ n1_ n2_; (try clear hb); (try clear hb2); (try clear hk); (try clear hi)))
              repeat (go_quiet (first | (go_at_call 12; (with_reducible refine (order_Less.calls (t131 ++ t132) (t131 ++ t133) t140 _ A22.out).mono ?_); rintro e w25 ⟨rfl, hb⟩; have n0_ := Aside0.mk (Kd.R_below (by (with_reducible repeat (first | apply Kd.R_alloc | apply Kd.R_drewN | apply Kd.R_drew)); exact HO_10.out) hb); have n1_ := Aside0.mk (Kd.R_below (by (with_reducible repeat (first | apply Kd.R_alloc | apply Kd.R_drewN | apply Kd.R_drew)); exact HO_11.out) hb); have n2_ := Aside0.mk (below_step (by repeat (first | (with_reducible first | exact HB.out | apply below_alloc | apply pw_below_drewN | apply below_drew1) | exact HB.out)) hb); clear HO_10; clear HO_11; clear HB; have HO_10 := n0_; have HO_11 := n1_; have HB := n2_; clear n0_ n1_ n2_; (try clear hb); (try clear hb2); (try clear hk); (try clear hi); obtain ⟨Ao26, co26, eo26⟩ := Kd.R_slice HO_10.out; subst eo26; obtain ⟨Ao27, co27, eo27⟩ := Kd.R_slice HO_11.out; subst eo27) | (go_at_call 11; (with_reducible refine (orthoepylaw21_awake.calls  t141 _ A24.out).mono ?_); rintro e w28 ⟨rfl, hb⟩; have n0_ := Aside0.mk (Kd.R_below (by (with_reducible repeat (first | apply Kd.R_alloc | apply Kd.R_drewN | apply Kd.R_drew)); exact HO_10.out) hb); have n1_ := Aside0.mk (Kd.R_below (by (with_reducible repeat (first | apply Kd.R_alloc | apply Kd.R_drewN | apply Kd.R_drew)); exact HO_11.out) hb); have n2_ := Aside0.mk (below_step (by repeat (first | (with_reducible first | exact HB.out | apply below_alloc | apply pw_below_drewN | apply below_drew1) | exact HB.out)) hb); clear HO_10; clear HO_11; clear HB; have HO_10 := n0_; have HO_11 := n1_; have HB := n2_; clear n0_ n1_ n2_; (try clear hb); (try clear hb2); (try clear hk); (try clear hi))); try go_wp2_with (first | (go_at_call 12; (with_reducible refine (order_Less.calls (t131 ++ t132) (t131 ++ t133) t140 _ A22.out).mono ?_); rintro e w25 ⟨rfl, hb⟩; have n0_ := Aside0.mk (Kd.R_below (by (with_reducible repeat (first | apply Kd.R_alloc | apply Kd.R_drewN | apply Kd.R_drew)); exact HO_10.out) hb); have n1_ := Aside0.mk (Kd.R_below (by (with_reducible repeat (first | apply Kd.R_alloc | apply Kd.R_drewN | apply Kd.R_drew)); exact HO_11.out) hb); have n2_ := Aside0.mk (below_step (by repeat (first | (with_reducible first | exact HB.out | apply below_alloc | apply pw_below_drewN | apply below_drew1) | exact HB.out)) hb); clear HO_10; clear HO_11; clear HB; have HO_10 := n0_; have HO_11 := n1_; have HB := n2_; clear n0_ n1_ n2_; (try clear hb); (try clear hb2); (try clear hk); (try clear hi); obtain ⟨Ao26, co26, eo26⟩ := Kd.R_slice HO_10.out; subst eo26; obtain ⟨Ao27, co27, eo27⟩ := Kd.R_slice HO_11.out; subst eo27) | (go_at_call 11; (with_reducible refine (orthoepylaw21_awake.calls  t141 _ A24.out).mono ?_); rintro e w28 ⟨rfl, hb⟩; have n0_ := Aside0.mk (Kd.R_below (by (with_reducible repeat (first | apply Kd.R_alloc | apply Kd.R_drewN | apply Kd.R_drew)); exact HO_10.out) hb); have n1_ := Aside0.mk (Kd.R_below (by (with_reducible repeat (first | apply Kd.R_alloc | apply Kd.R_drewN | apply Kd.R_drew)); exact HO_11.out) hb); have n2_ := Aside0.mk (below_step (by repeat (first | (with_reducible first | exact HB.out | apply below_alloc | apply pw_below_drewN | apply below_drew1) | exact HB.out)) hb); clear HO_10; clear HO_11; clear HB; have HO_10 := n0_; have HO_11 := n1_; have HB := n2_; clear n0_ n1_ n2_; (try clear hb); (try clear hb2); (try clear hk); (try clear hi))))
              go_ret
              exact ⟨by first | rfl | (simp [errW_none, errW_some] <;> rfl) | (simp [*, errW_none, errW_some] <;> rfl), by repeat (first | (with_reducible first | exact HB.out | apply below_alloc | apply pw_below_drewN | apply below_drew1) | exact HB.out)⟩
            · rw [if_neg c23] at H
              have c23b0 : (t140 == (decide ((t134.length : Int) < (t137.length : Int)))) = false := by simpa using c23
              (try (have c23b1 : decide (t140 = (decide ((t134.length : Int) < (t137.length : Int)))) = false := by simpa using c23))
              (try (have c23b2 : (t140 == (decide ((t134.length : Int) < (t137.length : Int)))) = false := by simpa using c23))
              (try (have c23b3 : ¬ (t140 = (decide ((t134.length : Int) < (t137.length : Int)))) := by simpa using c23))
              clear c23
              obtain rfl := Option.some.inj H
              exact absurd hT_.out (by decide)
          · rw [if_neg c21] at H
            exact absurd H (by simp)
        · rw [if_neg c20] at H
          exact absurd H (by simp)
      · replace c19 := Bool.eq_false_iff.mpr c19
        subst c19
        have H1 : (if 0 < (t134.length : Int) then (if 0 < (t137.length : Int) then (if (rd t134 0) ≥ 65536 then (if (rd t137 0) ≥ 57344 then (orthoepylaw21_OrderScalars.j1 kj8 t131 t132 t133 (rd t134 0) (rd t137 0) (decide ((rd t134 0) < (rd t137 0))) (decide ((rd t137 0) < 65536))) else (orthoepylaw21_OrderScalars.j1 kj8 t131 t132 t133 (rd t134 0) (rd t137 0) (decide ((rd t134 0) < (rd t137 0))) false)) else (orthoepylaw21_OrderScalars.j1 kj8 t131 t132 t133 (rd t134 0) (rd t137 0) (decide ((rd t134 0) < (rd t137 0))) false)) else (none)) else (none)) = some r := by rw [if_neg (show ¬ (false = true) by decide)] at H; exact H
        clear H
        have H := H1
        clear H1
        by_cases c29 : 0 < (t134.length : Int)
        · rw [if_pos c29] at H
          have c29b0 : decide (0 < (t134.length : Int)) = true := decide_eq_true c29
          have c29b1 : decide (0 < t134.length) = true := decide_eq_true (by omega)
          clear c29
          by_cases c30 : 0 < (t137.length : Int)
          · rw [if_pos c30] at H
            have c30b0 : decide (0 < (t137.length : Int)) = true := decide_eq_true c30
            have c30b1 : decide (0 < t137.length) = true := decide_eq_true (by omega)
            clear c30
            have HC31 := Aside0.mk H
            clear H
            obtain ⟨Ao32, co32, eo32⟩ := Kd.R_slice HO_10.out
            subst eo32
            have p142 : 0 ≤ (0 : Int) := (by omega)
            have q142 : 0 < (t134.length : Int) := of_decide_eq_true (by first | (with_reducible assumption) | assumption)
            obtain ⟨ad142, e142, hx142_0⟩ := Kd.at_int (Kd.R_reads' HO_10.out).2.2 0 p142 q142
            cases e142
            have qi142 : (0 < t134.length) = True := eq_true (by omega)
            (try rw [show ((0 : Int)).toNat = 0 from rfl] at hx142_0)
            (try rw [Addr.add_zero'] at hx142_0)
            replace p142 := eq_true p142
            replace q142 := eq_true q142
            obtain ⟨Ao33, co33, eo33⟩ := Kd.R_slice HO_11.out
            subst eo33
            have p143 : 0 ≤ (0 : Int) := (by omega)
            have q143 : 0 < (t137.length : Int) := of_decide_eq_true (by first | (with_reducible assumption) | assumption)
            obtain ⟨ad143, e143, hx143_0⟩ := Kd.at_int (Kd.R_reads' HO_11.out).2.2 0 p143 q143
            cases e143
            have qi143 : (0 < t137.length) = True := eq_true (by omega)
            (try rw [show ((0 : Int)).toNat = 0 from rfl] at hx143_0)
            (try rw [Addr.add_zero'] at hx143_0)
            replace p143 := eq_true p143
            replace q143 := eq_true q143
            go_upto_region 7 with (fail)
            repeat (go_quiet (fail); go_upto_region 7 with (fail))
            go_cut [67] (fun v67 wc => ∃ (kq : Nat) (x67_30 : Bool), v67 = .bool x67_30 ∧ Aside0 (orthoepylaw21_OrderScalars.j1 kq t131 t132 t133 (rd t134 0) (rd t137 0) (decide ((rd t134 0) < (rd t137 0))) x67_30 = some r) ∧ Aside0 (kq ≤ kj8) ∧ Aside0 (Below w.heap.size w wc))
            case first =>
              have H := HC31.out
              clear HC31
              by_cases c34 : (rd t134 0) ≥ 65536
              · rw [if_pos c34] at H
                have c34b0 : decide (65536 ≤ (rd t134 0)) = true := decide_eq_true c34
                clear c34
                (first | rw [c34b0] | (simp only [i64_w, i32_w]; rw [c34b0]) | skip)
                by_cases c35 : (rd t137 0) ≥ 57344
                · rw [if_pos c35] at H
                  have c35b0 : decide (57344 ≤ (rd t137 0)) = true := decide_eq_true c35
                  clear c35
                  have H' := Aside0.mk H
                  clear H
                  go_wp2
                  repeat (go_quiet (fail); try go_wp2)
                  go_meet
                  case rel => exact ⟨_, (decide ((rd t137 0) < 65536)), (by first | rfl | (simp; done) | (simp [*]; done)), H', ⟨by have := HJ8.out; first | omega | exact Nat.le_refl _⟩, ⟨by repeat (first | (with_reducible first | exact HB.out | apply below_alloc | apply pw_below_drewN | apply below_drew1) | exact HB.out)⟩⟩
                · rw [if_neg c35] at H
                  have c35b0 : decide (57344 ≤ (rd t137 0)) = false := decide_eq_false c35
                  clear c35
                  have H' := Aside0.mk H
                  clear H
                  go_wp2
                  repeat (go_quiet (fail); try go_wp2)
                  go_meet
                  case rel => exact ⟨_, (false), (by first | rfl | (simp; done) | (simp [*]; done)), H', ⟨by have := HJ8.out; first | omega | exact Nat.le_refl _⟩, ⟨by repeat (first | (with_reducible first | exact HB.out | apply below_alloc | apply pw_below_drewN | apply below_drew1) | exact HB.out)⟩⟩
              · rw [if_neg c34] at H
                have c34b0 : decide (65536 ≤ (rd t134 0)) = false := decide_eq_false c34
                clear c34
                (first | rw [c34b0] | (simp only [i64_w, i32_w]; rw [c34b0]) | skip)
                have H' := Aside0.mk H
                clear H
                go_wp2
                repeat (go_quiet (fail); try go_wp2)
                go_meet
                case rel => exact ⟨_, (false), (by first | rfl | (simp; done) | (simp [*]; done)), H', ⟨by have := HJ8.out; first | omega | exact Nat.le_refl _⟩, ⟨by repeat (first | (with_reducible first | exact HB.out | apply below_alloc | apply pw_below_drewN | apply below_drew1) | exact HB.out)⟩⟩
            case rest =>
              clear HC31
              try clear c1
              try clear p1
              try clear q1
              try clear hx1
              try clear qi1
              try clear c2
              try clear p2
              try clear c3
              try clear c9
              try clear p14
              try clear q14
              try clear hx14
              try clear qi14
              try clear c15
              try clear c15b0
              try clear c15b1
              try clear c15b2
              try clear c19
              try clear c20
              try clear c20b0
              try clear c20b1
              try clear c20b2
              try clear c21
              try clear c21b0
              try clear c21b1
              try clear c21b2
              try clear c23
              try clear c23b0
              try clear c23b1
              try clear c23b2
              try clear c29
              try clear c29b0
              try clear c29b1
              try clear c30
              try clear c30b0
              try clear c30b1
              try clear c34
              try clear c34b0
              try clear c35
              try clear c35b0
              try clear hx142_0
              try clear hx143_0
              try clear p142
              try clear p143
              try clear p2
              try clear q142
              try clear q143
              obtain ⟨kq, x67_30, rfl, HA, HJ30, HB⟩ := hcut
              cases kq with
              | zero => exact absurd HA.out (by simp [orthoepylaw21_OrderScalars.j1])
              | succ kj30 =>
                have H := HA.out
                clear HA
                simp only [orthoepylaw21_OrderScalars.j1] at H
                have HC36 := Aside0.mk H
                clear H
                go_upto_if 67 with (fail)
                repeat (go_quiet (fail); go_upto_if 67 with (fail))
                go_cut [14] (fun v14 wc => ∃ (kq : Nat) (x14_35 : Bool), v14 = .bool x14_35 ∧ Aside0 (orthoepylaw21_OrderScalars.j2 kq t131 t132 t133 (rd t134 0) (rd t137 0) x14_35 = some r) ∧ Aside0 (kq ≤ kj30) ∧ Aside0 (Below w.heap.size w wc))
                case first =>
                  have H := HC36.out
                  clear HC36
                  by_cases c37 : x67_30 = true
                  · subst c37
                    have H1 : (orthoepylaw21_OrderScalars.j2 kj30 t131 t132 t133 (rd t134 0) (rd t137 0) true) = some r := by rw [if_pos rfl] at H; exact H
                    clear H
                    have H := H1
                    clear H1
                    have H' := Aside0.mk H
                    clear H
                    go_wp2
                    repeat (go_quiet (fail); try go_wp2)
                    go_meet
                    case rel => exact ⟨_, (true), (by first | rfl | (simp; done) | (simp [*]; done)), H', ⟨by have := HJ8.out; have := HJ30.out; first | omega | exact Nat.le_refl _⟩, ⟨by repeat (first | (with_reducible first | exact HB.out | apply below_alloc | apply pw_below_drewN | apply below_drew1) | exact HB.out)⟩⟩
                  · replace c37 := Bool.eq_false_iff.mpr c37
                    subst c37
                    have H1 : (orthoepylaw21_OrderScalars.j2 kj30 t131 t132 t133 (rd t134 0) (rd t137 0) (decide ((rd t134 0) < (rd t137 0)))) = some r := by rw [if_neg (show ¬ (false = true) by decide)] at H; exact H
                    clear H
                    have H := H1
                    clear H1
                    have H' := Aside0.mk H
                    clear H
                    go_wp2
                    repeat (go_quiet (fail); try go_wp2)
                    go_meet
                    case rel => exact ⟨_, ((decide ((rd t134 0) < (rd t137 0)))), (by first | rfl | (simp; done) | (simp [*]; done)), H', ⟨by have := HJ8.out; have := HJ30.out; first | omega | exact Nat.le_refl _⟩, ⟨by repeat (first | (with_reducible first | exact HB.out | apply below_alloc | apply pw_below_drewN | apply below_drew1) | exact HB.out)⟩⟩
                case rest =>
                  clear HC36
                  try clear c1
                  try clear p1
                  try clear q1
                  try clear hx1
                  try clear qi1
                  try clear c2
                  try clear p2
                  try clear c3
                  try clear c9
                  try clear p14
                  try clear q14
                  try clear hx14
                  try clear qi14
                  try clear c15
                  try clear c15b0
                  try clear c15b1
                  try clear c15b2
                  try clear c19
                  try clear c20
                  try clear c20b0
                  try clear c20b1
                  try clear c20b2
                  try clear c21
                  try clear c21b0
                  try clear c21b1
                  try clear c21b2
                  try clear c23
                  try clear c23b0
                  try clear c23b1
                  try clear c23b2
                  try clear c29
                  try clear c29b0
                  try clear c29b1
                  try clear c30
                  try clear c30b0
                  try clear c30b1
                  try clear c34
                  try clear c34b0
                  try clear c35
                  try clear c35b0
                  try clear c37
                  try clear hx142_0
                  try clear hx143_0
                  try clear p1
                  try clear p14
                  try clear p142
                  try clear p143
                  try clear p2
                  try clear q1
                  try clear q14
                  try clear q142
                  try clear q143
                  obtain ⟨kq, x14_35, rfl, HA, HJ35, HB⟩ := hcut
                  cases kq with
                  | zero => exact absurd HA.out (by simp [orthoepylaw21_OrderScalars.j2])
                  | succ kj35 =>
                    have H := HA.out
                    clear HA
                    simp only [orthoepylaw21_OrderScalars.j2] at H
                    have HC38 := Aside0.mk H
                    clear H
                    go_upto_region 9 with (fail)
                    repeat (go_quiet (fail); go_upto_region 9 with (fail))
                    go_cut [77] (fun v77 wc => ∃ (kq : Nat) (x77_37 : Bool), v77 = .bool x77_37 ∧ Aside0 (orthoepylaw21_OrderScalars.j3 kq t131 t132 t133 (rd t134 0) (rd t137 0) x14_35 x77_37 = some r) ∧ Aside0 (kq ≤ kj35) ∧ Aside0 (Below w.heap.size w wc))
                    case first =>
                      have H := HC38.out
                      clear HC38
                      by_cases c39 : (rd t137 0) ≥ 65536
                      · rw [if_pos c39] at H
                        have c39b0 : decide (65536 ≤ (rd t137 0)) = true := decide_eq_true c39
                        clear c39
                        (first | rw [c39b0] | (simp only [i64_w, i32_w]; rw [c39b0]) | skip)
                        by_cases c40 : (rd t134 0) ≥ 57344
                        · rw [if_pos c40] at H
                          have c40b0 : decide (57344 ≤ (rd t134 0)) = true := decide_eq_true c40
                          clear c40
                          have H' := Aside0.mk H
                          clear H
                          go_wp2
                          repeat (go_quiet (fail); try go_wp2)
                          go_meet
                          case rel => exact ⟨_, (decide ((rd t134 0) < 65536)), (by first | rfl | (simp; done) | (simp [*]; done)), H', ⟨by have := HJ8.out; have := HJ30.out; have := HJ35.out; first | omega | exact Nat.le_refl _⟩, ⟨by repeat (first | (with_reducible first | exact HB.out | apply below_alloc | apply pw_below_drewN | apply below_drew1) | exact HB.out)⟩⟩
                        · rw [if_neg c40] at H
                          have c40b0 : decide (57344 ≤ (rd t134 0)) = false := decide_eq_false c40
                          clear c40
                          have H' := Aside0.mk H
                          clear H
                          go_wp2
                          repeat (go_quiet (fail); try go_wp2)
                          go_meet
                          case rel => exact ⟨_, (false), (by first | rfl | (simp; done) | (simp [*]; done)), H', ⟨by have := HJ8.out; have := HJ30.out; have := HJ35.out; first | omega | exact Nat.le_refl _⟩, ⟨by repeat (first | (with_reducible first | exact HB.out | apply below_alloc | apply pw_below_drewN | apply below_drew1) | exact HB.out)⟩⟩
                      · rw [if_neg c39] at H
                        have c39b0 : decide (65536 ≤ (rd t137 0)) = false := decide_eq_false c39
                        clear c39
                        (first | rw [c39b0] | (simp only [i64_w, i32_w]; rw [c39b0]) | skip)
                        have H' := Aside0.mk H
                        clear H
                        go_wp2
                        repeat (go_quiet (fail); try go_wp2)
                        go_meet
                        case rel => exact ⟨_, (false), (by first | rfl | (simp; done) | (simp [*]; done)), H', ⟨by have := HJ8.out; have := HJ30.out; have := HJ35.out; first | omega | exact Nat.le_refl _⟩, ⟨by repeat (first | (with_reducible first | exact HB.out | apply below_alloc | apply pw_below_drewN | apply below_drew1) | exact HB.out)⟩⟩
                    case rest =>
                      clear HC38
                      try clear c1
                      try clear p1
                      try clear q1
                      try clear hx1
                      try clear qi1
                      try clear c2
                      try clear p2
                      try clear c3
                      try clear c4
                      try clear c9
                      try clear p14
                      try clear q14
                      try clear hx14
                      try clear qi14
                      try clear c15
                      try clear c15b0
                      try clear c15b1
                      try clear c15b2
                      try clear c19
                      try clear c20
                      try clear c20b0
                      try clear c20b1
                      try clear c20b2
                      try clear c21
                      try clear c21b0
                      try clear c21b1
                      try clear c21b2
                      try clear c23
                      try clear c23b0
                      try clear c23b1
                      try clear c23b2
                      try clear c29
                      try clear c29b0
                      try clear c29b1
                      try clear c30
                      try clear c30b0
                      try clear c30b1
                      try clear c34
                      try clear c34b0
                      try clear c35
                      try clear c35b0
                      try clear c37
                      try clear c39
                      try clear c39b0
                      try clear c40
                      try clear c40b0
                      try clear hx142_0
                      try clear hx143_0
                      try clear p1
                      try clear p14
                      try clear p142
                      try clear p143
                      try clear p2
                      try clear q1
                      try clear q14
                      try clear q142
                      try clear q143
                      obtain ⟨kq, x77_37, rfl, HA, HJ37, HB⟩ := hcut
                      cases kq with
                      | zero => exact absurd HA.out (by simp [orthoepylaw21_OrderScalars.j3])
                      | succ kj37 =>
                        have H := HA.out
                        clear HA
                        simp only [orthoepylaw21_OrderScalars.j3] at H
                        by_cases c41 : x77_37 = true
                        · subst c41
                          have H1 : (if (rd t134 0) = (rd t137 0) then ((orthoepylaw21_awake.f).bind fun t144 => (some t144)) else (if t131.size + t132.size ≤ 9223372036854775807 then (if t131.size + t133.size ≤ 9223372036854775807 then ((order_Less.f (t131 ++ t132) (t131 ++ t133)).bind fun t145 => (if (t145 == false) = true then ((orthoepylaw21_awake.f).bind fun t146 => (some t146)) else (some false))) else (none)) else (none))) = some r := by rw [if_pos rfl] at H; exact H
                          clear H
                          have H := H1
                          clear H1
                          by_cases c42 : (rd t134 0) = (rd t137 0)
                          · rw [if_pos c42] at H
                            have c42b0 : ((rd t134 0) == (rd t137 0)) = true := beq_iff_eq.mpr c42
                            have c42b1 : ((rd t134 0) != (rd t137 0)) = false := bne_eq_false_iff_eq.mpr c42
                            clear c42
                            replace H := Option.bind_eq_some_iff.mp H
                            obtain ⟨t144, A430, H⟩ := H
                            replace H : (some t144) = some r := H
                            have A43 := Aside0.mk A430
                            clear A430
                            obtain rfl := Option.some.inj H
                            go_wp2_with (first | (go_at_call 11; (with_reducible refine (orthoepylaw21_awake.calls  t144 _ A43.out).mono ?_); rintro e w44 ⟨rfl, hb⟩; have n0_ := Aside0.mk (below_step (by repeat (first | (with_reducible first | exact HB.out | apply below_alloc | apply pw_below_drewN | apply below_drew1) | exact HB.out)) hb); clear HB; have HB := n0_; clear n0_; (try clear hb); (try clear hb2); (try clear hk); (try clear hi)))
                            repeat (go_quiet (first | (go_at_call 11; (with_reducible refine (orthoepylaw21_awake.calls  t144 _ A43.out).mono ?_); rintro e w44 ⟨rfl, hb⟩; have n0_ := Aside0.mk (below_step (by repeat (first | (with_reducible first | exact HB.out | apply below_alloc | apply pw_below_drewN | apply below_drew1) | exact HB.out)) hb); clear HB; have HB := n0_; clear n0_; (try clear hb); (try clear hb2); (try clear hk); (try clear hi))); try go_wp2_with (first | (go_at_call 11; (with_reducible refine (orthoepylaw21_awake.calls  t144 _ A43.out).mono ?_); rintro e w44 ⟨rfl, hb⟩; have n0_ := Aside0.mk (below_step (by repeat (first | (with_reducible first | exact HB.out | apply below_alloc | apply pw_below_drewN | apply below_drew1) | exact HB.out)) hb); clear HB; have HB := n0_; clear n0_; (try clear hb); (try clear hb2); (try clear hk); (try clear hi))))
                            go_ret
                            exact ⟨by first | rfl | (simp [errW_none, errW_some] <;> rfl) | (simp [*, errW_none, errW_some] <;> rfl), by repeat (first | (with_reducible first | exact HB.out | apply below_alloc | apply pw_below_drewN | apply below_drew1) | exact HB.out)⟩
                          · rw [if_neg c42] at H
                            have c42b0 : ((rd t134 0) == (rd t137 0)) = false := beq_eq_false_iff_ne.mpr c42
                            have c42b1 : ((rd t134 0) != (rd t137 0)) = true := bne_iff_ne.mpr c42
                            by_cases c45 : t131.size + t132.size ≤ 9223372036854775807
                            · rw [if_pos c45] at H
                              have c45b0 := eq_true c45
                              have c45b1 : decide (t131.size + t132.size ≤ 9223372036854775807) = true := decide_eq_true c45
                              try have c45b2 : (9223372036854775807 < t131.size + t132.size) = False := eq_false (Nat.not_lt.2 c45)
                              by_cases c46 : t131.size + t133.size ≤ 9223372036854775807
                              · rw [if_pos c46] at H
                                have c46b0 := eq_true c46
                                have c46b1 : decide (t131.size + t133.size ≤ 9223372036854775807) = true := decide_eq_true c46
                                try have c46b2 : (9223372036854775807 < t131.size + t133.size) = False := eq_false (Nat.not_lt.2 c46)
                                replace H := Option.bind_eq_some_iff.mp H
                                obtain ⟨t145, A470, H⟩ := H
                                replace H : (if (t145 == false) = true then ((orthoepylaw21_awake.f).bind fun t146 => (some t146)) else (some false)) = some r := H
                                have A47 := Aside0.mk A470
                                clear A470
                                by_cases c48 : (t145 == false) = true
                                · rw [if_pos c48] at H
                                  have c48b0 : (t145 == false) = true := c48
                                  (try (have c48b1 : decide (t145 = false) = true := by simpa using c48))
                                  (try (have c48b2 : (t145 == false) = true := by simpa using c48))
                                  clear c48
                                  replace H := Option.bind_eq_some_iff.mp H
                                  obtain ⟨t146, A490, H⟩ := H
                                  replace H : (some t146) = some r := H
                                  have A49 := Aside0.mk A490
                                  clear A490
                                  obtain rfl := Option.some.inj H
                                  go_wp2_with (first | (go_at_call 12; (with_reducible refine (order_Less.calls (t131 ++ t132) (t131 ++ t133) t145 _ A47.out).mono ?_); rintro e w50 ⟨rfl, hb⟩; have n0_ := Aside0.mk (below_step (by repeat (first | (with_reducible first | exact HB.out | apply below_alloc | apply pw_below_drewN | apply below_drew1) | exact HB.out)) hb); clear HB; have HB := n0_; clear n0_; (try clear hb); (try clear hb2); (try clear hk); (try clear hi)) | (go_at_call 11; (with_reducible refine (orthoepylaw21_awake.calls  t146 _ A49.out).mono ?_); rintro e w51 ⟨rfl, hb⟩; have n0_ := Aside0.mk (below_step (by repeat (first | (with_reducible first | exact HB.out | apply below_alloc | apply pw_below_drewN | apply below_drew1) | exact HB.out)) hb); clear HB; have HB := n0_; clear n0_; (try clear hb); (try clear hb2); (try clear hk); (try clear hi)))
                                  repeat (go_quiet (first | (go_at_call 12; (with_reducible refine (order_Less.calls (t131 ++ t132) (t131 ++ t133) t145 _ A47.out).mono ?_); rintro e w50 ⟨rfl, hb⟩; have n0_ := Aside0.mk (below_step (by repeat (first | (with_reducible first | exact HB.out | apply below_alloc | apply pw_below_drewN | apply below_drew1) | exact HB.out)) hb); clear HB; have HB := n0_; clear n0_; (try clear hb); (try clear hb2); (try clear hk); (try clear hi)) | (go_at_call 11; (with_reducible refine (orthoepylaw21_awake.calls  t146 _ A49.out).mono ?_); rintro e w51 ⟨rfl, hb⟩; have n0_ := Aside0.mk (below_step (by repeat (first | (with_reducible first | exact HB.out | apply below_alloc | apply pw_below_drewN | apply below_drew1) | exact HB.out)) hb); clear HB; have HB := n0_; clear n0_; (try clear hb); (try clear hb2); (try clear hk); (try clear hi))); try go_wp2_with (first | (go_at_call 12; (with_reducible refine (order_Less.calls (t131 ++ t132) (t131 ++ t133) t145 _ A47.out).mono ?_); rintro e w50 ⟨rfl, hb⟩; have n0_ := Aside0.mk (below_step (by repeat (first | (with_reducible first | exact HB.out | apply below_alloc | apply pw_below_drewN | apply below_drew1) | exact HB.out)) hb); clear HB; have HB := n0_; clear n0_; (try clear hb); (try clear hb2); (try clear hk); (try clear hi)) | (go_at_call 11; (with_reducible refine (orthoepylaw21_awake.calls  t146 _ A49.out).mono ?_); rintro e w51 ⟨rfl, hb⟩; have n0_ := Aside0.mk (below_step (by repeat (first | (with_reducible first | exact HB.out | apply below_alloc | apply pw_below_drewN | apply below_drew1) | exact HB.out)) hb); clear HB; have HB := n0_; clear n0_; (try clear hb); (try clear hb2); (try clear hk); (try clear hi))))
                                  go_ret
                                  exact ⟨by first | rfl | (simp [errW_none, errW_some] <;> rfl) | (simp [*, errW_none, errW_some] <;> rfl), by repeat (first | (with_reducible first | exact HB.out | apply below_alloc | apply pw_below_drewN | apply below_drew1) | exact HB.out)⟩
                                · rw [if_neg c48] at H
                                  have c48b0 : (t145 == false) = false := by simpa using c48
                                  (try (have c48b1 : decide (t145 = false) = false := by simpa using c48))
                                  (try (have c48b2 : (t145 == false) = false := by simpa using c48))
                                  (try (have c48b3 : ¬ (t145 = false) := by simpa using c48))
                                  clear c48
                                  obtain rfl := Option.some.inj H
                                  exact absurd hT_.out (by decide)
                              · rw [if_neg c46] at H
                                exact absurd H (by simp)
                            · rw [if_neg c45] at H
                              exact absurd H (by simp)
                        · replace c41 := Bool.eq_false_iff.mpr c41
                          subst c41
                          have H1 : (if (rd t134 0) = (rd t137 0) then ((orthoepylaw21_awake.f).bind fun t147 => (some t147)) else (if t131.size + t132.size ≤ 9223372036854775807 then (if t131.size + t133.size ≤ 9223372036854775807 then ((order_Less.f (t131 ++ t132) (t131 ++ t133)).bind fun t148 => (if (t148 == x14_35) = true then ((orthoepylaw21_awake.f).bind fun t149 => (some t149)) else (some false))) else (none)) else (none))) = some r := by rw [if_neg (show ¬ (false = true) by decide)] at H; exact H
                          clear H
                          have H := H1
                          clear H1
                          by_cases c52 : (rd t134 0) = (rd t137 0)
                          · rw [if_pos c52] at H
                            have c52b0 : ((rd t134 0) == (rd t137 0)) = true := beq_iff_eq.mpr c52
                            have c52b1 : ((rd t134 0) != (rd t137 0)) = false := bne_eq_false_iff_eq.mpr c52
                            clear c52
                            replace H := Option.bind_eq_some_iff.mp H
                            obtain ⟨t147, A530, H⟩ := H
                            replace H : (some t147) = some r := H
                            have A53 := Aside0.mk A530
                            clear A530
                            obtain rfl := Option.some.inj H
                            go_wp2_with (first | (go_at_call 11; (with_reducible refine (orthoepylaw21_awake.calls  t147 _ A53.out).mono ?_); rintro e w54 ⟨rfl, hb⟩; have n0_ := Aside0.mk (below_step (by repeat (first | (with_reducible first | exact HB.out | apply below_alloc | apply pw_below_drewN | apply below_drew1) | exact HB.out)) hb); clear HB; have HB := n0_; clear n0_; (try clear hb); (try clear hb2); (try clear hk); (try clear hi)))
                            repeat (go_quiet (first | (go_at_call 11; (with_reducible refine (orthoepylaw21_awake.calls  t147 _ A53.out).mono ?_); rintro e w54 ⟨rfl, hb⟩; have n0_ := Aside0.mk (below_step (by repeat (first | (with_reducible first | exact HB.out | apply below_alloc | apply pw_below_drewN | apply below_drew1) | exact HB.out)) hb); clear HB; have HB := n0_; clear n0_; (try clear hb); (try clear hb2); (try clear hk); (try clear hi))); try go_wp2_with (first | (go_at_call 11; (with_reducible refine (orthoepylaw21_awake.calls  t147 _ A53.out).mono ?_); rintro e w54 ⟨rfl, hb⟩; have n0_ := Aside0.mk (below_step (by repeat (first | (with_reducible first | exact HB.out | apply below_alloc | apply pw_below_drewN | apply below_drew1) | exact HB.out)) hb); clear HB; have HB := n0_; clear n0_; (try clear hb); (try clear hb2); (try clear hk); (try clear hi))))
                            go_ret
                            exact ⟨by first | rfl | (simp [errW_none, errW_some] <;> rfl) | (simp [*, errW_none, errW_some] <;> rfl), by repeat (first | (with_reducible first | exact HB.out | apply below_alloc | apply pw_below_drewN | apply below_drew1) | exact HB.out)⟩
                          · rw [if_neg c52] at H
                            have c52b0 : ((rd t134 0) == (rd t137 0)) = false := beq_eq_false_iff_ne.mpr c52
                            have c52b1 : ((rd t134 0) != (rd t137 0)) = true := bne_iff_ne.mpr c52
                            by_cases c55 : t131.size + t132.size ≤ 9223372036854775807
                            · rw [if_pos c55] at H
                              have c55b0 := eq_true c55
                              have c55b1 : decide (t131.size + t132.size ≤ 9223372036854775807) = true := decide_eq_true c55
                              try have c55b2 : (9223372036854775807 < t131.size + t132.size) = False := eq_false (Nat.not_lt.2 c55)
                              by_cases c56 : t131.size + t133.size ≤ 9223372036854775807
                              · rw [if_pos c56] at H
                                have c56b0 := eq_true c56
                                have c56b1 : decide (t131.size + t133.size ≤ 9223372036854775807) = true := decide_eq_true c56
                                try have c56b2 : (9223372036854775807 < t131.size + t133.size) = False := eq_false (Nat.not_lt.2 c56)
                                replace H := Option.bind_eq_some_iff.mp H
                                obtain ⟨t148, A570, H⟩ := H
                                replace H : (if (t148 == x14_35) = true then ((orthoepylaw21_awake.f).bind fun t149 => (some t149)) else (some false)) = some r := H
                                have A57 := Aside0.mk A570
                                clear A570
                                by_cases c58 : (t148 == x14_35) = true
                                · rw [if_pos c58] at H
                                  have c58b0 : (t148 == x14_35) = true := c58
                                  (try (have c58b1 : decide (t148 = x14_35) = true := by simpa using c58))
                                  (try (have c58b2 : (t148 == x14_35) = true := by simpa using c58))
                                  clear c58
                                  replace H := Option.bind_eq_some_iff.mp H
                                  obtain ⟨t149, A590, H⟩ := H
                                  replace H : (some t149) = some r := H
                                  have A59 := Aside0.mk A590
                                  clear A590
                                  obtain rfl := Option.some.inj H
                                  go_wp2_with (first | (go_at_call 12; (with_reducible refine (order_Less.calls (t131 ++ t132) (t131 ++ t133) t148 _ A57.out).mono ?_); rintro e w60 ⟨rfl, hb⟩; have n0_ := Aside0.mk (below_step (by repeat (first | (with_reducible first | exact HB.out | apply below_alloc | apply pw_below_drewN | apply below_drew1) | exact HB.out)) hb); clear HB; have HB := n0_; clear n0_; (try clear hb); (try clear hb2); (try clear hk); (try clear hi)) | (go_at_call 11; (with_reducible refine (orthoepylaw21_awake.calls  t149 _ A59.out).mono ?_); rintro e w61 ⟨rfl, hb⟩; have n0_ := Aside0.mk (below_step (by repeat (first | (with_reducible first | exact HB.out | apply below_alloc | apply pw_below_drewN | apply below_drew1) | exact HB.out)) hb); clear HB; have HB := n0_; clear n0_; (try clear hb); (try clear hb2); (try clear hk); (try clear hi)))
                                  repeat (go_quiet (first | (go_at_call 12; (with_reducible refine (order_Less.calls (t131 ++ t132) (t131 ++ t133) t148 _ A57.out).mono ?_); rintro e w60 ⟨rfl, hb⟩; have n0_ := Aside0.mk (below_step (by repeat (first | (with_reducible first | exact HB.out | apply below_alloc | apply pw_below_drewN | apply below_drew1) | exact HB.out)) hb); clear HB; have HB := n0_; clear n0_; (try clear hb); (try clear hb2); (try clear hk); (try clear hi)) | (go_at_call 11; (with_reducible refine (orthoepylaw21_awake.calls  t149 _ A59.out).mono ?_); rintro e w61 ⟨rfl, hb⟩; have n0_ := Aside0.mk (below_step (by repeat (first | (with_reducible first | exact HB.out | apply below_alloc | apply pw_below_drewN | apply below_drew1) | exact HB.out)) hb); clear HB; have HB := n0_; clear n0_; (try clear hb); (try clear hb2); (try clear hk); (try clear hi))); try go_wp2_with (first | (go_at_call 12; (with_reducible refine (order_Less.calls (t131 ++ t132) (t131 ++ t133) t148 _ A57.out).mono ?_); rintro e w60 ⟨rfl, hb⟩; have n0_ := Aside0.mk (below_step (by repeat (first | (with_reducible first | exact HB.out | apply below_alloc | apply pw_below_drewN | apply below_drew1) | exact HB.out)) hb); clear HB; have HB := n0_; clear n0_; (try clear hb); (try clear hb2); (try clear hk); (try clear hi)) | (go_at_call 11; (with_reducible refine (orthoepylaw21_awake.calls  t149 _ A59.out).mono ?_); rintro e w61 ⟨rfl, hb⟩; have n0_ := Aside0.mk (below_step (by repeat (first | (with_reducible first | exact HB.out | apply below_alloc | apply pw_below_drewN | apply below_drew1) | exact HB.out)) hb); clear HB; have HB := n0_; clear n0_; (try clear hb); (try clear hb2); (try clear hk); (try clear hi))))
                                  go_ret
                                  exact ⟨by first | rfl | (simp [errW_none, errW_some] <;> rfl) | (simp [*, errW_none, errW_some] <;> rfl), by repeat (first | (with_reducible first | exact HB.out | apply below_alloc | apply pw_below_drewN | apply below_drew1) | exact HB.out)⟩
                                · rw [if_neg c58] at H
                                  have c58b0 : (t148 == x14_35) = false := by simpa using c58
                                  (try (have c58b1 : decide (t148 = x14_35) = false := by simpa using c58))
                                  (try (have c58b2 : (t148 == x14_35) = false := by simpa using c58))
                                  (try (have c58b3 : ¬ (t148 = x14_35) := by simpa using c58))
                                  clear c58
                                  obtain rfl := Option.some.inj H
                                  exact absurd hT_.out (by decide)
                              · rw [if_neg c56] at H
                                exact absurd H (by simp)
                            · rw [if_neg c55] at H
                              exact absurd H (by simp)
          · rw [if_neg c30] at H
            exact absurd H (by simp)
        · rw [if_neg c29] at H
          exact absurd H (by simp)

/-- THE ONE PURE STATEMENT of orthoepylaw21_OrderScalars: yours. -/
def orthoepylaw21_OrderScalars.Pure : Prop := ∀ (l0 : List Int) (l1 : List Int) (l2 : List Int), l0.length ≤ maxLen → l0.length * 8 ≤ 140737488351232 → (∀ x ∈ l0, (Lit.int .i64 x).wf = true) → l1.length ≤ maxLen → l1.length * 8 ≤ 140737488351232 → (∀ x ∈ l1, (Lit.int .i64 x).wf = true) → l2.length ≤ maxLen → l2.length * 8 ≤ 140737488351232 → (∀ x ∈ l2, (Lit.int .i64 x).wf = true) → ∃ k, orthoepylaw21_OrderScalars.f k l0 l1 l2 = some true
theorem orthoepylaw21_OrderScalars.walk (P : orthoepylaw21_OrderScalars.Pure) (a0 : Option Addr) (len0 cap0 : Nat) (z0 : List Int) (a1 : Option Addr) (len1 cap1 : Nat) (z1 : List Int) (a2 : Option Addr) (len2 cap2 : Nat) (z2 : List Int) (w : World) (w0 : (a0 = none ∧ len0 = 0 ∧ cap0 = 0 ∧ z0 = []) ∨ ∃ x, a0 = some x ∧ len0 ≤ cap0 ∧ cap0 ≤ maxLen ∧ z0.length = cap0 ∧ (∀ i, i < z0.length → w.cell? (x.add i) = some (.int .i64 (z0.getD i 0))) ∧ ∀ n ∈ z0, (Lit.int .i64 n).wf = true) (y0 : len0 * 8 ≤ 140737488351232) (w1 : (a1 = none ∧ len1 = 0 ∧ cap1 = 0 ∧ z1 = []) ∨ ∃ x, a1 = some x ∧ len1 ≤ cap1 ∧ cap1 ≤ maxLen ∧ z1.length = cap1 ∧ (∀ i, i < z1.length → w.cell? (x.add i) = some (.int .i64 (z1.getD i 0))) ∧ ∀ n ∈ z1, (Lit.int .i64 n).wf = true) (y1 : len1 * 8 ≤ 140737488351232) (w2 : (a2 = none ∧ len2 = 0 ∧ cap2 = 0 ∧ z2 = []) ∨ ∃ x, a2 = some x ∧ len2 ≤ cap2 ∧ cap2 ≤ maxLen ∧ z2.length = cap2 ∧ (∀ i, i < z2.length → w.cell? (x.add i) = some (.int .i64 (z2.getD i 0))) ∧ ∀ n ∈ z2, (Lit.int .i64 n).wf = true) (y2 : len2 * 8 ≤ 140737488351232) :
    Calls Try.prog 9 #[.slice a0 len0 cap0, .slice a1 len1 cap1, .slice a2 len2 cap2] w fun e w' => e = .returned (.bool true) ∧ Below w.heap.size w w' := by
  obtain ⟨l0, rfl, hr0, hm0, hw0, hc0⟩ := ReadsInt.ofRowC w0
  obtain ⟨l1, rfl, hr1, hm1, hw1, hc1⟩ := ReadsInt.ofRowC w1
  obtain ⟨l2, rfl, hr2, hm2, hw2, hc2⟩ := ReadsInt.ofRowC w2
  obtain ⟨k, h⟩ := P l0 l1 l2 hm0 y0 hw0 hm1 y1 hw1 hm2 y2 hw2
  refine (orthoepylaw21_OrderScalars.calls k _ _ l0 _ _ l1 _ _ l2 true w (Kd.C_of_reads (d := (0 : Int)) (h1 := fun _ => rfl) hr0) hc0 (Kd.C_of_reads (d := (0 : Int)) (h1 := fun _ => rfl) hr1) hc1 (Kd.C_of_reads (d := (0 : Int)) (h1 := fun _ => rfl) hr2) hc2 h ⟨rfl⟩).mono ?_
  rintro e w' ⟨rfl, hd⟩
  exact ⟨rfl, hd⟩

end Go.Proofs.Ytajinnlaajhoeaa.PSca
