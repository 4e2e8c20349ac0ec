-- The machine's side of laws, written by a program of this session (wip/gen/pp.sh). Lean checks it.
import Derived.Test.YthgloaihgpcjjaaPAllx0
import Derived.Test.YthgloaihgpcjjaaPAllx2
import Derived.Test.YthgloaihgpcjjaaPAllx3
import Derived.Test.YthgloaihgpcjjaaPAllx4
import Derived.Test.YthgloaihgpcjjaaPAllx5
namespace Go.Proofs.Ythgloaihgpcjjaa.PAll
open Go.RowKit Go.Proofs.YthgloaihgpcjjaaW.PrintWords Go.Proofs.YthgloaihgpcjjaaW.PrintLast Go.Proofs.YthgloaihgpcjjaaW.PrintMore
attribute [local go_sem] max2_int min2_int max_two min_two max_three min_three max_four min_four   -- for this text's walks alone
set_option linter.unusedVariables false
set_option linter.unusedSimpArgs false

/-! ### orthoepylaw03_Utf16Orders: function 5 -/
def orthoepylaw03_Utf16Orders.j0 : Nat → List Int → List Int → Int → Bool → Option (Bool)
  | 0, _, _, _, _ => none
  | k + 1, x7, x8, x10, x46 => if x46 = true then (some false) else ((some (([] : List Int) : List Int)).bind fun y269 => (if y269.length + x7.length < 35184372088832 then ((some (y269 ++ x7 : List Int)).bind fun y272 => (if y272.length + x8.length < 35184372088832 then ((utf16_Compare.f k x8 x7).bind fun t278 => (if x10 = (wrap64 (-t278)) then ((orthoepyref07_Same.f k x7 x8).bind fun t279 => (if ((x10 == 0) == t279) = true then ((utf16_Compare.f k x7 x7).bind fun t280 => (if t280 = 0 then (if (x8.length : Int) = 0 then ((orthoepylaw03_awake.f).bind fun t281 => (some t281)) else ((utf16_Compare.f k x7 (y272 ++ x8)).bind fun t282 => (if t282 = (-1) then ((orthoepylaw03_awake.f).bind fun t283 => (some t283)) else (some false)))) else (some false))) else (some false))) else (some false))) else (none))) else (none)))
def orthoepylaw03_Utf16Orders.f (k : Nat) (l0 : List Int) (l1 : List Int) (l2 : List Int) : Option (Bool) := (orthoepylaw00_Runes.f k l0).bind fun t257 => ((orthoepylaw00_Runes.f k l1).bind fun t260 => ((orthoepylaw00_Runes.f k l2).bind fun t263 => ((utf16_Compare.f k t257 t260).bind fun t266 => ((utf16_Compare.f k t260 t263).bind fun t267 => ((utf16_Compare.f k t257 t263).bind fun t268 => (if t266 ≤ 0 then (if t267 ≤ 0 then (if t268 > 0 then (orthoepylaw03_Utf16Orders.j0 k t257 t260 t266 true) else (if t266 < (-1) then (orthoepylaw03_Utf16Orders.j0 k t257 t260 t266 true) else (orthoepylaw03_Utf16Orders.j0 k t257 t260 t266 (decide (t266 > 1))))) else (if t266 < (-1) then (orthoepylaw03_Utf16Orders.j0 k t257 t260 t266 true) else (orthoepylaw03_Utf16Orders.j0 k t257 t260 t266 (decide (t266 > 1))))) else (if t266 < (-1) then (orthoepylaw03_Utf16Orders.j0 k t257 t260 t266 true) else (orthoepylaw03_Utf16Orders.j0 k t257 t260 t266 (decide (t266 > 1))))))))))
theorem orthoepylaw03_Utf16Orders.mono_l : ∀ k, (∀ y0 y1 y2 y3, LeO (orthoepylaw03_Utf16Orders.j0 k y0 y1 y2 y3) (orthoepylaw03_Utf16Orders.j0 (k + 1) y0 y1 y2 y3))
  | 0 => fun _ _ _ _ r h => by simp [orthoepylaw03_Utf16Orders.j0] at h
  | k + 1 => by
    have ih0 := orthoepylaw03_Utf16Orders.mono_l k
    · intro y0 y1 y2 y3
      unfold orthoepylaw03_Utf16Orders.j0
      repeat' first
      | (with_reducible exact ih0 _ _ _ _)
      | (with_reducible exact orthoepylaw00_Runes.mono _ _)
      | (with_reducible exact orthoepyref07_Same.mono _ _ _)
      | (with_reducible exact utf16_Compare.mono _ _ _)
      | (with_reducible exact LeO.refl _)
      | (with_reducible exact LeO.none _)
      | (with_reducible refine LeO.ite ?_ ?_)
      | (with_reducible refine LeO.bind ?_ (fun _ => ?_))
      | exact ih0 _ _ _ _
      | exact orthoepylaw00_Runes.mono _ _
      | exact orthoepyref07_Same.mono _ _ _
      | exact utf16_Compare.mono _ _ _
      | exact LeO.none _
      | refine LeO.ite ?_ ?_
      | refine LeO.bind ?_ (fun _ => ?_)
theorem orthoepylaw03_Utf16Orders.mono : ∀ a0 a1 a2 k, LeO (orthoepylaw03_Utf16Orders.f k a0 a1 a2) (orthoepylaw03_Utf16Orders.f (k + 1) a0 a1 a2) := by
  intro a0 a1 a2 k
  have ih0 := orthoepylaw03_Utf16Orders.mono_l k
  unfold orthoepylaw03_Utf16Orders.f
  repeat' first
      | (with_reducible exact ih0 _ _ _ _)
      | (with_reducible exact orthoepylaw00_Runes.mono _ _)
      | (with_reducible exact orthoepyref07_Same.mono _ _ _)
      | (with_reducible exact utf16_Compare.mono _ _ _)
      | (with_reducible exact LeO.refl _)
      | (with_reducible exact LeO.none _)
      | (with_reducible refine LeO.ite ?_ ?_)
      | (with_reducible refine LeO.bind ?_ (fun _ => ?_))
      | exact ih0 _ _ _ _
      | exact orthoepylaw00_Runes.mono _ _
      | exact orthoepyref07_Same.mono _ _ _
      | exact utf16_Compare.mono _ _ _
      | exact LeO.none _
      | refine LeO.ite ?_ ?_
      | refine LeO.bind ?_ (fun _ => ?_)
set_option maxHeartbeats 8000000 in
set_option maxRecDepth 100000 in
theorem orthoepylaw03_Utf16Orders.calls (k : Nat) (A0 : Option Addr) (c0 : Nat) (l0 : List Int) (A1 : Option Addr) (c1 : Nat) (l1 : List Int) (A2 : Option Addr) (c2 : Nat) (l2 : List Int) (r : Bool) (w : World) (hr0 : Kd.C (Kd.int .i64) w A0 l0.length l0) (hc0 : l0.length ≤ c0) (hr1 : Kd.C (Kd.int .i64) w A1 l1.length l1) (hc1 : l1.length ≤ c1) (hr2 : Kd.C (Kd.int .i64) w A2 l2.length l2) (hc2 : l2.length ≤ c2) (h : orthoepylaw03_Utf16Orders.f k l0 l1 l2 = some r) (hT_ : Aside0 (r = true)) :
    Calls Try.prog 5 #[.slice A0 l0.length c0, .slice A1 l1.length c1, .slice A2 l2.length c2] w fun e w' => e = .returned (.bool r) ∧ Below w.heap.size w w' := by
  have HR0 := Aside0.mk hr0
  have HC0 := Aside0.mk hc0
  clear hr0 hc0
  have HR1 := Aside0.mk hr1
  have HC1 := Aside0.mk hc1
  clear hr1 hc1
  have HR2 := Aside0.mk hr2
  have HC2 := Aside0.mk hc2
  clear hr2 hc2
  have HB := Aside0.mk (Below.refl w.heap.size w)
  have H : ((orthoepylaw00_Runes.f k l0).bind fun t257 => ((orthoepylaw00_Runes.f k l1).bind fun t260 => ((orthoepylaw00_Runes.f k l2).bind fun t263 => ((utf16_Compare.f k t257 t260).bind fun t266 => ((utf16_Compare.f k t260 t263).bind fun t267 => ((utf16_Compare.f k t257 t263).bind fun t268 => (if t266 ≤ 0 then (if t267 ≤ 0 then (if t268 > 0 then (orthoepylaw03_Utf16Orders.j0 k t257 t260 t266 true) else (if t266 < (-1) then (orthoepylaw03_Utf16Orders.j0 k t257 t260 t266 true) else (orthoepylaw03_Utf16Orders.j0 k t257 t260 t266 (decide (t266 > 1))))) else (if t266 < (-1) then (orthoepylaw03_Utf16Orders.j0 k t257 t260 t266 true) else (orthoepylaw03_Utf16Orders.j0 k t257 t260 t266 (decide (t266 > 1))))) else (if t266 < (-1) then (orthoepylaw03_Utf16Orders.j0 k t257 t260 t266 true) else (orthoepylaw03_Utf16Orders.j0 k t257 t260 t266 (decide (t266 > 1))))))))))) = some r := h
  clear h
  replace H := Option.bind_eq_some_iff.mp H
  obtain ⟨t257, A40, H⟩ := H
  replace H : ((orthoepylaw00_Runes.f k l1).bind fun t260 => ((orthoepylaw00_Runes.f k l2).bind fun t263 => ((utf16_Compare.f k t257 t260).bind fun t266 => ((utf16_Compare.f k t260 t263).bind fun t267 => ((utf16_Compare.f k t257 t263).bind fun t268 => (if t266 ≤ 0 then (if t267 ≤ 0 then (if t268 > 0 then (orthoepylaw03_Utf16Orders.j0 k t257 t260 t266 true) else (if t266 < (-1) then (orthoepylaw03_Utf16Orders.j0 k t257 t260 t266 true) else (orthoepylaw03_Utf16Orders.j0 k t257 t260 t266 (decide (t266 > 1))))) else (if t266 < (-1) then (orthoepylaw03_Utf16Orders.j0 k t257 t260 t266 true) else (orthoepylaw03_Utf16Orders.j0 k t257 t260 t266 (decide (t266 > 1))))) else (if t266 < (-1) then (orthoepylaw03_Utf16Orders.j0 k t257 t260 t266 true) else (orthoepylaw03_Utf16Orders.j0 k t257 t260 t266 (decide (t266 > 1)))))))))) = some r := H
  have A4 := Aside0.mk A40
  clear A40
  replace H := Option.bind_eq_some_iff.mp H
  obtain ⟨t260, A50, H⟩ := H
  replace H : ((orthoepylaw00_Runes.f k l2).bind fun t263 => ((utf16_Compare.f k t257 t260).bind fun t266 => ((utf16_Compare.f k t260 t263).bind fun t267 => ((utf16_Compare.f k t257 t263).bind fun t268 => (if t266 ≤ 0 then (if t267 ≤ 0 then (if t268 > 0 then (orthoepylaw03_Utf16Orders.j0 k t257 t260 t266 true) else (if t266 < (-1) then (orthoepylaw03_Utf16Orders.j0 k t257 t260 t266 true) else (orthoepylaw03_Utf16Orders.j0 k t257 t260 t266 (decide (t266 > 1))))) else (if t266 < (-1) then (orthoepylaw03_Utf16Orders.j0 k t257 t260 t266 true) else (orthoepylaw03_Utf16Orders.j0 k t257 t260 t266 (decide (t266 > 1))))) else (if t266 < (-1) then (orthoepylaw03_Utf16Orders.j0 k t257 t260 t266 true) else (orthoepylaw03_Utf16Orders.j0 k t257 t260 t266 (decide (t266 > 1))))))))) = some r := H
  have A5 := Aside0.mk A50
  clear A50
  replace H := Option.bind_eq_some_iff.mp H
  obtain ⟨t263, A60, H⟩ := H
  replace H : ((utf16_Compare.f k t257 t260).bind fun t266 => ((utf16_Compare.f k t260 t263).bind fun t267 => ((utf16_Compare.f k t257 t263).bind fun t268 => (if t266 ≤ 0 then (if t267 ≤ 0 then (if t268 > 0 then (orthoepylaw03_Utf16Orders.j0 k t257 t260 t266 true) else (if t266 < (-1) then (orthoepylaw03_Utf16Orders.j0 k t257 t260 t266 true) else (orthoepylaw03_Utf16Orders.j0 k t257 t260 t266 (decide (t266 > 1))))) else (if t266 < (-1) then (orthoepylaw03_Utf16Orders.j0 k t257 t260 t266 true) else (orthoepylaw03_Utf16Orders.j0 k t257 t260 t266 (decide (t266 > 1))))) else (if t266 < (-1) then (orthoepylaw03_Utf16Orders.j0 k t257 t260 t266 true) else (orthoepylaw03_Utf16Orders.j0 k t257 t260 t266 (decide (t266 > 1)))))))) = some r := H
  have A6 := Aside0.mk A60
  clear A60
  replace H := Option.bind_eq_some_iff.mp H
  obtain ⟨t266, A70, H⟩ := H
  replace H : ((utf16_Compare.f k t260 t263).bind fun t267 => ((utf16_Compare.f k t257 t263).bind fun t268 => (if t266 ≤ 0 then (if t267 ≤ 0 then (if t268 > 0 then (orthoepylaw03_Utf16Orders.j0 k t257 t260 t266 true) else (if t266 < (-1) then (orthoepylaw03_Utf16Orders.j0 k t257 t260 t266 true) else (orthoepylaw03_Utf16Orders.j0 k t257 t260 t266 (decide (t266 > 1))))) else (if t266 < (-1) then (orthoepylaw03_Utf16Orders.j0 k t257 t260 t266 true) else (orthoepylaw03_Utf16Orders.j0 k t257 t260 t266 (decide (t266 > 1))))) else (if t266 < (-1) then (orthoepylaw03_Utf16Orders.j0 k t257 t260 t266 true) else (orthoepylaw03_Utf16Orders.j0 k t257 t260 t266 (decide (t266 > 1))))))) = some r := H
  have A7 := Aside0.mk A70
  clear A70
  replace H := Option.bind_eq_some_iff.mp H
  obtain ⟨t267, A80, H⟩ := H
  replace H : ((utf16_Compare.f k t257 t263).bind fun t268 => (if t266 ≤ 0 then (if t267 ≤ 0 then (if t268 > 0 then (orthoepylaw03_Utf16Orders.j0 k t257 t260 t266 true) else (if t266 < (-1) then (orthoepylaw03_Utf16Orders.j0 k t257 t260 t266 true) else (orthoepylaw03_Utf16Orders.j0 k t257 t260 t266 (decide (t266 > 1))))) else (if t266 < (-1) then (orthoepylaw03_Utf16Orders.j0 k t257 t260 t266 true) else (orthoepylaw03_Utf16Orders.j0 k t257 t260 t266 (decide (t266 > 1))))) else (if t266 < (-1) then (orthoepylaw03_Utf16Orders.j0 k t257 t260 t266 true) else (orthoepylaw03_Utf16Orders.j0 k t257 t260 t266 (decide (t266 > 1)))))) = some r := H
  have A8 := Aside0.mk A80
  clear A80
  replace H := Option.bind_eq_some_iff.mp H
  obtain ⟨t268, A90, H⟩ := H
  replace H : (if t266 ≤ 0 then (if t267 ≤ 0 then (if t268 > 0 then (orthoepylaw03_Utf16Orders.j0 k t257 t260 t266 true) else (if t266 < (-1) then (orthoepylaw03_Utf16Orders.j0 k t257 t260 t266 true) else (orthoepylaw03_Utf16Orders.j0 k t257 t260 t266 (decide (t266 > 1))))) else (if t266 < (-1) then (orthoepylaw03_Utf16Orders.j0 k t257 t260 t266 true) else (orthoepylaw03_Utf16Orders.j0 k t257 t260 t266 (decide (t266 > 1))))) else (if t266 < (-1) then (orthoepylaw03_Utf16Orders.j0 k t257 t260 t266 true) else (orthoepylaw03_Utf16Orders.j0 k t257 t260 t266 (decide (t266 > 1))))) = some r := H
  have A9 := Aside0.mk A90
  clear A90
  have HC10 := Aside0.mk H
  clear H
  go_enter Try.func5, Try.ntmps5
  go_upto_region 3 with (first | ((with_reducible refine gate_callee (f := 17) rfl ?_); refine goesL_ (some 15) rfl rfl Try.func17 (by kernel_rfl) rfl #[.slice A0 l0.length c0] rfl (by (try simp only [List.map_toArray, List.map_cons, List.map_nil]); first | done | rfl | (simp only [List.length_drop, List.length_take]; rfl)) ?_; (with_reducible refine (orthoepylaw00_Runes.calls k _ _ l0 t257 _ ?side1 ?side2 A4.out).mono ?_); (case side1 => repeat (first | exact HR0.out | (with_reducible refine Kd.C_alloc ?_ _) | (with_reducible refine Kd.C_drewN ?_ _) | (with_reducible refine Kd.C_drew ?_))); (case side2 => exact HC0.out); rintro e w11 ⟨v258, rfl, ho0, hb⟩; refine ⟨_, rfl, ?_⟩; have n0_ := Aside0.mk (Kd.R_lower ho0 (below_size (by repeat (first | (with_reducible first | exact HB.out | apply below_alloc | apply pw_below_drewN | apply below_drew1) | exact HB.out)))); have n1_ := Aside0.mk (below_step (by repeat (first | (with_reducible first | exact HB.out | apply below_alloc | apply pw_below_drewN | apply below_drew1) | exact HB.out)) hb); clear HB; have HO259 := n0_; have HB := n1_; clear n0_ n1_; (try clear hb); (try clear hb2); (try clear hk); (try clear hi); (try clear ho0)) | ((with_reducible refine gate_callee (f := 17) rfl ?_); refine goesL_ (some 17) rfl rfl Try.func17 (by kernel_rfl) rfl #[.slice A1 l1.length c1] rfl (by (try simp only [List.map_toArray, List.map_cons, List.map_nil]); first | done | rfl | (simp only [List.length_drop, List.length_take]; rfl)) ?_; (with_reducible refine (orthoepylaw00_Runes.calls k _ _ l1 t260 _ ?side1 ?side2 A5.out).mono ?_); (case side1 => repeat (first | exact (Kd.C_below HR1.out HB.out) | (with_reducible refine Kd.C_alloc ?_ _) | (with_reducible refine Kd.C_drewN ?_ _) | (with_reducible refine Kd.C_drew ?_))); (case side2 => exact HC1.out); rintro e w12 ⟨v261, rfl, ho0, hb⟩; refine ⟨_, rfl, ?_⟩; have n0_ := Aside0.mk (Kd.R_elder' (by (with_reducible repeat (first | apply Kd.R_alloc | apply Kd.R_drewN | apply Kd.R_drew)); exact HO259.out) (Kd.R_base ho0) hb); have n1_ := Aside0.mk (Kd.R_lower (Kd.R_new' ho0 (Kd.R_lt (by (with_reducible repeat (first | apply Kd.R_alloc | apply Kd.R_drewN | apply Kd.R_drew)); exact HO259.out))) (below_size (by repeat (first | (with_reducible first | exact HB.out | apply below_alloc | apply pw_below_drewN | apply below_drew1) | exact HB.out)))); have n2_ := Aside0.mk (below_step (by repeat (first | (with_reducible first | exact HB.out | apply below_alloc | apply pw_below_drewN | apply below_drew1) | exact HB.out)) hb); clear HO259; clear HB; have HO259 := n0_; have HO262 := n1_; have HB := n2_; clear n0_ n1_ n2_; (try clear hb); (try clear hb2); (try clear hk); (try clear hi); (try clear ho0)) | ((with_reducible refine gate_callee (f := 17) rfl ?_); refine goesL_ (some 19) rfl rfl Try.func17 (by kernel_rfl) rfl #[.slice A2 l2.length c2] rfl (by (try simp only [List.map_toArray, List.map_cons, List.map_nil]); first | done | rfl | (simp only [List.length_drop, List.length_take]; rfl)) ?_; (with_reducible refine (orthoepylaw00_Runes.calls k _ _ l2 t263 _ ?side1 ?side2 A6.out).mono ?_); (case side1 => repeat (first | exact (Kd.C_below HR2.out HB.out) | (with_reducible refine Kd.C_alloc ?_ _) | (with_reducible refine Kd.C_drewN ?_ _) | (with_reducible refine Kd.C_drew ?_))); (case side2 => exact HC2.out); rintro e w13 ⟨v264, rfl, ho0, hb⟩; refine ⟨_, rfl, ?_⟩; have n0_ := Aside0.mk (Kd.R_elder' (by (with_reducible repeat (first | apply Kd.R_alloc | apply Kd.R_drewN | apply Kd.R_drew)); exact HO259.out) (Kd.R_base ho0) hb); have n1_ := Aside0.mk (Kd.R_elder' (by (with_reducible repeat (first | apply Kd.R_alloc | apply Kd.R_drewN | apply Kd.R_drew)); exact HO262.out) (Kd.R_base ho0) hb); have n2_ := Aside0.mk (Kd.R_lower (Kd.R_new' (Kd.R_new' ho0 (Kd.R_lt (by (with_reducible repeat (first | apply Kd.R_alloc | apply Kd.R_drewN | apply Kd.R_drew)); exact HO259.out))) (Kd.R_lt (by (with_reducible repeat (first | apply Kd.R_alloc | apply Kd.R_drewN | apply Kd.R_drew)); exact HO262.out))) (below_size (by repeat (first | (with_reducible first | exact HB.out | apply below_alloc | apply pw_below_drewN | apply below_drew1) | exact HB.out)))); have n3_ := Aside0.mk (below_step (by repeat (first | (with_reducible first | exact HB.out | apply below_alloc | apply pw_below_drewN | apply below_drew1) | exact HB.out)) hb); clear HO259; clear HO262; clear HB; have HO259 := n0_; have HO262 := n1_; have HO265 := n2_; have HB := n3_; clear n0_ n1_ n2_ n3_; (try clear hb); (try clear hb2); (try clear hk); (try clear hi); (try clear ho0); obtain ⟨Ao14, co14, eo14⟩ := Kd.R_slice HO259.out; subst eo14; obtain ⟨Ao15, co15, eo15⟩ := Kd.R_slice HO262.out; subst eo15) | ((with_reducible refine gate_callee (f := 15) rfl ?_); refine goesL_ (some 22) rfl rfl Try.func15 (by kernel_rfl) rfl #[.slice Ao14 t257.length co14, .slice Ao15 t260.length co15] rfl (by (try simp only [List.map_toArray, List.map_cons, List.map_nil]); first | done | rfl | (simp only [List.length_drop, List.length_take]; rfl)) ?_; (with_reducible refine (utf16_Compare.calls k _ _ t257 _ _ t260 t266 _ ?side1 ?side2 ?side3 ?side4 A7.out).mono ?_); (case side1 => repeat (first | exact (Kd.R_reads' HO259.out).2.2 | (with_reducible refine Kd.C_alloc ?_ _) | (with_reducible refine Kd.C_drewN ?_ _) | (with_reducible refine Kd.C_drew ?_))); (case side2 => exact (Kd.R_reads' HO259.out).2.1); (case side3 => repeat (first | exact (Kd.R_reads' HO262.out).2.2 | (with_reducible refine Kd.C_alloc ?_ _) | (with_reducible refine Kd.C_drewN ?_ _) | (with_reducible refine Kd.C_drew ?_))); (case side4 => exact (Kd.R_reads' HO262.out).2.1); rintro e w16 ⟨rfl, hb⟩; refine ⟨_, rfl, ?_⟩; have n0_ := Aside0.mk (Kd.R_below (by (with_reducible repeat (first | apply Kd.R_alloc | apply Kd.R_drewN | apply Kd.R_drew)); exact HO259.out) hb); have n1_ := Aside0.mk (Kd.R_below (by (with_reducible repeat (first | apply Kd.R_alloc | apply Kd.R_drewN | apply Kd.R_drew)); exact HO262.out) hb); have n2_ := Aside0.mk (Kd.R_below (by (with_reducible repeat (first | apply Kd.R_alloc | apply Kd.R_drewN | apply Kd.R_drew)); exact HO265.out) hb); have n3_ := Aside0.mk (below_step (by repeat (first | (with_reducible first | exact HB.out | apply below_alloc | apply pw_below_drewN | apply below_drew1) | exact HB.out)) hb); clear HO259; clear HO262; clear HO265; clear HB; have HO259 := n0_; have HO262 := n1_; have HO265 := n2_; have HB := n3_; clear n0_ n1_ n2_ n3_; (try clear hb); (try clear hb2); (try clear hk); (try clear hi); obtain ⟨Ao17, co17, eo17⟩ := Kd.R_slice HO265.out; subst eo17) | ((with_reducible refine gate_callee (f := 15) rfl ?_); refine goesL_ (some 25) rfl rfl Try.func15 (by kernel_rfl) rfl #[.slice Ao15 t260.length co15, .slice Ao17 t263.length co17] rfl (by (try simp only [List.map_toArray, List.map_cons, List.map_nil]); first | done | rfl | (simp only [List.length_drop, List.length_take]; rfl)) ?_; (with_reducible refine (utf16_Compare.calls k _ _ t260 _ _ t263 t267 _ ?side1 ?side2 ?side3 ?side4 A8.out).mono ?_); (case side1 => repeat (first | exact (Kd.R_reads' HO262.out).2.2 | (with_reducible refine Kd.C_alloc ?_ _) | (with_reducible refine Kd.C_drewN ?_ _) | (with_reducible refine Kd.C_drew ?_))); (case side2 => exact (Kd.R_reads' HO262.out).2.1); (case side3 => repeat (first | exact (Kd.R_reads' HO265.out).2.2 | (with_reducible refine Kd.C_alloc ?_ _) | (with_reducible refine Kd.C_drewN ?_ _) | (with_reducible refine Kd.C_drew ?_))); (case side4 => exact (Kd.R_reads' HO265.out).2.1); rintro e w18 ⟨rfl, hb⟩; refine ⟨_, rfl, ?_⟩; have n0_ := Aside0.mk (Kd.R_below (by (with_reducible repeat (first | apply Kd.R_alloc | apply Kd.R_drewN | apply Kd.R_drew)); exact HO259.out) hb); have n1_ := Aside0.mk (Kd.R_below (by (with_reducible repeat (first | apply Kd.R_alloc | apply Kd.R_drewN | apply Kd.R_drew)); exact HO262.out) hb); have n2_ := Aside0.mk (Kd.R_below (by (with_reducible repeat (first | apply Kd.R_alloc | apply Kd.R_drewN | apply Kd.R_drew)); exact HO265.out) hb); have n3_ := Aside0.mk (below_step (by repeat (first | (with_reducible first | exact HB.out | apply below_alloc | apply pw_below_drewN | apply below_drew1) | exact HB.out)) hb); clear HO259; clear HO262; clear HO265; clear HB; have HO259 := n0_; have HO262 := n1_; have HO265 := n2_; have HB := n3_; clear n0_ n1_ n2_ n3_; (try clear hb); (try clear hb2); (try clear hk); (try clear hi)) | ((with_reducible refine gate_callee (f := 15) rfl ?_); refine goesL_ (some 28) rfl rfl Try.func15 (by kernel_rfl) rfl #[.slice Ao14 t257.length co14, .slice Ao17 t263.length co17] rfl (by (try simp only [List.map_toArray, List.map_cons, List.map_nil]); first | done | rfl | (simp only [List.length_drop, List.length_take]; rfl)) ?_; (with_reducible refine (utf16_Compare.calls k _ _ t257 _ _ t263 t268 _ ?side1 ?side2 ?side3 ?side4 A9.out).mono ?_); (case side1 => repeat (first | exact (Kd.R_reads' HO259.out).2.2 | (with_reducible refine Kd.C_alloc ?_ _) | (with_reducible refine Kd.C_drewN ?_ _) | (with_reducible refine Kd.C_drew ?_))); (case side2 => exact (Kd.R_reads' HO259.out).2.1); (case side3 => repeat (first | exact (Kd.R_reads' HO265.out).2.2 | (with_reducible refine Kd.C_alloc ?_ _) | (with_reducible refine Kd.C_drewN ?_ _) | (with_reducible refine Kd.C_drew ?_))); (case side4 => exact (Kd.R_reads' HO265.out).2.1); rintro e w19 ⟨rfl, hb⟩; refine ⟨_, rfl, ?_⟩; have n0_ := Aside0.mk (Kd.R_below (by (with_reducible repeat (first | apply Kd.R_alloc | apply Kd.R_drewN | apply Kd.R_drew)); exact HO259.out) hb); have n1_ := Aside0.mk (Kd.R_below (by (with_reducible repeat (first | apply Kd.R_alloc | apply Kd.R_drewN | apply Kd.R_drew)); exact HO262.out) hb); have n2_ := Aside0.mk (Kd.R_below (by (with_reducible repeat (first | apply Kd.R_alloc | apply Kd.R_drewN | apply Kd.R_drew)); exact HO265.out) hb); have n3_ := Aside0.mk (below_step (by repeat (first | (with_reducible first | exact HB.out | apply below_alloc | apply pw_below_drewN | apply below_drew1) | exact HB.out)) hb); clear HO259; clear HO262; clear HO265; clear HB; have HO259 := n0_; have HO262 := n1_; have HO265 := n2_; have HB := n3_; clear n0_ n1_ n2_ n3_; (try clear hb); (try clear hb2); (try clear hk); (try clear hi)))
  (try simp only [Act.put, List.setIfInBounds_toArray, List.set_cons_zero, List.set_cons_succ])
  go_cut [46] (fun v46 wc => ∃ (kq : Nat) (x46_9 : Bool), v46 = .bool x46_9 ∧ Aside0 (orthoepylaw03_Utf16Orders.j0 kq t257 t260 t266 x46_9 = some r) ∧ Aside0 (kq ≤ k) ∧ Aside0 (Kd.R (Kd.int .i32) 21 wc w.heap.size (fun k_ => some k_ ≠ ((.slice Ao15 t260.length co15) : Value).ownBlock) (.slice Ao14 t257.length co14) t257) ∧ Aside0 (Kd.R (Kd.int .i32) 21 wc w.heap.size (fun k_ => some k_ ≠ ((.slice Ao14 t257.length co14) : Value).ownBlock) (.slice Ao15 t260.length co15) t260) ∧ Aside0 (Below w.heap.size w wc))
  case first =>
    have H := HC10.out
    clear HC10
    by_cases c20 : t266 ≤ 0
    · rw [if_pos c20] at H
      have c20b0 : decide (t266 ≤ 0) = true := decide_eq_true c20
      clear c20
      (first | rw [c20b0] | (simp only [i64_w, i32_w]; rw [c20b0]) | skip)
      by_cases c21 : t267 ≤ 0
      · rw [if_pos c21] at H
        have c21b0 : decide (t267 ≤ 0) = true := decide_eq_true c21
        clear c21
        by_cases c22 : t268 > 0
        · rw [if_pos c22] at H
          have c22b0 : decide (0 < t268) = true := decide_eq_true c22
          clear c22
          have H' := Aside0.mk H
          clear H
          go_wp2
          go_meet
          case rel => exact ⟨_, (true), (by first | rfl | (simp; done) | (simp [*]; done)), H', ⟨by first | omega | exact Nat.le_refl _⟩, ⟨by (with_reducible repeat (first | apply Kd.R_alloc | apply Kd.R_drewN | apply Kd.R_drew)); exact Kd.R_mono HO259.out (fun _ hk => hk.1.2)⟩, ⟨by (with_reducible repeat (first | apply Kd.R_alloc | apply Kd.R_drewN | apply Kd.R_drew)); exact Kd.R_mono HO262.out (fun _ hk => hk.1.2)⟩, ⟨by repeat (first | (with_reducible first | exact HB.out | apply below_alloc | apply pw_below_drewN | apply below_drew1) | exact HB.out)⟩⟩
        · rw [if_neg c22] at H
          have c22b0 : decide (0 < t268) = false := decide_eq_false c22
          clear c22
          by_cases c23 : t266 < (-1)
          · rw [if_pos c23] at H
            have c23b0 : decide (t266 < (-1)) = true := decide_eq_true c23
            clear c23
            have H' := Aside0.mk H
            clear H
            go_wp2
            go_meet
            case rel => exact ⟨_, (true), (by first | rfl | (simp; done) | (simp [*]; done)), H', ⟨by first | omega | exact Nat.le_refl _⟩, ⟨by (with_reducible repeat (first | apply Kd.R_alloc | apply Kd.R_drewN | apply Kd.R_drew)); exact Kd.R_mono HO259.out (fun _ hk => hk.1.2)⟩, ⟨by (with_reducible repeat (first | apply Kd.R_alloc | apply Kd.R_drewN | apply Kd.R_drew)); exact Kd.R_mono HO262.out (fun _ hk => hk.1.2)⟩, ⟨by repeat (first | (with_reducible first | exact HB.out | apply below_alloc | apply pw_below_drewN | apply below_drew1) | exact HB.out)⟩⟩
          · rw [if_neg c23] at H
            have c23b0 : decide (t266 < (-1)) = false := decide_eq_false c23
            clear c23
            have H' := Aside0.mk H
            clear H
            go_wp2
            go_meet
            case rel => exact ⟨_, (decide (t266 > 1)), (by first | rfl | (simp; done) | (simp [*]; done)), H', ⟨by first | omega | exact Nat.le_refl _⟩, ⟨by (with_reducible repeat (first | apply Kd.R_alloc | apply Kd.R_drewN | apply Kd.R_drew)); exact Kd.R_mono HO259.out (fun _ hk => hk.1.2)⟩, ⟨by (with_reducible repeat (first | apply Kd.R_alloc | apply Kd.R_drewN | apply Kd.R_drew)); exact Kd.R_mono HO262.out (fun _ hk => hk.1.2)⟩, ⟨by repeat (first | (with_reducible first | exact HB.out | apply below_alloc | apply pw_below_drewN | apply below_drew1) | exact HB.out)⟩⟩
      · rw [if_neg c21] at H
        have c21b0 : decide (t267 ≤ 0) = false := decide_eq_false c21
        clear c21
        by_cases c24 : t266 < (-1)
        · rw [if_pos c24] at H
          have c24b0 : decide (t266 < (-1)) = true := decide_eq_true c24
          clear c24
          have H' := Aside0.mk H
          clear H
          go_wp2
          go_meet
          case rel => exact ⟨_, (true), (by first | rfl | (simp; done) | (simp [*]; done)), H', ⟨by first | omega | exact Nat.le_refl _⟩, ⟨by (with_reducible repeat (first | apply Kd.R_alloc | apply Kd.R_drewN | apply Kd.R_drew)); exact Kd.R_mono HO259.out (fun _ hk => hk.1.2)⟩, ⟨by (with_reducible repeat (first | apply Kd.R_alloc | apply Kd.R_drewN | apply Kd.R_drew)); exact Kd.R_mono HO262.out (fun _ hk => hk.1.2)⟩, ⟨by repeat (first | (with_reducible first | exact HB.out | apply below_alloc | apply pw_below_drewN | apply below_drew1) | exact HB.out)⟩⟩
        · rw [if_neg c24] at H
          have c24b0 : decide (t266 < (-1)) = false := decide_eq_false c24
          clear c24
          have H' := Aside0.mk H
          clear H
          go_wp2
          go_meet
          case rel => exact ⟨_, (decide (t266 > 1)), (by first | rfl | (simp; done) | (simp [*]; done)), H', ⟨by first | omega | exact Nat.le_refl _⟩, ⟨by (with_reducible repeat (first | apply Kd.R_alloc | apply Kd.R_drewN | apply Kd.R_drew)); exact Kd.R_mono HO259.out (fun _ hk => hk.1.2)⟩, ⟨by (with_reducible repeat (first | apply Kd.R_alloc | apply Kd.R_drewN | apply Kd.R_drew)); exact Kd.R_mono HO262.out (fun _ hk => hk.1.2)⟩, ⟨by repeat (first | (with_reducible first | exact HB.out | apply below_alloc | apply pw_below_drewN | apply below_drew1) | exact HB.out)⟩⟩
    · rw [if_neg c20] at H
      have c20b0 : decide (t266 ≤ 0) = false := decide_eq_false c20
      clear c20
      (first | rw [c20b0] | (simp only [i64_w, i32_w]; rw [c20b0]) | skip)
      by_cases c25 : t266 < (-1)
      · rw [if_pos c25] at H
        have c25b0 : decide (t266 < (-1)) = true := decide_eq_true c25
        clear c25
        have H' := Aside0.mk H
        clear H
        go_wp2
        go_meet
        case rel => exact ⟨_, (true), (by first | rfl | (simp; done) | (simp [*]; done)), H', ⟨by first | omega | exact Nat.le_refl _⟩, ⟨by (with_reducible repeat (first | apply Kd.R_alloc | apply Kd.R_drewN | apply Kd.R_drew)); exact Kd.R_mono HO259.out (fun _ hk => hk.1.2)⟩, ⟨by (with_reducible repeat (first | apply Kd.R_alloc | apply Kd.R_drewN | apply Kd.R_drew)); exact Kd.R_mono HO262.out (fun _ hk => hk.1.2)⟩, ⟨by repeat (first | (with_reducible first | exact HB.out | apply below_alloc | apply pw_below_drewN | apply below_drew1) | exact HB.out)⟩⟩
      · rw [if_neg c25] at H
        have c25b0 : decide (t266 < (-1)) = false := decide_eq_false c25
        clear c25
        have H' := Aside0.mk H
        clear H
        go_wp2
        go_meet
        case rel => exact ⟨_, (decide (t266 > 1)), (by first | rfl | (simp; done) | (simp [*]; done)), H', ⟨by first | omega | exact Nat.le_refl _⟩, ⟨by (with_reducible repeat (first | apply Kd.R_alloc | apply Kd.R_drewN | apply Kd.R_drew)); exact Kd.R_mono HO259.out (fun _ hk => hk.1.2)⟩, ⟨by (with_reducible repeat (first | apply Kd.R_alloc | apply Kd.R_drewN | apply Kd.R_drew)); exact Kd.R_mono HO262.out (fun _ hk => hk.1.2)⟩, ⟨by repeat (first | (with_reducible first | exact HB.out | apply below_alloc | apply pw_below_drewN | apply below_drew1) | exact HB.out)⟩⟩
  case rest =>
    clear HC10
    try clear c1
    try clear c2
    try clear p2
    try clear c5
    try clear c15
    try clear c17
    try clear c20
    try clear c20b0
    try clear c21
    try clear c21b0
    try clear c22
    try clear c22b0
    try clear c23
    try clear c23b0
    try clear c24
    try clear c24b0
    try clear c25
    try clear c25b0
    obtain ⟨kq, x46_9, rfl, HA, HJ9, HO_7, HO_8, HB⟩ := hcut
    cases kq with
    | zero => exact absurd HA.out (by simp [orthoepylaw03_Utf16Orders.j0])
    | succ kj9 =>
      have H := HA.out
      clear HA
      simp only [orthoepylaw03_Utf16Orders.j0] at H
      by_cases c26 : x46_9 = true
      · subst c26
        have H1 : (some false) = some r := by rw [if_pos rfl] at H; exact H
        clear H
        have H := H1
        clear H1
        obtain rfl := Option.some.inj H
        exact absurd hT_.out (by decide)
      · replace c26 := Bool.eq_false_iff.mpr c26
        subst c26
        have H1 : ((some (([] : List Int) : List Int)).bind fun y269 => (if y269.length + t257.length < 35184372088832 then ((some (y269 ++ t257 : List Int)).bind fun y272 => (if y272.length + t260.length < 35184372088832 then ((utf16_Compare.f kj9 t260 t257).bind fun t278 => (if t266 = (wrap64 (-t278)) then ((orthoepyref07_Same.f kj9 t257 t260).bind fun t279 => (if ((t266 == 0) == t279) = true then ((utf16_Compare.f kj9 t257 t257).bind fun t280 => (if t280 = 0 then (if (t260.length : Int) = 0 then ((orthoepylaw03_awake.f).bind fun t281 => (some t281)) else ((utf16_Compare.f kj9 t257 (y272 ++ t260)).bind fun t282 => (if t282 = (-1) then ((orthoepylaw03_awake.f).bind fun t283 => (some t283)) else (some false)))) else (some false))) else (some false))) else (some false))) else (none))) else (none))) = some r := by rw [if_neg (show ¬ (false = true) by decide)] at H; exact H
        clear H
        have H := H1
        clear H1
        obtain ⟨y269, hy269⟩ : ∃ y_ : List Int, y_ = (([] : List Int)) := ⟨_, rfl⟩
        replace H : (if y269.length + t257.length < 35184372088832 then ((some (y269 ++ t257 : List Int)).bind fun y272 => (if y272.length + t260.length < 35184372088832 then ((utf16_Compare.f kj9 t260 t257).bind fun t278 => (if t266 = (wrap64 (-t278)) then ((orthoepyref07_Same.f kj9 t257 t260).bind fun t279 => (if ((t266 == 0) == t279) = true then ((utf16_Compare.f kj9 t257 t257).bind fun t280 => (if t280 = 0 then (if (t260.length : Int) = 0 then ((orthoepylaw03_awake.f).bind fun t281 => (some t281)) else ((utf16_Compare.f kj9 t257 (y272 ++ t260)).bind fun t282 => (if t282 = (-1) then ((orthoepylaw03_awake.f).bind fun t283 => (some t283)) else (some false)))) else (some false))) else (some false))) else (some false))) else (none))) else (none)) = some r := by first | (rw [hy269]; with_reducible exact H) | (have H2_ := (Option.bind_some _ _).symm.trans H; rw [hy269]; with_reducible exact H2_) | (have H2_ := (Option.bind_some _ _).symm.trans H; with_reducible exact H2_) | with_reducible exact H | (rw [hy269]; exact H) | exact H
        have Ny269 := Aside0.mk hy269
        clear hy269
        by_cases c27 : y269.length + t257.length < 35184372088832
        · rw [if_pos c27] at H
          have LMc27 := Aside0.mk c27
          clear c27
          obtain ⟨y272, hy272⟩ : ∃ y_ : List Int, y_ = (y269 ++ t257) := ⟨_, rfl⟩
          replace H : (if y272.length + t260.length < 35184372088832 then ((utf16_Compare.f kj9 t260 t257).bind fun t278 => (if t266 = (wrap64 (-t278)) then ((orthoepyref07_Same.f kj9 t257 t260).bind fun t279 => (if ((t266 == 0) == t279) = true then ((utf16_Compare.f kj9 t257 t257).bind fun t280 => (if t280 = 0 then (if (t260.length : Int) = 0 then ((orthoepylaw03_awake.f).bind fun t281 => (some t281)) else ((utf16_Compare.f kj9 t257 (y272 ++ t260)).bind fun t282 => (if t282 = (-1) then ((orthoepylaw03_awake.f).bind fun t283 => (some t283)) else (some false)))) else (some false))) else (some false))) else (some false))) else (none)) = some r := by first | (rw [hy272]; with_reducible exact H) | (have H2_ := (Option.bind_some _ _).symm.trans H; rw [hy272]; with_reducible exact H2_) | (have H2_ := (Option.bind_some _ _).symm.trans H; with_reducible exact H2_) | with_reducible exact H | (rw [hy272]; exact H) | exact H
          have Ny272 := Aside0.mk hy272
          clear hy272
          by_cases c28 : y272.length + t260.length < 35184372088832
          · rw [if_pos c28] at H
            have LMc28 := Aside0.mk c28
            clear c28
            obtain ⟨y275, hy275⟩ : ∃ y_ : List Int, y_ = (y272 ++ t260) := ⟨_, rfl⟩
            replace H : ((utf16_Compare.f kj9 t260 t257).bind fun t278 => (if t266 = (wrap64 (-t278)) then ((orthoepyref07_Same.f kj9 t257 t260).bind fun t279 => (if ((t266 == 0) == t279) = true then ((utf16_Compare.f kj9 t257 t257).bind fun t280 => (if t280 = 0 then (if (t260.length : Int) = 0 then ((orthoepylaw03_awake.f).bind fun t281 => (some t281)) else ((utf16_Compare.f kj9 t257 y275).bind fun t282 => (if t282 = (-1) then ((orthoepylaw03_awake.f).bind fun t283 => (some t283)) else (some false)))) else (some false))) else (some false))) else (some false))) = some r := by first | (rw [hy275]; with_reducible exact H) | (have H2_ := (Option.bind_some _ _).symm.trans H; rw [hy275]; with_reducible exact H2_) | (have H2_ := (Option.bind_some _ _).symm.trans H; with_reducible exact H2_) | with_reducible exact H | (rw [hy275]; exact H) | exact H
            have Ny275 := Aside0.mk hy275
            clear hy275
            replace H := Option.bind_eq_some_iff.mp H
            obtain ⟨t278, A290, H⟩ := H
            replace H : (if t266 = (wrap64 (-t278)) then ((orthoepyref07_Same.f kj9 t257 t260).bind fun t279 => (if ((t266 == 0) == t279) = true then ((utf16_Compare.f kj9 t257 t257).bind fun t280 => (if t280 = 0 then (if (t260.length : Int) = 0 then ((orthoepylaw03_awake.f).bind fun t281 => (some t281)) else ((utf16_Compare.f kj9 t257 y275).bind fun t282 => (if t282 = (-1) then ((orthoepylaw03_awake.f).bind fun t283 => (some t283)) else (some false)))) else (some false))) else (some false))) else (some false)) = some r := H
            have A29 := Aside0.mk A290
            clear A290
            by_cases c30 : t266 = (wrap64 (-t278))
            · rw [if_pos c30] at H
              have c30b0 : (t266 == (wrap64 (-t278))) = true := beq_iff_eq.mpr c30
              have c30b1 : (t266 != (wrap64 (-t278))) = false := bne_eq_false_iff_eq.mpr c30
              clear c30
              replace H := Option.bind_eq_some_iff.mp H
              obtain ⟨t279, A310, H⟩ := H
              replace H : (if ((t266 == 0) == t279) = true then ((utf16_Compare.f kj9 t257 t257).bind fun t280 => (if t280 = 0 then (if (t260.length : Int) = 0 then ((orthoepylaw03_awake.f).bind fun t281 => (some t281)) else ((utf16_Compare.f kj9 t257 y275).bind fun t282 => (if t282 = (-1) then ((orthoepylaw03_awake.f).bind fun t283 => (some t283)) else (some false)))) else (some false))) else (some false)) = some r := H
              have A31 := Aside0.mk A310
              clear A310
              by_cases c32 : ((t266 == 0) == t279) = true
              · rw [if_pos c32] at H
                have c32b0 : ((t266 == 0) == t279) = true := c32
                (try (have c32b1 : decide ((t266 == 0) = t279) = true := by simpa using c32))
                (try (have c32b2 : ((t266 == 0) == t279) = true := by simpa using c32))
                clear c32
                replace H := Option.bind_eq_some_iff.mp H
                obtain ⟨t280, A330, H⟩ := H
                replace H : (if t280 = 0 then (if (t260.length : Int) = 0 then ((orthoepylaw03_awake.f).bind fun t281 => (some t281)) else ((utf16_Compare.f kj9 t257 y275).bind fun t282 => (if t282 = (-1) then ((orthoepylaw03_awake.f).bind fun t283 => (some t283)) else (some false)))) else (some false)) = some r := H
                have A33 := Aside0.mk A330
                clear A330
                by_cases c34 : t280 = 0
                · rw [if_pos c34] at H
                  have c34b0 : (t280 == 0) = true := beq_iff_eq.mpr c34
                  have c34b1 : (t280 != 0) = false := bne_eq_false_iff_eq.mpr c34
                  clear c34
                  by_cases c35 : (t260.length : Int) = 0
                  · rw [if_pos c35] at H
                    have c35b0 : ((t260.length : Int) == 0) = true := beq_iff_eq.mpr c35
                    have c35b1 : ((t260.length : Int) != 0) = false := bne_eq_false_iff_eq.mpr c35
                    clear c35
                    replace H := Option.bind_eq_some_iff.mp H
                    obtain ⟨t281, A360, H⟩ := H
                    replace H : (some t281) = some r := H
                    have A36 := Aside0.mk A360
                    clear A360
                    obtain rfl := Option.some.inj H
                    go_wp2_with (first | ((with_reducible refine gate_dst (N := 47) rfl ?_); (try (refine gate_guard (by rfl) ?_; dsimp only)); refine Kd.R_lit (Kd.int .i32) _ 21 ?hg (N := 47) ?hd (xs := ([] : List Int)) (inner := []) (ok := fun _ => True) (okp := fun _ => True) ?hr ?hp (fun _ hk => hk) trivial (Below.refl _ _) (Nat.le_refl _) (by simp) ?_; (case hd => rfl); (case hg => rfl); (case hr => first | (go_simp; done) | (go_simp; rfl)); (case hp => exact (Reps.none _ _)); intro v270 w37 ho38 hb hg_ hnew_; clear hg_ hnew_; (first | rw [← Ny269.out] at ho38 | (simp only [Int.reduceToNat] at ho38; rw [← Ny269.out] at ho38)); have n0_ := Aside0.mk (Kd.R_elder' (by (with_reducible repeat (first | apply Kd.R_alloc | apply Kd.R_drewN | apply Kd.R_drew)); exact HO_7.out) (Kd.R_base ho38) hb); have n1_ := Aside0.mk (Kd.R_elder' (by (with_reducible repeat (first | apply Kd.R_alloc | apply Kd.R_drewN | apply Kd.R_drew)); exact HO_8.out) (Kd.R_base ho38) hb); have n2_ := Aside0.mk (Kd.R_lower (Kd.R_new' (Kd.R_new' ho38 (Kd.R_lt (by (with_reducible repeat (first | apply Kd.R_alloc | apply Kd.R_drewN | apply Kd.R_drew)); exact HO_7.out))) (Kd.R_lt (by (with_reducible repeat (first | apply Kd.R_alloc | apply Kd.R_drewN | apply Kd.R_drew)); exact HO_8.out))) (below_size (by repeat (first | (with_reducible first | exact HB.out | apply below_alloc | apply pw_below_drewN | apply below_drew1) | exact HB.out)))); have n3_ := Aside0.mk (below_step (by repeat (first | (with_reducible first | exact HB.out | apply below_alloc | apply pw_below_drewN | apply below_drew1) | exact HB.out)) hb); clear HO_7; clear HO_8; clear HB; have HO_7 := n0_; have HO_8 := n1_; have HO271 := n2_; have HB := n3_; clear n0_ n1_ n2_ n3_; clear hb ho38) | ((with_reducible refine gate_builtin (b := .append) (xs := #[.tmp 47, .tmp 48]) rfl ?_); (try (refine gate_guard (by rfl) ?_; dsimp only)); at_builtin; refine Kd.R_append_rows (Kd.int .i32) (w0 := w) w.heap.size rfl (.tmp 47) (.tmp 48) 22 21 (.int .i32 0) 4 rfl Try.underlying22 info21 rfl (by decide) (by omega) v270 y269 t257 _ _ _ (fun k_ => some k_ ≠ (.slice Ao14 t257.length co14 : Value).ownBlock ∧ some k_ ≠ (.slice Ao15 t260.length co15 : Value).ownBlock) (fun _ => False) rfl rfl ?aO ?aR (fun _ _ h => h) (fun _ h => h.elim) ?aF ?aB ?aS ?aL ?_; (case aR => repeat (first | exact (Kd.R_reads' HO_7.out).2.2 | (with_reducible refine Kd.C_alloc ?_ _) | (with_reducible refine Kd.C_drewN ?_ _) | (with_reducible refine Kd.C_drew ?_))); (case aB => exact (by repeat (first | (with_reducible first | exact HB.out | apply below_alloc | apply pw_below_drewN | apply below_drew1) | exact HB.out))); (case aF => exact (fun k_ hk => ⟨Kd.fresh' (Kd.R_lt (by (with_reducible repeat (first | apply Kd.R_alloc | apply Kd.R_drewN | apply Kd.R_drew)); exact HO_7.out)) k_ hk, Kd.fresh' (Kd.R_lt (by (with_reducible repeat (first | apply Kd.R_alloc | apply Kd.R_drewN | apply Kd.R_drew)); exact HO_8.out)) k_ hk⟩)); (case aO => exact (by (with_reducible repeat (first | apply Kd.R_alloc | apply Kd.R_drewN | apply Kd.R_drew)); exact Kd.R_mono HO271.out (fun _ hk => ⟨hk.1.2, hk.2⟩))); (case aS => exact (below_size (by repeat (first | (with_reducible first | exact HB.out | apply below_alloc | apply pw_below_drewN | apply below_drew1) | exact HB.out)))); (case aL => have := LMc27.out; omega); intro v273 w39 ho hb hg hat; rw [← Ny272.out] at ho; have n0_ := Aside0.mk (Kd.R_after (ok := (fun k_ => some k_ ≠ (.slice Ao15 t260.length co15 : Value).ownBlock)) (by (with_reducible repeat (first | apply Kd.R_alloc | apply Kd.R_drewN | apply Kd.R_drew)); exact HO_7.out) hg hat); have n1_ := Aside0.mk (Kd.R_after (ok := (fun k_ => some k_ ≠ (.slice Ao14 t257.length co14 : Value).ownBlock)) (by (with_reducible repeat (first | apply Kd.R_alloc | apply Kd.R_drewN | apply Kd.R_drew)); exact HO_8.out) hg hat); have n2_ := Aside0.mk (hb); have n3_ := Aside0.mk (ho); clear HO_7; clear HO_8; clear HB; clear HO271; have HO_7 := n0_; have HO_8 := n1_; have HB := n2_; have HO274 := n3_; clear n0_ n1_ n2_ n3_; clear ho hb hg hat) | ((with_reducible refine gate_builtin (b := .append) (xs := #[.tmp 49, .tmp 50]) rfl ?_); (try (refine gate_guard (by rfl) ?_; dsimp only)); at_builtin; refine Kd.R_append_rows (Kd.int .i32) (w0 := w) w.heap.size rfl (.tmp 49) (.tmp 50) 22 21 (.int .i32 0) 4 rfl Try.underlying22 info21 rfl (by decide) (by omega) v273 y272 t260 _ _ _ (fun k_ => some k_ ≠ (.slice Ao14 t257.length co14 : Value).ownBlock ∧ some k_ ≠ (.slice Ao15 t260.length co15 : Value).ownBlock) (fun _ => False) rfl rfl ?aO ?aR (fun _ _ h => h) (fun _ h => h.elim) ?aF ?aB ?aS ?aL ?_; (case aR => repeat (first | exact (Kd.R_reads' HO_8.out).2.2 | (with_reducible refine Kd.C_alloc ?_ _) | (with_reducible refine Kd.C_drewN ?_ _) | (with_reducible refine Kd.C_drew ?_))); (case aB => exact (by repeat (first | (with_reducible first | exact HB.out | apply below_alloc | apply pw_below_drewN | apply below_drew1) | exact HB.out))); (case aF => exact (fun k_ hk => ⟨Kd.fresh' (Kd.R_lt (by (with_reducible repeat (first | apply Kd.R_alloc | apply Kd.R_drewN | apply Kd.R_drew)); exact HO_7.out)) k_ hk, Kd.fresh' (Kd.R_lt (by (with_reducible repeat (first | apply Kd.R_alloc | apply Kd.R_drewN | apply Kd.R_drew)); exact HO_8.out)) k_ hk⟩)); (case aO => exact (by (with_reducible repeat (first | apply Kd.R_alloc | apply Kd.R_drewN | apply Kd.R_drew)); exact HO274.out)); (case aS => exact (below_size (by repeat (first | (with_reducible first | exact HB.out | apply below_alloc | apply pw_below_drewN | apply below_drew1) | exact HB.out)))); (case aL => have := LMc28.out; omega); intro v276 w40 ho hb hg hat; rw [← Ny275.out] at ho; have n0_ := Aside0.mk (Kd.R_after (ok := (fun k_ => some k_ ≠ (.slice Ao15 t260.length co15 : Value).ownBlock)) (by (with_reducible repeat (first | apply Kd.R_alloc | apply Kd.R_drewN | apply Kd.R_drew)); exact HO_7.out) hg hat); have n1_ := Aside0.mk (Kd.R_after (ok := (fun k_ => some k_ ≠ (.slice Ao14 t257.length co14 : Value).ownBlock)) (by (with_reducible repeat (first | apply Kd.R_alloc | apply Kd.R_drewN | apply Kd.R_drew)); exact HO_8.out) hg hat); have n2_ := Aside0.mk (hb); have n3_ := Aside0.mk (ho); clear HO_7; clear HO_8; clear HB; clear HO274; have HO_7 := n0_; have HO_8 := n1_; have HB := n2_; have HO277 := n3_; clear n0_ n1_ n2_ n3_; clear ho hb hg hat) | ((with_reducible refine gate_callee (f := 15) rfl ?_); refine goesL_ (some 55) rfl rfl Try.func15 (by kernel_rfl) rfl #[.slice Ao15 t260.length co15, .slice Ao14 t257.length co14] rfl (by (try simp only [List.map_toArray, List.map_cons, List.map_nil]); first | done | rfl | (simp only [List.length_drop, List.length_take]; rfl)) ?_; (with_reducible refine (utf16_Compare.calls kj9 _ _ t260 _ _ t257 t278 _ ?side1 ?side2 ?side3 ?side4 A29.out).mono ?_); (case side1 => repeat (first | exact (Kd.R_reads' HO_8.out).2.2 | (with_reducible refine Kd.C_alloc ?_ _) | (with_reducible refine Kd.C_drewN ?_ _) | (with_reducible refine Kd.C_drew ?_))); (case side2 => exact (Kd.R_reads' HO_8.out).2.1); (case side3 => repeat (first | exact (Kd.R_reads' HO_7.out).2.2 | (with_reducible refine Kd.C_alloc ?_ _) | (with_reducible refine Kd.C_drewN ?_ _) | (with_reducible refine Kd.C_drew ?_))); (case side4 => exact (Kd.R_reads' HO_7.out).2.1); rintro e w41 ⟨rfl, hb⟩; refine ⟨_, rfl, ?_⟩; have n0_ := Aside0.mk (Kd.R_below (by (with_reducible repeat (first | apply Kd.R_alloc | apply Kd.R_drewN | apply Kd.R_drew)); exact HO_7.out) hb); have n1_ := Aside0.mk (Kd.R_below (by (with_reducible repeat (first | apply Kd.R_alloc | apply Kd.R_drewN | apply Kd.R_drew)); exact HO_8.out) hb); have n2_ := Aside0.mk (Kd.R_below (by (with_reducible repeat (first | apply Kd.R_alloc | apply Kd.R_drewN | apply Kd.R_drew)); exact HO277.out) hb); have n3_ := Aside0.mk (below_step (by repeat (first | (with_reducible first | exact HB.out | apply below_alloc | apply pw_below_drewN | apply below_drew1) | exact HB.out)) hb); clear HO_7; clear HO_8; clear HO277; clear HB; have HO_7 := n0_; have HO_8 := n1_; have HO277 := n2_; have HB := n3_; clear n0_ n1_ n2_ n3_; (try clear hb); (try clear hb2); (try clear hk); (try clear hi)) | (go_at_call 14; (with_reducible refine (orthoepyref07_Same.calls kj9 _ _ t257 _ _ t260 t279 _ ?side1 ?side2 ?side3 ?side4 A31.out).mono ?_); (case side1 => repeat (first | exact (Kd.R_reads' HO_7.out).2.2 | (with_reducible refine Kd.C_alloc ?_ _) | (with_reducible refine Kd.C_drewN ?_ _) | (with_reducible refine Kd.C_drew ?_))); (case side2 => exact (Kd.R_reads' HO_7.out).2.1); (case side3 => repeat (first | exact (Kd.R_reads' HO_8.out).2.2 | (with_reducible refine Kd.C_alloc ?_ _) | (with_reducible refine Kd.C_drewN ?_ _) | (with_reducible refine Kd.C_drew ?_))); (case side4 => exact (Kd.R_reads' HO_8.out).2.1); rintro e w' ⟨rfl, ⟨nd, rfl⟩⟩) | (go_at_call 15; (with_reducible refine (utf16_Compare.calls kj9 _ _ t257 _ _ t257 t280 _ ?side1 ?side2 ?side3 ?side4 A33.out).mono ?_); (case side1 => repeat (first | exact (Kd.R_reads' HO_7.out).2.2 | (with_reducible refine Kd.C_alloc ?_ _) | (with_reducible refine Kd.C_drewN ?_ _) | (with_reducible refine Kd.C_drew ?_))); (case side2 => exact (Kd.R_reads' HO_7.out).2.1); (case side3 => repeat (first | exact (Kd.R_reads' HO_7.out).2.2 | (with_reducible refine Kd.C_alloc ?_ _) | (with_reducible refine Kd.C_drewN ?_ _) | (with_reducible refine Kd.C_drew ?_))); (case side4 => exact (Kd.R_reads' HO_7.out).2.1); rintro e w42 ⟨rfl, hb⟩; have n0_ := Aside0.mk (Kd.R_below (by (with_reducible repeat (first | apply Kd.R_alloc | apply Kd.R_drewN | apply Kd.R_drew)); exact HO_7.out) hb); have n1_ := Aside0.mk (Kd.R_below (by (with_reducible repeat (first | apply Kd.R_alloc | apply Kd.R_drewN | apply Kd.R_drew)); exact HO_8.out) hb); have n2_ := Aside0.mk (Kd.R_below (by (with_reducible repeat (first | apply Kd.R_alloc | apply Kd.R_drewN | apply Kd.R_drew)); exact HO277.out) hb); have n3_ := Aside0.mk (below_step (by repeat (first | (with_reducible first | exact HB.out | apply below_alloc | apply pw_below_drewN | apply below_drew1) | exact HB.out)) hb); clear HO_7; clear HO_8; clear HO277; clear HB; have HO_7 := n0_; have HO_8 := n1_; have HO277 := n2_; have HB := n3_; clear n0_ n1_ n2_ n3_; (try clear hb); (try clear hb2); (try clear hk); (try clear hi)) | (go_at_call 8; (with_reducible refine (orthoepylaw03_awake.calls  t281 _ A36.out).mono ?_); rintro e w43 ⟨rfl, hb⟩; have n0_ := Aside0.mk (Kd.R_below (by (with_reducible repeat (first | apply Kd.R_alloc | apply Kd.R_drewN | apply Kd.R_drew)); exact HO_7.out) hb); have n1_ := Aside0.mk (Kd.R_below (by (with_reducible repeat (first | apply Kd.R_alloc | apply Kd.R_drewN | apply Kd.R_drew)); exact HO_8.out) hb); have n2_ := Aside0.mk (Kd.R_below (by (with_reducible repeat (first | apply Kd.R_alloc | apply Kd.R_drewN | apply Kd.R_drew)); exact HO277.out) hb); have n3_ := Aside0.mk (below_step (by repeat (first | (with_reducible first | exact HB.out | apply below_alloc | apply pw_below_drewN | apply below_drew1) | exact HB.out)) hb); clear HO_7; clear HO_8; clear HO277; clear HB; have HO_7 := n0_; have HO_8 := n1_; have HO277 := n2_; have HB := n3_; clear n0_ n1_ n2_ n3_; (try clear hb); (try clear hb2); (try clear hk); (try clear hi)))
                    go_ret
                    exact ⟨by first | rfl | (simp [errW_none, errW_some] <;> rfl) | (simp [*, errW_none, errW_some] <;> rfl), by repeat (first | (with_reducible first | exact HB.out | apply below_alloc | apply pw_below_drewN | apply below_drew1) | exact HB.out)⟩
                  · rw [if_neg c35] at H
                    have c35b0 : ((t260.length : Int) == 0) = false := beq_eq_false_iff_ne.mpr c35
                    have c35b1 : ((t260.length : Int) != 0) = true := bne_iff_ne.mpr c35
                    have c35b2 : ¬ (t260 = []) := fun h_ => c35 (by rw [h_]; rfl)
                    replace H := Option.bind_eq_some_iff.mp H
                    obtain ⟨t282, A440, H⟩ := H
                    replace H : (if t282 = (-1) then ((orthoepylaw03_awake.f).bind fun t283 => (some t283)) else (some false)) = some r := H
                    have A44 := Aside0.mk A440
                    clear A440
                    by_cases c45 : t282 = (-1)
                    · rw [if_pos c45] at H
                      have c45b0 : (t282 == (-1)) = true := beq_iff_eq.mpr c45
                      have c45b1 : (t282 != (-1)) = false := bne_eq_false_iff_eq.mpr c45
                      clear c45
                      replace H := Option.bind_eq_some_iff.mp H
                      obtain ⟨t283, A460, H⟩ := H
                      replace H : (some t283) = some r := H
                      have A46 := Aside0.mk A460
                      clear A460
                      obtain rfl := Option.some.inj H
                      go_wp2_with (first | ((with_reducible refine gate_dst (N := 47) rfl ?_); (try (refine gate_guard (by rfl) ?_; dsimp only)); refine Kd.R_lit (Kd.int .i32) _ 21 ?hg (N := 47) ?hd (xs := ([] : List Int)) (inner := []) (ok := fun _ => True) (okp := fun _ => True) ?hr ?hp (fun _ hk => hk) trivial (Below.refl _ _) (Nat.le_refl _) (by simp) ?_; (case hd => rfl); (case hg => rfl); (case hr => first | (go_simp; done) | (go_simp; rfl)); (case hp => exact (Reps.none _ _)); intro v270 w47 ho48 hb hg_ hnew_; clear hg_ hnew_; (first | rw [← Ny269.out] at ho48 | (simp only [Int.reduceToNat] at ho48; rw [← Ny269.out] at ho48)); have n0_ := Aside0.mk (Kd.R_elder' (by (with_reducible repeat (first | apply Kd.R_alloc | apply Kd.R_drewN | apply Kd.R_drew)); exact HO_7.out) (Kd.R_base ho48) hb); have n1_ := Aside0.mk (Kd.R_elder' (by (with_reducible repeat (first | apply Kd.R_alloc | apply Kd.R_drewN | apply Kd.R_drew)); exact HO_8.out) (Kd.R_base ho48) hb); have n2_ := Aside0.mk (Kd.R_lower (Kd.R_new' (Kd.R_new' ho48 (Kd.R_lt (by (with_reducible repeat (first | apply Kd.R_alloc | apply Kd.R_drewN | apply Kd.R_drew)); exact HO_7.out))) (Kd.R_lt (by (with_reducible repeat (first | apply Kd.R_alloc | apply Kd.R_drewN | apply Kd.R_drew)); exact HO_8.out))) (below_size (by repeat (first | (with_reducible first | exact HB.out | apply below_alloc | apply pw_below_drewN | apply below_drew1) | exact HB.out)))); have n3_ := Aside0.mk (below_step (by repeat (first | (with_reducible first | exact HB.out | apply below_alloc | apply pw_below_drewN | apply below_drew1) | exact HB.out)) hb); clear HO_7; clear HO_8; clear HB; have HO_7 := n0_; have HO_8 := n1_; have HO271 := n2_; have HB := n3_; clear n0_ n1_ n2_ n3_; clear hb ho48) | ((with_reducible refine gate_builtin (b := .append) (xs := #[.tmp 47, .tmp 48]) rfl ?_); (try (refine gate_guard (by rfl) ?_; dsimp only)); at_builtin; refine Kd.R_append_rows (Kd.int .i32) (w0 := w) w.heap.size rfl (.tmp 47) (.tmp 48) 22 21 (.int .i32 0) 4 rfl Try.underlying22 info21 rfl (by decide) (by omega) v270 y269 t257 _ _ _ (fun k_ => some k_ ≠ (.slice Ao14 t257.length co14 : Value).ownBlock ∧ some k_ ≠ (.slice Ao15 t260.length co15 : Value).ownBlock) (fun _ => False) rfl rfl ?aO ?aR (fun _ _ h => h) (fun _ h => h.elim) ?aF ?aB ?aS ?aL ?_; (case aR => repeat (first | exact (Kd.R_reads' HO_7.out).2.2 | (with_reducible refine Kd.C_alloc ?_ _) | (with_reducible refine Kd.C_drewN ?_ _) | (with_reducible refine Kd.C_drew ?_))); (case aB => exact (by repeat (first | (with_reducible first | exact HB.out | apply below_alloc | apply pw_below_drewN | apply below_drew1) | exact HB.out))); (case aF => exact (fun k_ hk => ⟨Kd.fresh' (Kd.R_lt (by (with_reducible repeat (first | apply Kd.R_alloc | apply Kd.R_drewN | apply Kd.R_drew)); exact HO_7.out)) k_ hk, Kd.fresh' (Kd.R_lt (by (with_reducible repeat (first | apply Kd.R_alloc | apply Kd.R_drewN | apply Kd.R_drew)); exact HO_8.out)) k_ hk⟩)); (case aO => exact (by (with_reducible repeat (first | apply Kd.R_alloc | apply Kd.R_drewN | apply Kd.R_drew)); exact Kd.R_mono HO271.out (fun _ hk => ⟨hk.1.2, hk.2⟩))); (case aS => exact (below_size (by repeat (first | (with_reducible first | exact HB.out | apply below_alloc | apply pw_below_drewN | apply below_drew1) | exact HB.out)))); (case aL => have := LMc27.out; omega); intro v273 w49 ho hb hg hat; rw [← Ny272.out] at ho; have n0_ := Aside0.mk (Kd.R_after (ok := (fun k_ => some k_ ≠ (.slice Ao15 t260.length co15 : Value).ownBlock)) (by (with_reducible repeat (first | apply Kd.R_alloc | apply Kd.R_drewN | apply Kd.R_drew)); exact HO_7.out) hg hat); have n1_ := Aside0.mk (Kd.R_after (ok := (fun k_ => some k_ ≠ (.slice Ao14 t257.length co14 : Value).ownBlock)) (by (with_reducible repeat (first | apply Kd.R_alloc | apply Kd.R_drewN | apply Kd.R_drew)); exact HO_8.out) hg hat); have n2_ := Aside0.mk (hb); have n3_ := Aside0.mk (ho); clear HO_7; clear HO_8; clear HB; clear HO271; have HO_7 := n0_; have HO_8 := n1_; have HB := n2_; have HO274 := n3_; clear n0_ n1_ n2_ n3_; clear ho hb hg hat) | ((with_reducible refine gate_builtin (b := .append) (xs := #[.tmp 49, .tmp 50]) rfl ?_); (try (refine gate_guard (by rfl) ?_; dsimp only)); at_builtin; refine Kd.R_append_rows (Kd.int .i32) (w0 := w) w.heap.size rfl (.tmp 49) (.tmp 50) 22 21 (.int .i32 0) 4 rfl Try.underlying22 info21 rfl (by decide) (by omega) v273 y272 t260 _ _ _ (fun k_ => some k_ ≠ (.slice Ao14 t257.length co14 : Value).ownBlock ∧ some k_ ≠ (.slice Ao15 t260.length co15 : Value).ownBlock) (fun _ => False) rfl rfl ?aO ?aR (fun _ _ h => h) (fun _ h => h.elim) ?aF ?aB ?aS ?aL ?_; (case aR => repeat (first | exact (Kd.R_reads' HO_8.out).2.2 | (with_reducible refine Kd.C_alloc ?_ _) | (with_reducible refine Kd.C_drewN ?_ _) | (with_reducible refine Kd.C_drew ?_))); (case aB => exact (by repeat (first | (with_reducible first | exact HB.out | apply below_alloc | apply pw_below_drewN | apply below_drew1) | exact HB.out))); (case aF => exact (fun k_ hk => ⟨Kd.fresh' (Kd.R_lt (by (with_reducible repeat (first | apply Kd.R_alloc | apply Kd.R_drewN | apply Kd.R_drew)); exact HO_7.out)) k_ hk, Kd.fresh' (Kd.R_lt (by (with_reducible repeat (first | apply Kd.R_alloc | apply Kd.R_drewN | apply Kd.R_drew)); exact HO_8.out)) k_ hk⟩)); (case aO => exact (by (with_reducible repeat (first | apply Kd.R_alloc | apply Kd.R_drewN | apply Kd.R_drew)); exact HO274.out)); (case aS => exact (below_size (by repeat (first | (with_reducible first | exact HB.out | apply below_alloc | apply pw_below_drewN | apply below_drew1) | exact HB.out)))); (case aL => have := LMc28.out; omega); intro v276 w50 ho hb hg hat; rw [← Ny275.out] at ho; have n0_ := Aside0.mk (Kd.R_after (ok := (fun k_ => some k_ ≠ (.slice Ao15 t260.length co15 : Value).ownBlock)) (by (with_reducible repeat (first | apply Kd.R_alloc | apply Kd.R_drewN | apply Kd.R_drew)); exact HO_7.out) hg hat); have n1_ := Aside0.mk (Kd.R_after (ok := (fun k_ => some k_ ≠ (.slice Ao14 t257.length co14 : Value).ownBlock)) (by (with_reducible repeat (first | apply Kd.R_alloc | apply Kd.R_drewN | apply Kd.R_drew)); exact HO_8.out) hg hat); have n2_ := Aside0.mk (hb); have n3_ := Aside0.mk (ho); clear HO_7; clear HO_8; clear HB; clear HO274; have HO_7 := n0_; have HO_8 := n1_; have HB := n2_; have HO277 := n3_; clear n0_ n1_ n2_ n3_; clear ho hb hg hat) | ((with_reducible refine gate_callee (f := 15) rfl ?_); refine goesL_ (some 55) rfl rfl Try.func15 (by kernel_rfl) rfl #[.slice Ao15 t260.length co15, .slice Ao14 t257.length co14] rfl (by (try simp only [List.map_toArray, List.map_cons, List.map_nil]); first | done | rfl | (simp only [List.length_drop, List.length_take]; rfl)) ?_; (with_reducible refine (utf16_Compare.calls kj9 _ _ t260 _ _ t257 t278 _ ?side1 ?side2 ?side3 ?side4 A29.out).mono ?_); (case side1 => repeat (first | exact (Kd.R_reads' HO_8.out).2.2 | (with_reducible refine Kd.C_alloc ?_ _) | (with_reducible refine Kd.C_drewN ?_ _) | (with_reducible refine Kd.C_drew ?_))); (case side2 => exact (Kd.R_reads' HO_8.out).2.1); (case side3 => repeat (first | exact (Kd.R_reads' HO_7.out).2.2 | (with_reducible refine Kd.C_alloc ?_ _) | (with_reducible refine Kd.C_drewN ?_ _) | (with_reducible refine Kd.C_drew ?_))); (case side4 => exact (Kd.R_reads' HO_7.out).2.1); rintro e w51 ⟨rfl, hb⟩; refine ⟨_, rfl, ?_⟩; have n0_ := Aside0.mk (Kd.R_below (by (with_reducible repeat (first | apply Kd.R_alloc | apply Kd.R_drewN | apply Kd.R_drew)); exact HO_7.out) hb); have n1_ := Aside0.mk (Kd.R_below (by (with_reducible repeat (first | apply Kd.R_alloc | apply Kd.R_drewN | apply Kd.R_drew)); exact HO_8.out) hb); have n2_ := Aside0.mk (Kd.R_below (by (with_reducible repeat (first | apply Kd.R_alloc | apply Kd.R_drewN | apply Kd.R_drew)); exact HO277.out) hb); have n3_ := Aside0.mk (below_step (by repeat (first | (with_reducible first | exact HB.out | apply below_alloc | apply pw_below_drewN | apply below_drew1) | exact HB.out)) hb); clear HO_7; clear HO_8; clear HO277; clear HB; have HO_7 := n0_; have HO_8 := n1_; have HO277 := n2_; have HB := n3_; clear n0_ n1_ n2_ n3_; (try clear hb); (try clear hb2); (try clear hk); (try clear hi)) | (go_at_call 14; (with_reducible refine (orthoepyref07_Same.calls kj9 _ _ t257 _ _ t260 t279 _ ?side1 ?side2 ?side3 ?side4 A31.out).mono ?_); (case side1 => repeat (first | exact (Kd.R_reads' HO_7.out).2.2 | (with_reducible refine Kd.C_alloc ?_ _) | (with_reducible refine Kd.C_drewN ?_ _) | (with_reducible refine Kd.C_drew ?_))); (case side2 => exact (Kd.R_reads' HO_7.out).2.1); (case side3 => repeat (first | exact (Kd.R_reads' HO_8.out).2.2 | (with_reducible refine Kd.C_alloc ?_ _) | (with_reducible refine Kd.C_drewN ?_ _) | (with_reducible refine Kd.C_drew ?_))); (case side4 => exact (Kd.R_reads' HO_8.out).2.1); rintro e w' ⟨rfl, ⟨nd, rfl⟩⟩) | (go_at_call 15; (with_reducible refine (utf16_Compare.calls kj9 _ _ t257 _ _ t257 t280 _ ?side1 ?side2 ?side3 ?side4 A33.out).mono ?_); (case side1 => repeat (first | exact (Kd.R_reads' HO_7.out).2.2 | (with_reducible refine Kd.C_alloc ?_ _) | (with_reducible refine Kd.C_drewN ?_ _) | (with_reducible refine Kd.C_drew ?_))); (case side2 => exact (Kd.R_reads' HO_7.out).2.1); (case side3 => repeat (first | exact (Kd.R_reads' HO_7.out).2.2 | (with_reducible refine Kd.C_alloc ?_ _) | (with_reducible refine Kd.C_drewN ?_ _) | (with_reducible refine Kd.C_drew ?_))); (case side4 => exact (Kd.R_reads' HO_7.out).2.1); rintro e w52 ⟨rfl, hb⟩; have n0_ := Aside0.mk (Kd.R_below (by (with_reducible repeat (first | apply Kd.R_alloc | apply Kd.R_drewN | apply Kd.R_drew)); exact HO_7.out) hb); have n1_ := Aside0.mk (Kd.R_below (by (with_reducible repeat (first | apply Kd.R_alloc | apply Kd.R_drewN | apply Kd.R_drew)); exact HO_8.out) hb); have n2_ := Aside0.mk (Kd.R_below (by (with_reducible repeat (first | apply Kd.R_alloc | apply Kd.R_drewN | apply Kd.R_drew)); exact HO277.out) hb); have n3_ := Aside0.mk (below_step (by repeat (first | (with_reducible first | exact HB.out | apply below_alloc | apply pw_below_drewN | apply below_drew1) | exact HB.out)) hb); clear HO_7; clear HO_8; clear HO277; clear HB; have HO_7 := n0_; have HO_8 := n1_; have HO277 := n2_; have HB := n3_; clear n0_ n1_ n2_ n3_; (try clear hb); (try clear hb2); (try clear hk); (try clear hi); obtain ⟨Ao53, co53, eo53⟩ := Kd.R_slice HO277.out; subst eo53) | (go_at_call 15; (with_reducible refine (utf16_Compare.calls kj9 _ _ t257 _ _ y275 t282 _ ?side1 ?side2 ?side3 ?side4 A44.out).mono ?_); (case side1 => repeat (first | exact (Kd.R_reads' HO_7.out).2.2 | (with_reducible refine Kd.C_alloc ?_ _) | (with_reducible refine Kd.C_drewN ?_ _) | (with_reducible refine Kd.C_drew ?_))); (case side2 => exact (Kd.R_reads' HO_7.out).2.1); (case side3 => repeat (first | exact (Kd.R_reads' HO277.out).2.2 | (with_reducible refine Kd.C_alloc ?_ _) | (with_reducible refine Kd.C_drewN ?_ _) | (with_reducible refine Kd.C_drew ?_))); (case side4 => exact (Kd.R_reads' HO277.out).2.1); rintro e w54 ⟨rfl, hb⟩; have n0_ := Aside0.mk (Kd.R_below (by (with_reducible repeat (first | apply Kd.R_alloc | apply Kd.R_drewN | apply Kd.R_drew)); exact HO_7.out) hb); have n1_ := Aside0.mk (Kd.R_below (by (with_reducible repeat (first | apply Kd.R_alloc | apply Kd.R_drewN | apply Kd.R_drew)); exact HO_8.out) hb); have n2_ := Aside0.mk (Kd.R_below (by (with_reducible repeat (first | apply Kd.R_alloc | apply Kd.R_drewN | apply Kd.R_drew)); exact HO277.out) hb); have n3_ := Aside0.mk (below_step (by repeat (first | (with_reducible first | exact HB.out | apply below_alloc | apply pw_below_drewN | apply below_drew1) | exact HB.out)) hb); clear HO_7; clear HO_8; clear HO277; clear HB; have HO_7 := n0_; have HO_8 := n1_; have HO277 := n2_; have HB := n3_; clear n0_ n1_ n2_ n3_; (try clear hb); (try clear hb2); (try clear hk); (try clear hi)) | (go_at_call 8; (with_reducible refine (orthoepylaw03_awake.calls  t283 _ A46.out).mono ?_); rintro e w55 ⟨rfl, hb⟩; have n0_ := Aside0.mk (Kd.R_below (by (with_reducible repeat (first | apply Kd.R_alloc | apply Kd.R_drewN | apply Kd.R_drew)); exact HO_7.out) hb); have n1_ := Aside0.mk (Kd.R_below (by (with_reducible repeat (first | apply Kd.R_alloc | apply Kd.R_drewN | apply Kd.R_drew)); exact HO_8.out) hb); have n2_ := Aside0.mk (Kd.R_below (by (with_reducible repeat (first | apply Kd.R_alloc | apply Kd.R_drewN | apply Kd.R_drew)); exact HO277.out) hb); have n3_ := Aside0.mk (below_step (by repeat (first | (with_reducible first | exact HB.out | apply below_alloc | apply pw_below_drewN | apply below_drew1) | exact HB.out)) hb); clear HO_7; clear HO_8; clear HO277; clear HB; have HO_7 := n0_; have HO_8 := n1_; have HO277 := n2_; have HB := n3_; clear n0_ n1_ n2_ n3_; (try clear hb); (try clear hb2); (try clear hk); (try clear hi)))
                      go_ret
                      exact ⟨by first | rfl | (simp [errW_none, errW_some] <;> rfl) | (simp [*, errW_none, errW_some] <;> rfl), by repeat (first | (with_reducible first | exact HB.out | apply below_alloc | apply pw_below_drewN | apply below_drew1) | exact HB.out)⟩
                    · rw [if_neg c45] at H
                      have c45b0 : (t282 == (-1)) = false := beq_eq_false_iff_ne.mpr c45
                      have c45b1 : (t282 != (-1)) = true := bne_iff_ne.mpr c45
                      obtain rfl := Option.some.inj H
                      exact absurd hT_.out (by decide)
                · rw [if_neg c34] at H
                  have c34b0 : (t280 == 0) = false := beq_eq_false_iff_ne.mpr c34
                  have c34b1 : (t280 != 0) = true := bne_iff_ne.mpr c34
                  obtain rfl := Option.some.inj H
                  exact absurd hT_.out (by decide)
              · rw [if_neg c32] at H
                have c32b0 : ((t266 == 0) == t279) = false := by simpa using c32
                (try (have c32b1 : decide ((t266 == 0) = t279) = false := by simpa using c32))
                (try (have c32b2 : ((t266 == 0) == t279) = false := by simpa using c32))
                (try (have c32b3 : ¬ ((t266 == 0) = t279) := by simpa using c32))
                clear c32
                obtain rfl := Option.some.inj H
                exact absurd hT_.out (by decide)
            · rw [if_neg c30] at H
              have c30b0 : (t266 == (wrap64 (-t278))) = false := beq_eq_false_iff_ne.mpr c30
              have c30b1 : (t266 != (wrap64 (-t278))) = true := bne_iff_ne.mpr c30
              obtain rfl := Option.some.inj H
              exact absurd hT_.out (by decide)
          · rw [if_neg c28] at H
            exact absurd H (by simp)
        · rw [if_neg c27] at H
          exact absurd H (by simp)

/-- THE ONE PURE STATEMENT of orthoepylaw03_Utf16Orders: yours. -/
def orthoepylaw03_Utf16Orders.Pure : Prop := ∀ (l0 : List Int) (l1 : List Int) (l2 : List Int), l0.length ≤ maxLen → l0.length * 8 ≤ 140737488351232 → (∀ x ∈ l0, (Lit.int .i64 x).wf = true) → l1.length ≤ maxLen → l1.length * 8 ≤ 140737488351232 → (∀ x ∈ l1, (Lit.int .i64 x).wf = true) → l2.length ≤ maxLen → l2.length * 8 ≤ 140737488351232 → (∀ x ∈ l2, (Lit.int .i64 x).wf = true) → ∃ k, orthoepylaw03_Utf16Orders.f k l0 l1 l2 = some true
theorem orthoepylaw03_Utf16Orders.walk (P : orthoepylaw03_Utf16Orders.Pure) (a0 : Option Addr) (len0 cap0 : Nat) (z0 : List Int) (a1 : Option Addr) (len1 cap1 : Nat) (z1 : List Int) (a2 : Option Addr) (len2 cap2 : Nat) (z2 : List Int) (w : World) (w0 : (a0 = none ∧ len0 = 0 ∧ cap0 = 0 ∧ z0 = []) ∨ ∃ x, a0 = some x ∧ len0 ≤ cap0 ∧ cap0 ≤ maxLen ∧ z0.length = cap0 ∧ (∀ i, i < z0.length → w.cell? (x.add i) = some (.int .i64 (z0.getD i 0))) ∧ ∀ n ∈ z0, (Lit.int .i64 n).wf = true) (y0 : len0 * 8 ≤ 140737488351232) (w1 : (a1 = none ∧ len1 = 0 ∧ cap1 = 0 ∧ z1 = []) ∨ ∃ x, a1 = some x ∧ len1 ≤ cap1 ∧ cap1 ≤ maxLen ∧ z1.length = cap1 ∧ (∀ i, i < z1.length → w.cell? (x.add i) = some (.int .i64 (z1.getD i 0))) ∧ ∀ n ∈ z1, (Lit.int .i64 n).wf = true) (y1 : len1 * 8 ≤ 140737488351232) (w2 : (a2 = none ∧ len2 = 0 ∧ cap2 = 0 ∧ z2 = []) ∨ ∃ x, a2 = some x ∧ len2 ≤ cap2 ∧ cap2 ≤ maxLen ∧ z2.length = cap2 ∧ (∀ i, i < z2.length → w.cell? (x.add i) = some (.int .i64 (z2.getD i 0))) ∧ ∀ n ∈ z2, (Lit.int .i64 n).wf = true) (y2 : len2 * 8 ≤ 140737488351232) :
    Calls Try.prog 5 #[.slice a0 len0 cap0, .slice a1 len1 cap1, .slice a2 len2 cap2] w fun e w' => e = .returned (.bool true) ∧ Below w.heap.size w w' := by
  obtain ⟨l0, rfl, hr0, hm0, hw0, hc0⟩ := ReadsInt.ofRowC w0
  obtain ⟨l1, rfl, hr1, hm1, hw1, hc1⟩ := ReadsInt.ofRowC w1
  obtain ⟨l2, rfl, hr2, hm2, hw2, hc2⟩ := ReadsInt.ofRowC w2
  obtain ⟨k, h⟩ := P l0 l1 l2 hm0 y0 hw0 hm1 y1 hw1 hm2 y2 hw2
  refine (orthoepylaw03_Utf16Orders.calls k _ _ l0 _ _ l1 _ _ l2 true w (Kd.C_of_reads (d := (0 : Int)) (h1 := fun _ => rfl) hr0) hc0 (Kd.C_of_reads (d := (0 : Int)) (h1 := fun _ => rfl) hr1) hc1 (Kd.C_of_reads (d := (0 : Int)) (h1 := fun _ => rfl) hr2) hc2 h ⟨rfl⟩).mono ?_
  rintro e w' ⟨rfl, hd⟩
  exact ⟨rfl, hd⟩

/-! ### orthoepyref02_Bytes: function 21 -/
def orthoepyref02_Bytes.f (a0 : Int) : Option (List Int) := (orthoepyref01_Is.f a0).bind fun t284 => (if t284 = true then (if a0 < 128 then (some (([(a0) % 256] : List Int))) else (if a0 < 2048 then (some (([(wrap32 (192 + (wrap32 (Int.tdiv a0 64)))) % 256, (wrap32 (128 + (Int.tmod a0 64))) % 256] : List Int))) else (if a0 < 65536 then (some (([(wrap32 (224 + (wrap32 (Int.tdiv a0 4096)))) % 256, (wrap32 (128 + (Int.tmod (wrap32 (Int.tdiv a0 64)) 64))) % 256, (wrap32 (128 + (Int.tmod a0 64))) % 256] : List Int))) else (some (([(wrap32 (240 + (wrap32 (Int.tdiv a0 262144)))) % 256, (wrap32 (128 + (Int.tmod (wrap32 (Int.tdiv a0 4096)) 64))) % 256, (wrap32 (128 + (Int.tmod (wrap32 (Int.tdiv a0 64)) 64))) % 256, (wrap32 (128 + (Int.tmod a0 64))) % 256] : List Int)))))) else (some ([] : List Int)))
set_option maxHeartbeats 8000000 in
set_option maxRecDepth 100000 in
theorem orthoepyref02_Bytes.calls (a0 : Int) (r : List Int) (w : World) (h : orthoepyref02_Bytes.f a0 = some r) :
    Calls Try.prog 21 #[.int .i32 a0] w fun e w' => ∃ v0_ : Value, e = .returned (v0_) ∧ Kd.R (Kd.int .u8) 5 w' w.heap.size (fun _ => True) v0_ r ∧ Below w.heap.size w w' := by
  have HB := Aside0.mk (Below.refl w.heap.size w)
  have H : ((orthoepyref01_Is.f a0).bind fun t284 => (if t284 = true then (if a0 < 128 then (some (([(a0) % 256] : List Int))) else (if a0 < 2048 then (some (([(wrap32 (192 + (wrap32 (Int.tdiv a0 64)))) % 256, (wrap32 (128 + (Int.tmod a0 64))) % 256] : List Int))) else (if a0 < 65536 then (some (([(wrap32 (224 + (wrap32 (Int.tdiv a0 4096)))) % 256, (wrap32 (128 + (Int.tmod (wrap32 (Int.tdiv a0 64)) 64))) % 256, (wrap32 (128 + (Int.tmod a0 64))) % 256] : List Int))) else (some (([(wrap32 (240 + (wrap32 (Int.tdiv a0 262144)))) % 256, (wrap32 (128 + (Int.tmod (wrap32 (Int.tdiv a0 4096)) 64))) % 256, (wrap32 (128 + (Int.tmod (wrap32 (Int.tdiv a0 64)) 64))) % 256, (wrap32 (128 + (Int.tmod a0 64))) % 256] : List Int)))))) else (some ([] : List Int)))) = some r := h
  clear h
  replace H := Option.bind_eq_some_iff.mp H
  obtain ⟨t284, A20, H⟩ := H
  replace H : (if t284 = true then (if a0 < 128 then (some (([(a0) % 256] : List Int))) else (if a0 < 2048 then (some (([(wrap32 (192 + (wrap32 (Int.tdiv a0 64)))) % 256, (wrap32 (128 + (Int.tmod a0 64))) % 256] : List Int))) else (if a0 < 65536 then (some (([(wrap32 (224 + (wrap32 (Int.tdiv a0 4096)))) % 256, (wrap32 (128 + (Int.tmod (wrap32 (Int.tdiv a0 64)) 64))) % 256, (wrap32 (128 + (Int.tmod a0 64))) % 256] : List Int))) else (some (([(wrap32 (240 + (wrap32 (Int.tdiv a0 262144)))) % 256, (wrap32 (128 + (Int.tmod (wrap32 (Int.tdiv a0 4096)) 64))) % 256, (wrap32 (128 + (Int.tmod (wrap32 (Int.tdiv a0 64)) 64))) % 256, (wrap32 (128 + (Int.tmod a0 64))) % 256] : List Int)))))) else (some ([] : List Int))) = some r := H
  have A2 := Aside0.mk A20
  clear A20
  by_cases c3 : t284 = true
  · subst c3
    have H1 : (if a0 < 128 then (some (([(a0) % 256] : List Int))) else (if a0 < 2048 then (some (([(wrap32 (192 + (wrap32 (Int.tdiv a0 64)))) % 256, (wrap32 (128 + (Int.tmod a0 64))) % 256] : List Int))) else (if a0 < 65536 then (some (([(wrap32 (224 + (wrap32 (Int.tdiv a0 4096)))) % 256, (wrap32 (128 + (Int.tmod (wrap32 (Int.tdiv a0 64)) 64))) % 256, (wrap32 (128 + (Int.tmod a0 64))) % 256] : List Int))) else (some (([(wrap32 (240 + (wrap32 (Int.tdiv a0 262144)))) % 256, (wrap32 (128 + (Int.tmod (wrap32 (Int.tdiv a0 4096)) 64))) % 256, (wrap32 (128 + (Int.tmod (wrap32 (Int.tdiv a0 64)) 64))) % 256, (wrap32 (128 + (Int.tmod a0 64))) % 256] : List Int)))))) = some r := by rw [if_pos rfl] at H; exact H
    clear H
    have H := H1
    clear H1
    by_cases c4 : a0 < 128
    · rw [if_pos c4] at H
      have c4b0 : decide (a0 < 128) = true := decide_eq_true c4
      clear c4
      obtain ⟨y285, hy285⟩ : ∃ y_ : List Int, y_ = (([(a0) % 256] : List Int)) := ⟨_, rfl⟩
      replace H : (some y285) = some r := by first | (rw [hy285]; with_reducible exact H) | (have H2_ := (Option.bind_some _ _).symm.trans H; rw [hy285]; with_reducible exact H2_) | (have H2_ := (Option.bind_some _ _).symm.trans H; with_reducible exact H2_) | with_reducible exact H | (rw [hy285]; exact H) | exact H
      have Ny285 := Aside0.mk hy285
      clear hy285
      obtain rfl := Option.some.inj H
      go_enter Try.func21, Try.ntmps21
      go_wp2_with (first | ((with_reducible refine gate_callee (f := 20) rfl ?_); refine goesL_ (some 5) rfl rfl Try.func20 (by kernel_rfl) rfl #[.int .i32 a0] rfl (by (try simp only [List.map_toArray, List.map_cons, List.map_nil]); first | done | rfl | (simp only [List.length_drop, List.length_take]; rfl)) ?_; (with_reducible refine (orthoepyref01_Is.calls a0 true _ A2.out).mono ?_); rintro e w' ⟨rfl, ⟨nd, rfl⟩⟩; refine ⟨_, rfl, ?_⟩) | ((with_reducible refine gate_dst (N := 12) rfl ?_); refine Kd.R_lit (Kd.int .u8) _ 5 ?hg (N := 12) ?hd (xs := ([(a0) % 256] : List Int)) (inner := [.int .u8 ((a0) % 256)]) (ok := fun _ => True) (okp := fun _ => True) ?hr ?hp (fun _ hk => hk) trivial (Below.refl _ _) (Nat.le_refl _) (by simp) ?_; (case hd => rfl); (case hg => rfl); (case hr => first | (go_simp; done) | (go_simp; rfl)); (case hp => exact (Reps.one (show Kd.M (Kd.int .u8) _ _ _ ((a0) % 256) [.int .u8 ((a0) % 256)] from rfl) (Reps.none _ _))); intro v286 w5 ho6 hb hg_ hnew_; clear hg_ hnew_; (first | rw [← Ny285.out] at ho6 | (simp only [Int.reduceToNat] at ho6; rw [← Ny285.out] at ho6)); have n0_ := Aside0.mk (Kd.R_lower ho6 (below_size (by repeat (first | (with_reducible first | exact HB.out | apply below_alloc | apply pw_below_drewN | apply below_drew1) | exact HB.out)))); have n1_ := Aside0.mk (below_step (by repeat (first | (with_reducible first | exact HB.out | apply below_alloc | apply pw_below_drewN | apply below_drew1) | exact HB.out)) hb); clear HB; have HO287 := n0_; have HB := n1_; clear n0_ n1_; clear hb ho6))
      go_ret
      exact ⟨_, by first | rfl | (simp [errW_none, errW_some] <;> rfl) | (simp [*, errW_none, errW_some] <;> rfl), by (with_reducible repeat (first | apply Kd.R_alloc | apply Kd.R_drewN | apply Kd.R_drew)); exact HO287.out, by repeat (first | (with_reducible first | exact HB.out | apply below_alloc | apply pw_below_drewN | apply below_drew1) | exact HB.out)⟩
    · rw [if_neg c4] at H
      have c4b0 : decide (a0 < 128) = false := decide_eq_false c4
      clear c4
      by_cases c7 : a0 < 2048
      · rw [if_pos c7] at H
        have c7b0 : decide (a0 < 2048) = true := decide_eq_true c7
        clear c7
        obtain ⟨y288, hy288⟩ : ∃ y_ : List Int, y_ = (([(wrap32 (192 + (wrap32 (Int.tdiv a0 64)))) % 256, (wrap32 (128 + (Int.tmod a0 64))) % 256] : List Int)) := ⟨_, rfl⟩
        replace H : (some y288) = some r := by first | (rw [hy288]; with_reducible exact H) | (have H2_ := (Option.bind_some _ _).symm.trans H; rw [hy288]; with_reducible exact H2_) | (have H2_ := (Option.bind_some _ _).symm.trans H; with_reducible exact H2_) | with_reducible exact H | (rw [hy288]; exact H) | exact H
        have Ny288 := Aside0.mk hy288
        clear hy288
        obtain rfl := Option.some.inj H
        go_enter Try.func21, Try.ntmps21
        go_wp2_with (first | ((with_reducible refine gate_callee (f := 20) rfl ?_); refine goesL_ (some 5) rfl rfl Try.func20 (by kernel_rfl) rfl #[.int .i32 a0] rfl (by (try simp only [List.map_toArray, List.map_cons, List.map_nil]); first | done | rfl | (simp only [List.length_drop, List.length_take]; rfl)) ?_; (with_reducible refine (orthoepyref01_Is.calls a0 true _ A2.out).mono ?_); rintro e w' ⟨rfl, ⟨nd, rfl⟩⟩; refine ⟨_, rfl, ?_⟩) | ((with_reducible refine gate_dst (N := 24) rfl ?_); refine Kd.R_lit (Kd.int .u8) _ 5 ?hg (N := 24) ?hd (xs := ([(wrap32 (192 + (wrap32 (Int.tdiv a0 64)))) % 256, (wrap32 (128 + (Int.tmod a0 64))) % 256] : List Int)) (inner := [.int .u8 ((wrap32 (192 + (wrap32 (Int.tdiv a0 64)))) % 256), .int .u8 ((wrap32 (128 + (Int.tmod a0 64))) % 256)]) (ok := fun _ => True) (okp := fun _ => True) ?hr ?hp (fun _ hk => hk) trivial (Below.refl _ _) (Nat.le_refl _) (by simp) ?_; (case hd => rfl); (case hg => rfl); (case hr => first | (go_simp; done) | (go_simp; rfl)); (case hp => exact (Reps.one (show Kd.M (Kd.int .u8) _ _ _ ((wrap32 (192 + (wrap32 (Int.tdiv a0 64)))) % 256) [.int .u8 ((wrap32 (192 + (wrap32 (Int.tdiv a0 64)))) % 256)] from rfl) (Reps.one (show Kd.M (Kd.int .u8) _ _ _ ((wrap32 (128 + (Int.tmod a0 64))) % 256) [.int .u8 ((wrap32 (128 + (Int.tmod a0 64))) % 256)] from rfl) (Reps.none _ _)))); intro v289 w8 ho9 hb hg_ hnew_; clear hg_ hnew_; (first | rw [← Ny288.out] at ho9 | (simp only [Int.reduceToNat] at ho9; rw [← Ny288.out] at ho9)); have n0_ := Aside0.mk (Kd.R_lower ho9 (below_size (by repeat (first | (with_reducible first | exact HB.out | apply below_alloc | apply pw_below_drewN | apply below_drew1) | exact HB.out)))); have n1_ := Aside0.mk (below_step (by repeat (first | (with_reducible first | exact HB.out | apply below_alloc | apply pw_below_drewN | apply below_drew1) | exact HB.out)) hb); clear HB; have HO290 := n0_; have HB := n1_; clear n0_ n1_; clear hb ho9))
        go_ret
        exact ⟨_, by first | rfl | (simp [errW_none, errW_some] <;> rfl) | (simp [*, errW_none, errW_some] <;> rfl), by (with_reducible repeat (first | apply Kd.R_alloc | apply Kd.R_drewN | apply Kd.R_drew)); exact HO290.out, by repeat (first | (with_reducible first | exact HB.out | apply below_alloc | apply pw_below_drewN | apply below_drew1) | exact HB.out)⟩
      · rw [if_neg c7] at H
        have c7b0 : decide (a0 < 2048) = false := decide_eq_false c7
        clear c7
        by_cases c10 : a0 < 65536
        · rw [if_pos c10] at H
          have c10b0 : decide (a0 < 65536) = true := decide_eq_true c10
          clear c10
          obtain ⟨y291, hy291⟩ : ∃ y_ : List Int, y_ = (([(wrap32 (224 + (wrap32 (Int.tdiv a0 4096)))) % 256, (wrap32 (128 + (Int.tmod (wrap32 (Int.tdiv a0 64)) 64))) % 256, (wrap32 (128 + (Int.tmod a0 64))) % 256] : List Int)) := ⟨_, rfl⟩
          replace H : (some y291) = some r := by first | (rw [hy291]; with_reducible exact H) | (have H2_ := (Option.bind_some _ _).symm.trans H; rw [hy291]; with_reducible exact H2_) | (have H2_ := (Option.bind_some _ _).symm.trans H; with_reducible exact H2_) | with_reducible exact H | (rw [hy291]; exact H) | exact H
          have Ny291 := Aside0.mk hy291
          clear hy291
          obtain rfl := Option.some.inj H
          go_enter Try.func21, Try.ntmps21
          go_wp2_with (first | ((with_reducible refine gate_callee (f := 20) rfl ?_); refine goesL_ (some 5) rfl rfl Try.func20 (by kernel_rfl) rfl #[.int .i32 a0] rfl (by (try simp only [List.map_toArray, List.map_cons, List.map_nil]); first | done | rfl | (simp only [List.length_drop, List.length_take]; rfl)) ?_; (with_reducible refine (orthoepyref01_Is.calls a0 true _ A2.out).mono ?_); rintro e w' ⟨rfl, ⟨nd, rfl⟩⟩; refine ⟨_, rfl, ?_⟩) | ((with_reducible refine gate_dst (N := 41) rfl ?_); refine Kd.R_lit (Kd.int .u8) _ 5 ?hg (N := 41) ?hd (xs := ([(wrap32 (224 + (wrap32 (Int.tdiv a0 4096)))) % 256, (wrap32 (128 + (Int.tmod (wrap32 (Int.tdiv a0 64)) 64))) % 256, (wrap32 (128 + (Int.tmod a0 64))) % 256] : List Int)) (inner := [.int .u8 ((wrap32 (224 + (wrap32 (Int.tdiv a0 4096)))) % 256), .int .u8 ((wrap32 (128 + (Int.tmod (wrap32 (Int.tdiv a0 64)) 64))) % 256), .int .u8 ((wrap32 (128 + (Int.tmod a0 64))) % 256)]) (ok := fun _ => True) (okp := fun _ => True) ?hr ?hp (fun _ hk => hk) trivial (Below.refl _ _) (Nat.le_refl _) (by simp) ?_; (case hd => rfl); (case hg => rfl); (case hr => first | (go_simp; done) | (go_simp; rfl)); (case hp => exact (Reps.one (show Kd.M (Kd.int .u8) _ _ _ ((wrap32 (224 + (wrap32 (Int.tdiv a0 4096)))) % 256) [.int .u8 ((wrap32 (224 + (wrap32 (Int.tdiv a0 4096)))) % 256)] from rfl) (Reps.one (show Kd.M (Kd.int .u8) _ _ _ ((wrap32 (128 + (Int.tmod (wrap32 (Int.tdiv a0 64)) 64))) % 256) [.int .u8 ((wrap32 (128 + (Int.tmod (wrap32 (Int.tdiv a0 64)) 64))) % 256)] from rfl) (Reps.one (show Kd.M (Kd.int .u8) _ _ _ ((wrap32 (128 + (Int.tmod a0 64))) % 256) [.int .u8 ((wrap32 (128 + (Int.tmod a0 64))) % 256)] from rfl) (Reps.none _ _))))); intro v292 w11 ho12 hb hg_ hnew_; clear hg_ hnew_; (first | rw [← Ny291.out] at ho12 | (simp only [Int.reduceToNat] at ho12; rw [← Ny291.out] at ho12)); have n0_ := Aside0.mk (Kd.R_lower ho12 (below_size (by repeat (first | (with_reducible first | exact HB.out | apply below_alloc | apply pw_below_drewN | apply below_drew1) | exact HB.out)))); have n1_ := Aside0.mk (below_step (by repeat (first | (with_reducible first | exact HB.out | apply below_alloc | apply pw_below_drewN | apply below_drew1) | exact HB.out)) hb); clear HB; have HO293 := n0_; have HB := n1_; clear n0_ n1_; clear hb ho12))
          go_ret
          exact ⟨_, by first | rfl | (simp [errW_none, errW_some] <;> rfl) | (simp [*, errW_none, errW_some] <;> rfl), by (with_reducible repeat (first | apply Kd.R_alloc | apply Kd.R_drewN | apply Kd.R_drew)); exact HO293.out, by repeat (first | (with_reducible first | exact HB.out | apply below_alloc | apply pw_below_drewN | apply below_drew1) | exact HB.out)⟩
        · rw [if_neg c10] at H
          have c10b0 : decide (a0 < 65536) = false := decide_eq_false c10
          clear c10
          obtain ⟨y294, hy294⟩ : ∃ y_ : List Int, y_ = (([(wrap32 (240 + (wrap32 (Int.tdiv a0 262144)))) % 256, (wrap32 (128 + (Int.tmod (wrap32 (Int.tdiv a0 4096)) 64))) % 256, (wrap32 (128 + (Int.tmod (wrap32 (Int.tdiv a0 64)) 64))) % 256, (wrap32 (128 + (Int.tmod a0 64))) % 256] : List Int)) := ⟨_, rfl⟩
          replace H : (some y294) = some r := by first | (rw [hy294]; with_reducible exact H) | (have H2_ := (Option.bind_some _ _).symm.trans H; rw [hy294]; with_reducible exact H2_) | (have H2_ := (Option.bind_some _ _).symm.trans H; with_reducible exact H2_) | with_reducible exact H | (rw [hy294]; exact H) | exact H
          have Ny294 := Aside0.mk hy294
          clear hy294
          obtain rfl := Option.some.inj H
          go_enter Try.func21, Try.ntmps21
          go_wp2_with (first | ((with_reducible refine gate_callee (f := 20) rfl ?_); refine goesL_ (some 5) rfl rfl Try.func20 (by kernel_rfl) rfl #[.int .i32 a0] rfl (by (try simp only [List.map_toArray, List.map_cons, List.map_nil]); first | done | rfl | (simp only [List.length_drop, List.length_take]; rfl)) ?_; (with_reducible refine (orthoepyref01_Is.calls a0 true _ A2.out).mono ?_); rintro e w' ⟨rfl, ⟨nd, rfl⟩⟩; refine ⟨_, rfl, ?_⟩) | ((with_reducible refine gate_dst (N := 60) rfl ?_); refine Kd.R_lit (Kd.int .u8) _ 5 ?hg (N := 60) ?hd (xs := ([(wrap32 (240 + (wrap32 (Int.tdiv a0 262144)))) % 256, (wrap32 (128 + (Int.tmod (wrap32 (Int.tdiv a0 4096)) 64))) % 256, (wrap32 (128 + (Int.tmod (wrap32 (Int.tdiv a0 64)) 64))) % 256, (wrap32 (128 + (Int.tmod a0 64))) % 256] : List Int)) (inner := [.int .u8 ((wrap32 (240 + (wrap32 (Int.tdiv a0 262144)))) % 256), .int .u8 ((wrap32 (128 + (Int.tmod (wrap32 (Int.tdiv a0 4096)) 64))) % 256), .int .u8 ((wrap32 (128 + (Int.tmod (wrap32 (Int.tdiv a0 64)) 64))) % 256), .int .u8 ((wrap32 (128 + (Int.tmod a0 64))) % 256)]) (ok := fun _ => True) (okp := fun _ => True) ?hr ?hp (fun _ hk => hk) trivial (Below.refl _ _) (Nat.le_refl _) (by simp) ?_; (case hd => rfl); (case hg => rfl); (case hr => first | (go_simp; done) | (go_simp; rfl)); (case hp => exact (Reps.one (show Kd.M (Kd.int .u8) _ _ _ ((wrap32 (240 + (wrap32 (Int.tdiv a0 262144)))) % 256) [.int .u8 ((wrap32 (240 + (wrap32 (Int.tdiv a0 262144)))) % 256)] from rfl) (Reps.one (show Kd.M (Kd.int .u8) _ _ _ ((wrap32 (128 + (Int.tmod (wrap32 (Int.tdiv a0 4096)) 64))) % 256) [.int .u8 ((wrap32 (128 + (Int.tmod (wrap32 (Int.tdiv a0 4096)) 64))) % 256)] from rfl) (Reps.one (show Kd.M (Kd.int .u8) _ _ _ ((wrap32 (128 + (Int.tmod (wrap32 (Int.tdiv a0 64)) 64))) % 256) [.int .u8 ((wrap32 (128 + (Int.tmod (wrap32 (Int.tdiv a0 64)) 64))) % 256)] from rfl) (Reps.one (show Kd.M (Kd.int .u8) _ _ _ ((wrap32 (128 + (Int.tmod a0 64))) % 256) [.int .u8 ((wrap32 (128 + (Int.tmod a0 64))) % 256)] from rfl) (Reps.none _ _)))))); intro v295 w13 ho14 hb hg_ hnew_; clear hg_ hnew_; (first | rw [← Ny294.out] at ho14 | (simp only [Int.reduceToNat] at ho14; rw [← Ny294.out] at ho14)); have n0_ := Aside0.mk (Kd.R_lower ho14 (below_size (by repeat (first | (with_reducible first | exact HB.out | apply below_alloc | apply pw_below_drewN | apply below_drew1) | exact HB.out)))); have n1_ := Aside0.mk (below_step (by repeat (first | (with_reducible first | exact HB.out | apply below_alloc | apply pw_below_drewN | apply below_drew1) | exact HB.out)) hb); clear HB; have HO296 := n0_; have HB := n1_; clear n0_ n1_; clear hb ho14))
          go_ret
          exact ⟨_, by first | rfl | (simp [errW_none, errW_some] <;> rfl) | (simp [*, errW_none, errW_some] <;> rfl), by (with_reducible repeat (first | apply Kd.R_alloc | apply Kd.R_drewN | apply Kd.R_drew)); exact HO296.out, by repeat (first | (with_reducible first | exact HB.out | apply below_alloc | apply pw_below_drewN | apply below_drew1) | exact HB.out)⟩
  · replace c3 := Bool.eq_false_iff.mpr c3
    subst c3
    have H1 : (some ([] : List Int)) = some r := by rw [if_neg (show ¬ (false = true) by decide)] at H; exact H
    clear H
    have H := H1
    clear H1
    obtain rfl := Option.some.inj H
    go_enter Try.func21, Try.ntmps21
    go_wp2_with (first | ((with_reducible refine gate_callee (f := 20) rfl ?_); refine goesL_ (some 5) rfl rfl Try.func20 (by kernel_rfl) rfl #[.int .i32 a0] rfl (by (try simp only [List.map_toArray, List.map_cons, List.map_nil]); first | done | rfl | (simp only [List.length_drop, List.length_take]; rfl)) ?_; (with_reducible refine (orthoepyref01_Is.calls a0 false _ A2.out).mono ?_); rintro e w' ⟨rfl, ⟨nd, rfl⟩⟩; refine ⟨_, rfl, ?_⟩))
    go_ret
    exact ⟨_, by first | rfl | (simp [errW_none, errW_some] <;> rfl) | (simp [*, errW_none, errW_some] <;> rfl), by first | exact Kd.R_nil _ _ _ _ _ | exact Kd.N_nil _ _ _ _ _ | exact Kd.V_nil _ _ _ _ _ | exact Kd.Q_nil _ _ _ _ _ | exact Kd.S_nil _ _ _ _ _, by repeat (first | (with_reducible first | exact HB.out | apply below_alloc | apply pw_below_drewN | apply below_drew1) | exact HB.out)⟩

end Go.Proofs.Ythgloaihgpcjjaa.PAll
