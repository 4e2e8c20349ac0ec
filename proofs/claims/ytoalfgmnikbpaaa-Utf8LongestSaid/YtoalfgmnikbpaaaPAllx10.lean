-- The machine's side of laws, written by a program of this session (wip/gen/pp.sh). Lean checks it.
import Derived.Test.YtoalfgmnikbpaaaPAllx0
import Derived.Test.YtoalfgmnikbpaaaPAllx3
import Derived.Test.YtoalfgmnikbpaaaPAllx4
import Derived.Test.YtoalfgmnikbpaaaPAllx6
import Derived.Test.YtoalfgmnikbpaaaPAllx9
namespace Go.Proofs.Ytoalfgmnikbpaaa.PAll
open Go.RowKit Go.Proofs.YtoalfgmnikbpaaaW.PrintWords Go.Proofs.YtoalfgmnikbpaaaW.PrintLast Go.Proofs.YtoalfgmnikbpaaaW.PrintMore
attribute [local go_sem] max2_int min2_int max_two min_two max_three min_three max_four min_four   -- for this text's walks alone
set_option linter.unusedVariables false
set_option linter.unusedSimpArgs false

/-! ### orthoepylaw02_Utf8Longest: function 5 -/
mutual
def orthoepylaw02_Utf8Longest.j0 : Nat → List Int → List Int → Bool → Option (Bool)
  | 0, _, _, _ => none
  | k + 1, x0, x1, x27 => if x27 = true then ((orthoepylaw02_awake.f).bind fun t318 => (some t318)) else ((utf8_All.f k x0).bind fun bt319 => (if bt319.2.1 < 0 then (orthoepylaw02_Utf8Longest.j1 k x0 x1 bt319.2.1 bt319.2.2 true) else (if bt319.2.1 > (x0.length : Int) then (orthoepylaw02_Utf8Longest.j1 k x0 x1 bt319.2.1 bt319.2.2 true) else (if bt319.2.2 = true then (orthoepylaw02_Utf8Longest.j1 k x0 x1 bt319.2.1 bt319.2.2 (bt319.2.1 != (x0.length : Int))) else (orthoepylaw02_Utf8Longest.j1 k x0 x1 bt319.2.1 bt319.2.2 false)))))
def orthoepylaw02_Utf8Longest.j1 : Nat → List Int → List Int → Int → Bool → Bool → Option (Bool)
  | 0, _, _, _, _, _ => none
  | k + 1, x0, x1, x6, x7, x51 => if x51 = true then (some false) else ((some (([] : List Int) : List Int)).bind fun y324 => (if 0 ≤ x6 then (if x6 ≤ (x0.length : Int) then (if y324.length + (x0.take (x6 : Int).toNat).length < 140737488355328 then (orthoepylaw02_Utf8Longest.l0 k x0 x1 x6 x7 (y324 ++ (x0.take (x6 : Int).toNat)) 0) else (none)) else (none)) else (none)))
def orthoepylaw02_Utf8Longest.j4 : Nat → List Int → List Int → Int → Bool → List Int → Option (Bool)
  | 0, _, _, _, _, _ => none
  | k + 1, x0, x1, x6, x7, x8 => (utf8_All.f k x8).bind fun bt352 => (if bt352.2.2 = true then (if x7 = true then (orthoepylaw02_Utf8Longest.j5 k x0 x1 x6 true) else (orthoepylaw02_Utf8Longest.j5 k x0 x1 x6 (x6 == (x0.length : Int)))) else (some false))
def orthoepylaw02_Utf8Longest.j5 : Nat → List Int → List Int → Int → Bool → Option (Bool)
  | 0, _, _, _, _ => none
  | k + 1, x0, x1, x6, x100 => if x100 = true then ((orthoepylaw02_awake.f).bind fun t357 => (some t357)) else ((some (([] : List Int) : List Int)).bind fun y358 => (if 0 ≤ (wrap64 (x6 + 1)) then (if (wrap64 (x6 + 1)) ≤ (x0.length : Int) then (if y358.length + (x0.take ((wrap64 (x6 + 1)) : Int).toNat).length < 140737488355328 then ((some (y358 ++ (x0.take ((wrap64 (x6 + 1)) : Int).toNat) : List Int)).bind fun y362 => (if y362.length + x1.length < 140737488355328 then ((utf8_All.f k (y362 ++ x1)).bind fun bt368 => (if bt368.2.2 = true then (some false) else ((orthoepylaw02_awake.f).bind fun t373 => (some t373)))) else (none))) else (none)) else (none)) else (none)))
def orthoepylaw02_Utf8Longest.l0 : Nat → List Int → List Int → Int → Bool → List Int → Int → Option (Bool)
  | 0, _, _, _, _, _, _ => none
  | k + 1, x0, x1, x6, x7, x8, x9 => if x9 < 3 then ((orthoepyref02_All.f k x8).bind fun bt331 => (if bt331.2.2 = true then (orthoepylaw02_Utf8Longest.j4 k x0 x1 x6 x7 x8) else (orthoepylaw02_Utf8Longest.l1 k x0 x1 x6 x7 x8 x9 128))) else (orthoepylaw02_Utf8Longest.j4 k x0 x1 x6 x7 x8)
def orthoepylaw02_Utf8Longest.l1 : Nat → List Int → List Int → Int → Bool → List Int → Int → Int → Option (Bool)
  | 0, _, _, _, _, _, _, _ => none
  | k + 1, x0, x1, x6, x7, x8, x9, x13 => if x13 < 191 then ((some (([] : List Int) : List Int)).bind fun y336 => (if y336.length + x8.length < 140737488355328 then ((some (y336 ++ x8 : List Int)).bind fun y339 => (if y339.length < 140737488355328 then ((orthoepylaw02_begins.f k (y339 ++ [x13])).bind fun t345 => (if t345 = true then (if x8.length < 140737488355328 then (orthoepylaw02_Utf8Longest.l0 k x0 x1 x6 x7 (x8 ++ [x13]) (wrap64 (x9 + 1))) else (none)) else (orthoepylaw02_Utf8Longest.l1 k x0 x1 x6 x7 x8 x9 ((x13 + 1) % 256)))) else (none))) else (none))) else (if x8.length < 140737488355328 then (orthoepylaw02_Utf8Longest.l0 k x0 x1 x6 x7 (x8 ++ [x13]) (wrap64 (x9 + 1))) else (none))
end
def orthoepylaw02_Utf8Longest.f (k : Nat) (l0 : List Int) (l1 : List Int) : Option (Bool) := if (l0.length : Int) > 200 then (orthoepylaw02_Utf8Longest.j0 k l0 l1 true) else (orthoepylaw02_Utf8Longest.j0 k l0 l1 (decide ((l1.length : Int) > 3)))
theorem orthoepylaw02_Utf8Longest.mono_l : ∀ k, (∀ y0 y1 y2, LeO (orthoepylaw02_Utf8Longest.j0 k y0 y1 y2) (orthoepylaw02_Utf8Longest.j0 (k + 1) y0 y1 y2)) ∧ (∀ y0 y1 y2 y3 y4, LeO (orthoepylaw02_Utf8Longest.j1 k y0 y1 y2 y3 y4) (orthoepylaw02_Utf8Longest.j1 (k + 1) y0 y1 y2 y3 y4)) ∧ (∀ y0 y1 y2 y3 y4, LeO (orthoepylaw02_Utf8Longest.j4 k y0 y1 y2 y3 y4) (orthoepylaw02_Utf8Longest.j4 (k + 1) y0 y1 y2 y3 y4)) ∧ (∀ y0 y1 y2 y3, LeO (orthoepylaw02_Utf8Longest.j5 k y0 y1 y2 y3) (orthoepylaw02_Utf8Longest.j5 (k + 1) y0 y1 y2 y3)) ∧ (∀ y0 y1 y2 y3 y4 y5, LeO (orthoepylaw02_Utf8Longest.l0 k y0 y1 y2 y3 y4 y5) (orthoepylaw02_Utf8Longest.l0 (k + 1) y0 y1 y2 y3 y4 y5)) ∧ (∀ y0 y1 y2 y3 y4 y5 y6, LeO (orthoepylaw02_Utf8Longest.l1 k y0 y1 y2 y3 y4 y5 y6) (orthoepylaw02_Utf8Longest.l1 (k + 1) y0 y1 y2 y3 y4 y5 y6))
  | 0 => ⟨fun _ _ _ r h => by simp [orthoepylaw02_Utf8Longest.j0] at h, fun _ _ _ _ _ r h => by simp [orthoepylaw02_Utf8Longest.j1] at h, fun _ _ _ _ _ r h => by simp [orthoepylaw02_Utf8Longest.j4] at h, fun _ _ _ _ r h => by simp [orthoepylaw02_Utf8Longest.j5] at h, fun _ _ _ _ _ _ r h => by simp [orthoepylaw02_Utf8Longest.l0] at h, fun _ _ _ _ _ _ _ r h => by simp [orthoepylaw02_Utf8Longest.l1] at h⟩
  | k + 1 => by
    obtain ⟨ih0, ih1, ih2, ih3, ih4, ih5⟩ := orthoepylaw02_Utf8Longest.mono_l k
    refine ⟨?_, ?_, ?_, ?_, ?_, ?_⟩
    · intro y0 y1 y2
      unfold orthoepylaw02_Utf8Longest.j0
      repeat' first
      | (with_reducible exact ih0 _ _ _)
      | (with_reducible exact ih1 _ _ _ _ _)
      | (with_reducible exact ih2 _ _ _ _ _)
      | (with_reducible exact ih3 _ _ _ _)
      | (with_reducible exact ih4 _ _ _ _ _ _)
      | (with_reducible exact ih5 _ _ _ _ _ _ _)
      | (with_reducible exact orthoepylaw02_begins.mono _ _)
      | (with_reducible exact orthoepyref02_All.mono _ _)
      | (with_reducible exact utf8_All.mono _ _)
      | (with_reducible exact LeO.refl _)
      | (with_reducible exact LeO.none _)
      | (with_reducible refine LeO.ite ?_ ?_)
      | (with_reducible refine LeO.bind ?_ (fun _ => ?_))
      | exact ih0 _ _ _
      | exact ih1 _ _ _ _ _
      | exact ih2 _ _ _ _ _
      | exact ih3 _ _ _ _
      | exact ih4 _ _ _ _ _ _
      | exact ih5 _ _ _ _ _ _ _
      | exact orthoepylaw02_begins.mono _ _
      | exact orthoepyref02_All.mono _ _
      | exact utf8_All.mono _ _
      | exact LeO.none _
      | refine LeO.ite ?_ ?_
      | refine LeO.bind ?_ (fun _ => ?_)
    · intro y0 y1 y2 y3 y4
      unfold orthoepylaw02_Utf8Longest.j1
      repeat' first
      | (with_reducible exact ih0 _ _ _)
      | (with_reducible exact ih1 _ _ _ _ _)
      | (with_reducible exact ih2 _ _ _ _ _)
      | (with_reducible exact ih3 _ _ _ _)
      | (with_reducible exact ih4 _ _ _ _ _ _)
      | (with_reducible exact ih5 _ _ _ _ _ _ _)
      | (with_reducible exact orthoepylaw02_begins.mono _ _)
      | (with_reducible exact orthoepyref02_All.mono _ _)
      | (with_reducible exact utf8_All.mono _ _)
      | (with_reducible exact LeO.refl _)
      | (with_reducible exact LeO.none _)
      | (with_reducible refine LeO.ite ?_ ?_)
      | (with_reducible refine LeO.bind ?_ (fun _ => ?_))
      | exact ih0 _ _ _
      | exact ih1 _ _ _ _ _
      | exact ih2 _ _ _ _ _
      | exact ih3 _ _ _ _
      | exact ih4 _ _ _ _ _ _
      | exact ih5 _ _ _ _ _ _ _
      | exact orthoepylaw02_begins.mono _ _
      | exact orthoepyref02_All.mono _ _
      | exact utf8_All.mono _ _
      | exact LeO.none _
      | refine LeO.ite ?_ ?_
      | refine LeO.bind ?_ (fun _ => ?_)
    · intro y0 y1 y2 y3 y4
      unfold orthoepylaw02_Utf8Longest.j4
      repeat' first
      | (with_reducible exact ih0 _ _ _)
      | (with_reducible exact ih1 _ _ _ _ _)
      | (with_reducible exact ih2 _ _ _ _ _)
      | (with_reducible exact ih3 _ _ _ _)
      | (with_reducible exact ih4 _ _ _ _ _ _)
      | (with_reducible exact ih5 _ _ _ _ _ _ _)
      | (with_reducible exact orthoepylaw02_begins.mono _ _)
      | (with_reducible exact orthoepyref02_All.mono _ _)
      | (with_reducible exact utf8_All.mono _ _)
      | (with_reducible exact LeO.refl _)
      | (with_reducible exact LeO.none _)
      | (with_reducible refine LeO.ite ?_ ?_)
      | (with_reducible refine LeO.bind ?_ (fun _ => ?_))
      | exact ih0 _ _ _
      | exact ih1 _ _ _ _ _
      | exact ih2 _ _ _ _ _
      | exact ih3 _ _ _ _
      | exact ih4 _ _ _ _ _ _
      | exact ih5 _ _ _ _ _ _ _
      | exact orthoepylaw02_begins.mono _ _
      | exact orthoepyref02_All.mono _ _
      | exact utf8_All.mono _ _
      | exact LeO.none _
      | refine LeO.ite ?_ ?_
      | refine LeO.bind ?_ (fun _ => ?_)
    · intro y0 y1 y2 y3
      unfold orthoepylaw02_Utf8Longest.j5
      repeat' first
      | (with_reducible exact ih0 _ _ _)
      | (with_reducible exact ih1 _ _ _ _ _)
      | (with_reducible exact ih2 _ _ _ _ _)
      | (with_reducible exact ih3 _ _ _ _)
      | (with_reducible exact ih4 _ _ _ _ _ _)
      | (with_reducible exact ih5 _ _ _ _ _ _ _)
      | (with_reducible exact orthoepylaw02_begins.mono _ _)
      | (with_reducible exact orthoepyref02_All.mono _ _)
      | (with_reducible exact utf8_All.mono _ _)
      | (with_reducible exact LeO.refl _)
      | (with_reducible exact LeO.none _)
      | (with_reducible refine LeO.ite ?_ ?_)
      | (with_reducible refine LeO.bind ?_ (fun _ => ?_))
      | exact ih0 _ _ _
      | exact ih1 _ _ _ _ _
      | exact ih2 _ _ _ _ _
      | exact ih3 _ _ _ _
      | exact ih4 _ _ _ _ _ _
      | exact ih5 _ _ _ _ _ _ _
      | exact orthoepylaw02_begins.mono _ _
      | exact orthoepyref02_All.mono _ _
      | exact utf8_All.mono _ _
      | exact LeO.none _
      | refine LeO.ite ?_ ?_
      | refine LeO.bind ?_ (fun _ => ?_)
    · intro y0 y1 y2 y3 y4 y5
      unfold orthoepylaw02_Utf8Longest.l0
      repeat' first
      | (with_reducible exact ih0 _ _ _)
      | (with_reducible exact ih1 _ _ _ _ _)
      | (with_reducible exact ih2 _ _ _ _ _)
      | (with_reducible exact ih3 _ _ _ _)
      | (with_reducible exact ih4 _ _ _ _ _ _)
      | (with_reducible exact ih5 _ _ _ _ _ _ _)
      | (with_reducible exact orthoepylaw02_begins.mono _ _)
      | (with_reducible exact orthoepyref02_All.mono _ _)
      | (with_reducible exact utf8_All.mono _ _)
      | (with_reducible exact LeO.refl _)
      | (with_reducible exact LeO.none _)
      | (with_reducible refine LeO.ite ?_ ?_)
      | (with_reducible refine LeO.bind ?_ (fun _ => ?_))
      | exact ih0 _ _ _
      | exact ih1 _ _ _ _ _
      | exact ih2 _ _ _ _ _
      | exact ih3 _ _ _ _
      | exact ih4 _ _ _ _ _ _
      | exact ih5 _ _ _ _ _ _ _
      | exact orthoepylaw02_begins.mono _ _
      | exact orthoepyref02_All.mono _ _
      | exact utf8_All.mono _ _
      | exact LeO.none _
      | refine LeO.ite ?_ ?_
      | refine LeO.bind ?_ (fun _ => ?_)
    · intro y0 y1 y2 y3 y4 y5 y6
      unfold orthoepylaw02_Utf8Longest.l1
      repeat' first
      | (with_reducible exact ih0 _ _ _)
      | (with_reducible exact ih1 _ _ _ _ _)
      | (with_reducible exact ih2 _ _ _ _ _)
      | (with_reducible exact ih3 _ _ _ _)
      | (with_reducible exact ih4 _ _ _ _ _ _)
      | (with_reducible exact ih5 _ _ _ _ _ _ _)
      | (with_reducible exact orthoepylaw02_begins.mono _ _)
      | (with_reducible exact orthoepyref02_All.mono _ _)
      | (with_reducible exact utf8_All.mono _ _)
      | (with_reducible exact LeO.refl _)
      | (with_reducible exact LeO.none _)
      | (with_reducible refine LeO.ite ?_ ?_)
      | (with_reducible refine LeO.bind ?_ (fun _ => ?_))
      | exact ih0 _ _ _
      | exact ih1 _ _ _ _ _
      | exact ih2 _ _ _ _ _
      | exact ih3 _ _ _ _
      | exact ih4 _ _ _ _ _ _
      | exact ih5 _ _ _ _ _ _ _
      | exact orthoepylaw02_begins.mono _ _
      | exact orthoepyref02_All.mono _ _
      | exact utf8_All.mono _ _
      | exact LeO.none _
      | refine LeO.ite ?_ ?_
      | refine LeO.bind ?_ (fun _ => ?_)
theorem orthoepylaw02_Utf8Longest.mono : ∀ a0 a1 k, LeO (orthoepylaw02_Utf8Longest.f k a0 a1) (orthoepylaw02_Utf8Longest.f (k + 1) a0 a1) := by
  intro a0 a1 k
  obtain ⟨ih0, ih1, ih2, ih3, ih4, ih5⟩ := orthoepylaw02_Utf8Longest.mono_l k
  unfold orthoepylaw02_Utf8Longest.f
  repeat' first
      | (with_reducible exact ih0 _ _ _)
      | (with_reducible exact ih1 _ _ _ _ _)
      | (with_reducible exact ih2 _ _ _ _ _)
      | (with_reducible exact ih3 _ _ _ _)
      | (with_reducible exact ih4 _ _ _ _ _ _)
      | (with_reducible exact ih5 _ _ _ _ _ _ _)
      | (with_reducible exact orthoepylaw02_begins.mono _ _)
      | (with_reducible exact orthoepyref02_All.mono _ _)
      | (with_reducible exact utf8_All.mono _ _)
      | (with_reducible exact LeO.refl _)
      | (with_reducible exact LeO.none _)
      | (with_reducible refine LeO.ite ?_ ?_)
      | (with_reducible refine LeO.bind ?_ (fun _ => ?_))
      | exact ih0 _ _ _
      | exact ih1 _ _ _ _ _
      | exact ih2 _ _ _ _ _
      | exact ih3 _ _ _ _
      | exact ih4 _ _ _ _ _ _
      | exact ih5 _ _ _ _ _ _ _
      | exact orthoepylaw02_begins.mono _ _
      | exact orthoepyref02_All.mono _ _
      | exact utf8_All.mono _ _
      | exact LeO.none _
      | refine LeO.ite ?_ ?_
      | refine LeO.bind ?_ (fun _ => ?_)
set_option maxHeartbeats 8000000 in
set_option maxRecDepth 100000 in
theorem orthoepylaw02_Utf8Longest.calls (k : Nat) (A0 : Option Addr) (c0 : Nat) (l0 : List Int) (A1 : Option Addr) (c1 : Nat) (l1 : List Int) (r : Bool) (w : World) (hr0 : Kd.C (Kd.int .u8) w A0 l0.length l0) (hc0 : l0.length ≤ c0) (hr1 : Kd.C (Kd.int .u8) w A1 l1.length l1) (hc1 : l1.length ≤ c1) (h : orthoepylaw02_Utf8Longest.f k l0 l1 = some r) (hT_ : Aside0 (r = true)) :
    Calls Try.prog 5 #[.slice A0 l0.length c0, .slice A1 l1.length c1] w fun e w' => e = .returned (.bool r) ∧ Below w.heap.size w w' := by
  have HR0 := Aside0.mk hr0
  have HC0 := Aside0.mk hc0
  clear hr0 hc0
  have HR1 := Aside0.mk hr1
  have HC1 := Aside0.mk hc1
  clear hr1 hc1
  have HB := Aside0.mk (Below.refl w.heap.size w)
  have H : (if (l0.length : Int) > 200 then (orthoepylaw02_Utf8Longest.j0 k l0 l1 true) else (orthoepylaw02_Utf8Longest.j0 k l0 l1 (decide ((l1.length : Int) > 3)))) = some r := h
  clear h
  have HC3 := Aside0.mk H
  clear H
  go_enter Try.func5, Try.ntmps5
  go_upto_region 1 with (fail)
  go_cut [27] (fun v27 wc => ∃ (kq : Nat) (x27_2 : Bool), v27 = .bool x27_2 ∧ Aside0 (orthoepylaw02_Utf8Longest.j0 kq l0 l1 x27_2 = some r) ∧ Aside0 (kq ≤ k) ∧ Aside0 (Below w.heap.size w wc))
  case first =>
    have H := HC3.out
    clear HC3
    by_cases c4 : (l0.length : Int) > 200
    · rw [if_pos c4] at H
      have c4b0 : decide (200 < (l0.length : Int)) = true := decide_eq_true c4
      have c4b1 : decide (200 < l0.length) = true := decide_eq_true (by omega)
      clear c4
      (first | rw [c4b0] | (simp only [i64_w, i32_w]; rw [c4b0]) | skip)
      have H' := Aside0.mk H
      clear H
      go_wp2
      go_meet
      case rel => exact ⟨_, (true), (by first | rfl | (simp; done) | (simp [*]; done)), H', ⟨by first | omega | exact Nat.le_refl _⟩, ⟨by repeat (first | (with_reducible first | exact HB.out | apply below_alloc | apply pw_below_drewN | apply below_drew1) | exact HB.out)⟩⟩
    · rw [if_neg c4] at H
      have c4b0 : decide (200 < (l0.length : Int)) = false := decide_eq_false c4
      have c4b1 : decide (200 < l0.length) = false := decide_eq_false (by omega)
      clear c4
      (first | rw [c4b0] | (simp only [i64_w, i32_w]; rw [c4b0]) | skip)
      have H' := Aside0.mk H
      clear H
      go_wp2
      go_meet
      case rel => exact ⟨_, (decide ((l1.length : Int) > 3)), (by first | rfl | (simp; done) | (simp [*]; done)), H', ⟨by first | omega | exact Nat.le_refl _⟩, ⟨by repeat (first | (with_reducible first | exact HB.out | apply below_alloc | apply pw_below_drewN | apply below_drew1) | exact HB.out)⟩⟩
  case rest =>
    clear HC3
    try clear c1
    try clear p2
    try clear c4
    try clear c4b0
    try clear c4b1
    obtain ⟨kq, x27_2, rfl, HA, HJ2, HB⟩ := hcut
    cases kq with
    | zero => exact absurd HA.out (by simp [orthoepylaw02_Utf8Longest.j0])
    | succ kj2 =>
      have H := HA.out
      clear HA
      simp only [orthoepylaw02_Utf8Longest.j0] at H
      by_cases c5 : x27_2 = true
      · subst c5
        have H1 : ((orthoepylaw02_awake.f).bind fun t318 => (some t318)) = some r := by rw [if_pos rfl] at H; exact H
        clear H
        have H := H1
        clear H1
        replace H := Option.bind_eq_some_iff.mp H
        obtain ⟨t318, A60, H⟩ := H
        replace H : (some t318) = some r := H
        have A6 := Aside0.mk A60
        clear A60
        obtain rfl := Option.some.inj H
        go_wp2_with (first | ((with_reducible refine gate_callee (f := 8) rfl ?_); refine goesL_ (some 28) rfl rfl Try.func8 (by kernel_rfl) rfl #[] rfl (by (try simp only [List.map_toArray, List.map_cons, List.map_nil]); first | done | rfl | (simp only [List.length_drop, List.length_take]; rfl)) ?_; (with_reducible refine (orthoepylaw02_awake.calls  t318 _ A6.out).mono ?_); rintro e w7 ⟨rfl, hb⟩; refine ⟨_, rfl, ?_⟩; have n0_ := Aside0.mk (below_step (by repeat (first | (with_reducible first | exact HB.out | apply below_alloc | apply pw_below_drewN | apply below_drew1) | exact HB.out)) hb); clear HB; have HB := n0_; clear n0_; (try clear hb); (try clear hb2); (try clear hk); (try clear hi)))
        go_ret
        exact ⟨by first | rfl | (simp [errW_none, errW_some] <;> rfl) | (simp [*, errW_none, errW_some] <;> rfl), by repeat (first | (with_reducible first | exact HB.out | apply below_alloc | apply pw_below_drewN | apply below_drew1) | exact HB.out)⟩
      · replace c5 := Bool.eq_false_iff.mpr c5
        subst c5
        have H1 : ((utf8_All.f kj2 l0).bind fun bt319 => (if bt319.2.1 < 0 then (orthoepylaw02_Utf8Longest.j1 kj2 l0 l1 bt319.2.1 bt319.2.2 true) else (if bt319.2.1 > (l0.length : Int) then (orthoepylaw02_Utf8Longest.j1 kj2 l0 l1 bt319.2.1 bt319.2.2 true) else (if bt319.2.2 = true then (orthoepylaw02_Utf8Longest.j1 kj2 l0 l1 bt319.2.1 bt319.2.2 (bt319.2.1 != (l0.length : Int))) else (orthoepylaw02_Utf8Longest.j1 kj2 l0 l1 bt319.2.1 bt319.2.2 false))))) = some r := by rw [if_neg (show ¬ (false = true) by decide)] at H; exact H
        clear H
        have H := H1
        clear H1
        replace H := Option.bind_eq_some_iff.mp H
        obtain ⟨⟨t319, t320, t321⟩, A80, H⟩ := H
        replace H : (if t320 < 0 then (orthoepylaw02_Utf8Longest.j1 kj2 l0 l1 t320 t321 true) else (if t320 > (l0.length : Int) then (orthoepylaw02_Utf8Longest.j1 kj2 l0 l1 t320 t321 true) else (if t321 = true then (orthoepylaw02_Utf8Longest.j1 kj2 l0 l1 t320 t321 (t320 != (l0.length : Int))) else (orthoepylaw02_Utf8Longest.j1 kj2 l0 l1 t320 t321 false)))) = some r := H
        have A8 := Aside0.mk A80
        clear A80
        have HC9 := Aside0.mk H
        clear H
        go_upto_region 4 with (first | ((with_reducible refine gate_callee (f := 11) rfl ?_); refine goesL_ (some 31) rfl rfl Try.func11 (by kernel_rfl) rfl #[.slice A0 l0.length c0] rfl (by (try simp only [List.map_toArray, List.map_cons, List.map_nil]); first | done | rfl | (simp only [List.length_drop, List.length_take]; rfl)) ?_; (with_reducible refine (utf8_All.calls kj2 _ _ l0 t319 t320 t321 _ ?side1 ?side2 A8.out).mono ?_); (case side1 => repeat (first | exact (Kd.C_below HR0.out HB.out) | (with_reducible refine Kd.C_alloc ?_ _) | (with_reducible refine Kd.C_drewN ?_ _) | (with_reducible refine Kd.C_drew ?_))); (case side2 => exact HC0.out); rintro e w10 ⟨v322, rfl, ho0, hb⟩; refine ⟨_, rfl, ?_⟩; have n0_ := Aside0.mk (Kd.R_lower ho0 (below_size (by repeat (first | (with_reducible first | exact HB.out | apply below_alloc | apply pw_below_drewN | apply below_drew1) | exact HB.out)))); have n1_ := Aside0.mk (below_step (by repeat (first | (with_reducible first | exact HB.out | apply below_alloc | apply pw_below_drewN | apply below_drew1) | exact HB.out)) hb); clear HB; have HO323 := n0_; have HB := n1_; clear n0_ n1_; (try clear hb); (try clear hb2); (try clear hk); (try clear hi); (try clear ho0)))
        (try simp only [Act.put, List.setIfInBounds_toArray, List.set_cons_zero, List.set_cons_succ])
        go_cut [51] (fun v51 wc => ∃ (kq : Nat) (x51_8 : Bool), v51 = .bool x51_8 ∧ Aside0 (orthoepylaw02_Utf8Longest.j1 kq l0 l1 t320 t321 x51_8 = some r) ∧ Aside0 (kq ≤ kj2) ∧ Aside0 (Below w.heap.size w wc))
        case first =>
          have H := HC9.out
          clear HC9
          by_cases c11 : t320 < 0
          · rw [if_pos c11] at H
            have c11b0 : decide (t320 < 0) = true := decide_eq_true c11
            clear c11
            (first | rw [c11b0] | (simp only [i64_w, i32_w]; rw [c11b0]) | skip)
            have H' := Aside0.mk H
            clear H
            go_wp2
            go_meet
            case rel => exact ⟨_, (true), (by first | rfl | (simp; done) | (simp [*]; done)), H', ⟨by have := HJ2.out; first | omega | exact Nat.le_refl _⟩, ⟨by repeat (first | (with_reducible first | exact HB.out | apply below_alloc | apply pw_below_drewN | apply below_drew1) | exact HB.out)⟩⟩
          · rw [if_neg c11] at H
            have c11b0 : decide (t320 < 0) = false := decide_eq_false c11
            clear c11
            (first | rw [c11b0] | (simp only [i64_w, i32_w]; rw [c11b0]) | skip)
            by_cases c12 : t320 > (l0.length : Int)
            · rw [if_pos c12] at H
              have c12b0 : decide ((l0.length : Int) < t320) = true := decide_eq_true c12
              clear c12
              have H' := Aside0.mk H
              clear H
              go_wp2
              go_meet
              case rel => exact ⟨_, (true), (by first | rfl | (simp; done) | (simp [*]; done)), H', ⟨by have := HJ2.out; first | omega | exact Nat.le_refl _⟩, ⟨by repeat (first | (with_reducible first | exact HB.out | apply below_alloc | apply pw_below_drewN | apply below_drew1) | exact HB.out)⟩⟩
            · rw [if_neg c12] at H
              have c12b0 : decide ((l0.length : Int) < t320) = false := decide_eq_false c12
              clear c12
              by_cases c13 : t321 = true
              · subst c13
                have H1 : (orthoepylaw02_Utf8Longest.j1 kj2 l0 l1 t320 true (t320 != (l0.length : Int))) = some r := by rw [if_pos rfl] at H; exact H
                clear H
                have H := H1
                clear H1
                have H' := Aside0.mk H
                clear H
                go_wp2
                go_meet
                case rel => exact ⟨_, ((t320 != (l0.length : Int))), (by first | rfl | (simp; done) | (simp [*]; done)), H', ⟨by have := HJ2.out; first | omega | exact Nat.le_refl _⟩, ⟨by repeat (first | (with_reducible first | exact HB.out | apply below_alloc | apply pw_below_drewN | apply below_drew1) | exact HB.out)⟩⟩
              · replace c13 := Bool.eq_false_iff.mpr c13
                subst c13
                have H1 : (orthoepylaw02_Utf8Longest.j1 kj2 l0 l1 t320 false false) = some r := by rw [if_neg (show ¬ (false = true) by decide)] at H; exact H
                clear H
                have H := H1
                clear H1
                have H' := Aside0.mk H
                clear H
                go_wp2
                go_meet
                case rel => exact ⟨_, (false), (by first | rfl | (simp; done) | (simp [*]; done)), H', ⟨by have := HJ2.out; first | omega | exact Nat.le_refl _⟩, ⟨by repeat (first | (with_reducible first | exact HB.out | apply below_alloc | apply pw_below_drewN | apply below_drew1) | exact HB.out)⟩⟩
        case rest =>
          clear HC9
          try clear c1
          try clear p2
          try clear c4
          try clear c4b0
          try clear c4b1
          try clear c5
          try clear c8
          try clear c11
          try clear c11b0
          try clear c12
          try clear c12b0
          try clear c13
          try clear p2
          obtain ⟨kq, x51_8, rfl, HA, HJ8, HB⟩ := hcut
          cases kq with
          | zero => exact absurd HA.out (by simp [orthoepylaw02_Utf8Longest.j1])
          | succ kj8 =>
            have H := HA.out
            clear HA
            simp only [orthoepylaw02_Utf8Longest.j1] at H
            by_cases c14 : x51_8 = true
            · subst c14
              have H1 : (some false) = some r := by rw [if_pos rfl] at H; exact H
              clear H
              have H := H1
              clear H1
              obtain rfl := Option.some.inj H
              exact absurd hT_.out (by decide)
            · replace c14 := Bool.eq_false_iff.mpr c14
              subst c14
              have H1 : ((some (([] : List Int) : List Int)).bind fun y324 => (if 0 ≤ t320 then (if t320 ≤ (l0.length : Int) then (if y324.length + (l0.take (t320 : Int).toNat).length < 140737488355328 then (orthoepylaw02_Utf8Longest.l0 kj8 l0 l1 t320 t321 (y324 ++ (l0.take (t320 : Int).toNat)) 0) else (none)) else (none)) else (none))) = some r := by rw [if_neg (show ¬ (false = true) by decide)] at H; exact H
              clear H
              have H := H1
              clear H1
              obtain ⟨y324, hy324⟩ : ∃ y_ : List Int, y_ = (([] : List Int)) := ⟨_, rfl⟩
              replace H : (if 0 ≤ t320 then (if t320 ≤ (l0.length : Int) then (if y324.length + (l0.take (t320 : Int).toNat).length < 140737488355328 then (orthoepylaw02_Utf8Longest.l0 kj8 l0 l1 t320 t321 (y324 ++ (l0.take (t320 : Int).toNat)) 0) else (none)) else (none)) else (none)) = some r := by first | (rw [hy324]; with_reducible exact H) | (have H2_ := (Option.bind_some _ _).symm.trans H; rw [hy324]; with_reducible exact H2_) | (have H2_ := (Option.bind_some _ _).symm.trans H; with_reducible exact H2_) | with_reducible exact H | (rw [hy324]; exact H) | exact H
              have Ny324 := Aside0.mk hy324
              clear hy324
              by_cases c15 : 0 ≤ t320
              · rw [if_pos c15] at H
                have c15b0 := eq_true c15
                have c15b1 : decide (0 ≤ t320) = true := decide_eq_true c15
                clear c15
                by_cases c16 : t320 ≤ (l0.length : Int)
                · rw [if_pos c16] at H
                  have c16b0 := eq_true c16
                  have c16b1 : decide (t320 ≤ (l0.length : Int)) = true := decide_eq_true c16
                  clear c16
                  by_cases c17 : y324.length + (l0.take (t320 : Int).toNat).length < 140737488355328
                  · rw [if_pos c17] at H
                    have LMc17 := Aside0.mk c17
                    clear c17
                    obtain ⟨y328, hy328⟩ : ∃ y_ : List Int, y_ = (y324 ++ (l0.take (t320 : Int).toNat)) := ⟨_, rfl⟩
                    replace H : (orthoepylaw02_Utf8Longest.l0 kj8 l0 l1 t320 t321 y328 0) = some r := by first | (rw [hy328]; with_reducible exact H) | (have H2_ := (Option.bind_some _ _).symm.trans H; rw [hy328]; with_reducible exact H2_) | (have H2_ := (Option.bind_some _ _).symm.trans H; with_reducible exact H2_) | with_reducible exact H | (rw [hy328]; exact H) | exact H
                    have Ny328 := Aside0.mk hy328
                    clear hy328
                    have HC18 := Aside0.mk H
                    clear H
                    go_upto_block 0 with (first | ((with_reducible refine gate_dst (N := 52) rfl ?_); (try (refine gate_guard (by rfl) ?_; dsimp only)); refine Kd.R_lit (Kd.int .u8) _ 5 ?hg (N := 52) ?hd (xs := ([] : List Int)) (inner := []) (ok := fun _ => True) (okp := fun _ => True) ?hr ?hp (fun _ hk => hk) trivial (Below.refl _ _) (Nat.le_refl _) (by simp) ?_; (case hd => rfl); (case hg => rfl); (case hr => first | (go_simp; done) | (go_simp; rfl)); (case hp => exact (Reps.none _ _)); intro v325 w19 ho20 hb hg_ hnew_; clear hg_ hnew_; (first | rw [← Ny324.out] at ho20 | (simp only [Int.reduceToNat] at ho20; rw [← Ny324.out] at ho20)); have n0_ := Aside0.mk (Kd.R_lower ho20 (below_size (by repeat (first | (with_reducible first | exact HB.out | apply below_alloc | apply pw_below_drewN | apply below_drew1) | exact HB.out)))); have n1_ := Aside0.mk (below_step (by repeat (first | (with_reducible first | exact HB.out | apply below_alloc | apply pw_below_drewN | apply below_drew1) | exact HB.out)) hb); clear HB; have HO326 := n0_; have HB := n1_; clear n0_ n1_; clear hb ho20; obtain ⟨i021, hi021, _, hsz21, _⟩ := info_parts info5; obtain ⟨hcut21, hA21, hC21⟩ := print_take_of (P := Try.prog) (Value.int .u8) 0 22 5 .i64 Try.underlying22 hi021 hsz21 A0 c0 l0 t320 (of_decide_eq_true (by first | (with_reducible assumption) | assumption)) (of_decide_eq_true (by first | (with_reducible assumption) | assumption)) HC0.out; have HR327 := Aside0.mk (Kd.C_of_reads (h1 := fun _ => rfl) (hA21 _ (Kd.reads_of_C HR0.out))); have HC327 := Aside0.mk hC21; clear hA21 hC21 hi021 hsz21) | ((with_reducible refine gate_builtin (b := .append) (xs := #[.tmp 52, .tmp 55]) rfl ?_); (try (refine gate_guard (by rfl) ?_; dsimp only)); at_builtin; refine Kd.R_append_rows (Kd.int .u8) (w0 := w) w.heap.size rfl (.tmp 52) (.tmp 55) 22 5 (.int .u8 0) 1 rfl Try.underlying22 info5 rfl (by decide) (by omega) v325 y324 (l0.take (t320 : Int).toNat) _ _ _ (fun _ => True) (fun _ => False) rfl rfl ?aO ?aR (fun _ _ h => h) (fun _ h => h.elim) ?aF ?aB ?aS ?aL ?_; (case aR => refine (show ∀ {E_ : Type} {R_ : E_ → List Value → Prop} {s_ : Nat} {w_ : World} {A_ : Option Addr} {n_ m_ : Nat} {x_ : List E_}, n_ = m_ → ReadsRow R_ s_ w_ A_ n_ x_ → ReadsRow R_ s_ w_ A_ m_ x_ from fun h_ r_ => h_ ▸ r_) (show (l0.take (t320 : Int).toNat).length = t320.toNat from (by rw [List.length_take]; have h_ : (t320 : Int) ≤ (l0.length : Int) := of_decide_eq_true (by first | (with_reducible assumption) | assumption); omega)) ?_; repeat (first | exact (Kd.C_below HR327.out HB.out) | (with_reducible refine Kd.C_alloc ?_ _) | (with_reducible refine Kd.C_drewN ?_ _) | (with_reducible refine Kd.C_drew ?_))); (case aB => exact (by repeat (first | (with_reducible first | exact HB.out | apply below_alloc | apply pw_below_drewN | apply below_drew1) | exact HB.out))); (case aF => exact (fun _ _ => trivial)); (case aO => exact (by (with_reducible repeat (first | apply Kd.R_alloc | apply Kd.R_drewN | apply Kd.R_drew)); exact HO326.out)); (case aS => exact (below_size (by repeat (first | (with_reducible first | exact HB.out | apply below_alloc | apply pw_below_drewN | apply below_drew1) | exact HB.out)))); (case aL => have := LMc17.out; have hlx_ := (show (l0.take (t320 : Int).toNat).length = t320.toNat from (by rw [List.length_take]; have h_ : (t320 : Int) ≤ (l0.length : Int) := of_decide_eq_true (by first | (with_reducible assumption) | assumption); omega)); omega); intro v329 w22 ho hb hg hat; rw [← Ny328.out] at ho; have n0_ := Aside0.mk (hb); have n1_ := Aside0.mk (ho); clear HB; clear HO326; have HB := n0_; have HO330 := n1_; clear n0_ n1_; clear ho hb hg hat))
                    (try simp only [Act.put, List.setIfInBounds_toArray, List.set_cons_zero, List.set_cons_succ])
                    go_cut [8] (fun v8 wc => ∃ (kq : Nat) (x8_17 : List Int), Aside0 (orthoepylaw02_Utf8Longest.j4 kq l0 l1 t320 t321 x8_17 = some r) ∧ Aside0 (kq ≤ kj8) ∧ Aside0 (Kd.R (Kd.int .u8) 5 wc w.heap.size (fun _ => True) v8 x8_17) ∧ Aside0 (Below w.heap.size w wc))
                    case first =>
                      have H := HC18.out
                      clear HC18
                      have H' := Aside0.mk H
                      clear H
                      go_wp2
                      go_loopg [8, 9] kj8 (fun kq v8 v9 w' => ∃ (x8_3 : List Int) (x9_3 : Int), v9 = .int .i64 x9_3 ∧ Aside0 (orthoepylaw02_Utf8Longest.l0 kq l0 l1 t320 t321 x8_3 x9_3 = some r) ∧ Aside0 (kq ≤ kj8) ∧ Aside0 (Kd.R (Kd.int .u8) 5 w' w.heap.size (fun _ => True) v8 x8_3) ∧ Aside0 (Below w.heap.size w w'))
                      case atStart => exact ⟨(y328), (0), (by first | rfl | (simp; done) | (simp [*]; done)), H', ⟨Nat.le_refl _⟩, ⟨by (with_reducible repeat (first | apply Kd.R_alloc | apply Kd.R_drewN | apply Kd.R_drew)); exact HO330.out⟩, ⟨by repeat (first | (with_reducible first | exact HB.out | apply below_alloc | apply pw_below_drewN | apply below_drew1) | exact HB.out)⟩⟩
                      case round =>
                        clear H'
                        try clear c1
                        try clear p2
                        try clear c4
                        try clear c4b0
                        try clear c4b1
                        try clear c5
                        try clear c8
                        try clear c11
                        try clear c11b0
                        try clear c12
                        try clear c12b0
                        try clear c13
                        try clear c14
                        try clear c15
                        try clear c15b0
                        try clear c15b1
                        try clear c16
                        try clear c16b0
                        try clear c16b1
                        try clear c17
                        try clear p2
                        obtain ⟨x8_3, x9_3, rfl, HA, HK3, HO_8, HB⟩ := hrel
                        cases gk with
                        | zero => exact absurd HA.out (by simp [orthoepylaw02_Utf8Longest.l0])
                        | succ k3 =>
                          have H := HA.out
                          clear HA
                          simp only [orthoepylaw02_Utf8Longest.l0] at H
                          by_cases c23 : x9_3 < 3
                          · rw [if_pos c23] at H
                            have c23b0 : decide (x9_3 < 3) = true := decide_eq_true c23
                            clear c23
                            (first | rw [c23b0] | (simp only [i64_w, i32_w]; rw [c23b0]) | skip)
                            replace H := Option.bind_eq_some_iff.mp H
                            obtain ⟨⟨t331, t332, t333⟩, A240, H⟩ := H
                            replace H : (if t333 = true then (orthoepylaw02_Utf8Longest.j4 k3 l0 l1 t320 t321 x8_3) else (orthoepylaw02_Utf8Longest.l1 k3 l0 l1 t320 t321 x8_3 x9_3 128)) = some r := H
                            have A24 := Aside0.mk A240
                            clear A240
                            by_cases c25 : t333 = true
                            · subst c25
                              have H1 : (orthoepylaw02_Utf8Longest.j4 k3 l0 l1 t320 t321 x8_3) = some r := by rw [if_pos rfl] at H; exact H
                              clear H
                              have H := H1
                              clear H1
                              have H' := Aside0.mk H
                              clear H
                              obtain ⟨Ao26, co26, eo26⟩ := Kd.R_slice HO_8.out
                              subst eo26
                              go_wp2_with (first | ((with_reducible refine gate_callee (f := 12) rfl ?_); refine goesL_ (some 63) rfl rfl Try.func12 (by kernel_rfl) rfl #[.slice Ao26 x8_3.length co26] rfl (by (try simp only [List.map_toArray, List.map_cons, List.map_nil]); first | done | rfl | (simp only [List.length_drop, List.length_take]; rfl)) ?_; (with_reducible refine (orthoepyref02_All.calls k3 _ _ x8_3 t331 t332 true _ ?side1 ?side2 A24.out).mono ?_); (case side1 => repeat (first | exact (Kd.R_reads' HO_8.out).2.2 | (with_reducible refine Kd.C_alloc ?_ _) | (with_reducible refine Kd.C_drewN ?_ _) | (with_reducible refine Kd.C_drew ?_))); (case side2 => exact (Kd.R_reads' HO_8.out).2.1); rintro e w27 ⟨v334, rfl, ho0, hb⟩; refine ⟨_, rfl, ?_⟩; have n0_ := Aside0.mk (Kd.R_below (by (with_reducible repeat (first | apply Kd.R_alloc | apply Kd.R_drewN | apply Kd.R_drew)); exact HO_8.out) hb); have n1_ := Aside0.mk (Kd.R_lower ho0 (below_size (by repeat (first | (with_reducible first | exact HB.out | apply below_alloc | apply pw_below_drewN | apply below_drew1) | exact HB.out)))); have n2_ := Aside0.mk (below_step (by repeat (first | (with_reducible first | exact HB.out | apply below_alloc | apply pw_below_drewN | apply below_drew1) | exact HB.out)) hb); clear HO_8; clear HB; have HO_8 := n0_; have HO335 := n1_; have HB := n2_; clear n0_ n1_ n2_; (try clear hb); (try clear hb2); (try clear hk); (try clear hi); (try clear ho0)))
                              go_meet
                              case rel => exact ⟨_, (x8_3), H', ⟨by have := HJ2.out; have := HJ8.out; have := HK3.out; first | omega | exact Nat.le_refl _⟩, ⟨by (with_reducible repeat (first | apply Kd.R_alloc | apply Kd.R_drewN | apply Kd.R_drew)); exact HO_8.out⟩, ⟨by repeat (first | (with_reducible first | exact HB.out | apply below_alloc | apply pw_below_drewN | apply below_drew1) | exact HB.out)⟩⟩
                            · replace c25 := Bool.eq_false_iff.mpr c25
                              subst c25
                              have H1 : (orthoepylaw02_Utf8Longest.l1 k3 l0 l1 t320 t321 x8_3 x9_3 128) = some r := by rw [if_neg (show ¬ (false = true) by decide)] at H; exact H
                              clear H
                              have H := H1
                              clear H1
                              have H' := Aside0.mk H
                              clear H
                              obtain ⟨Ao28, co28, eo28⟩ := Kd.R_slice HO_8.out
                              subst eo28
                              go_wp2_with (first | ((with_reducible refine gate_callee (f := 12) rfl ?_); refine goesL_ (some 63) rfl rfl Try.func12 (by kernel_rfl) rfl #[.slice Ao28 x8_3.length co28] rfl (by (try simp only [List.map_toArray, List.map_cons, List.map_nil]); first | done | rfl | (simp only [List.length_drop, List.length_take]; rfl)) ?_; (with_reducible refine (orthoepyref02_All.calls k3 _ _ x8_3 t331 t332 false _ ?side1 ?side2 A24.out).mono ?_); (case side1 => repeat (first | exact (Kd.R_reads' HO_8.out).2.2 | (with_reducible refine Kd.C_alloc ?_ _) | (with_reducible refine Kd.C_drewN ?_ _) | (with_reducible refine Kd.C_drew ?_))); (case side2 => exact (Kd.R_reads' HO_8.out).2.1); rintro e w29 ⟨v334, rfl, ho0, hb⟩; refine ⟨_, rfl, ?_⟩; have n0_ := Aside0.mk (Kd.R_below (by (with_reducible repeat (first | apply Kd.R_alloc | apply Kd.R_drewN | apply Kd.R_drew)); exact HO_8.out) hb); have n1_ := Aside0.mk (Kd.R_lower ho0 (below_size (by repeat (first | (with_reducible first | exact HB.out | apply below_alloc | apply pw_below_drewN | apply below_drew1) | exact HB.out)))); have n2_ := Aside0.mk (below_step (by repeat (first | (with_reducible first | exact HB.out | apply below_alloc | apply pw_below_drewN | apply below_drew1) | exact HB.out)) hb); clear HO_8; clear HB; have HO_8 := n0_; have HO335 := n1_; have HB := n2_; clear n0_ n1_ n2_; (try clear hb); (try clear hb2); (try clear hk); (try clear hi); (try clear ho0)))
                              go_loopg [13] k3 (fun kq v13 w' => ∃ (x13_4 : Int), v13 = .int .u8 x13_4 ∧ Aside0 (orthoepylaw02_Utf8Longest.l1 kq l0 l1 t320 t321 x8_3 x9_3 x13_4 = some r) ∧ Aside0 (kq ≤ k3) ∧ Aside0 (Kd.R (Kd.int .u8) 5 w' w.heap.size (fun _ => True) (.slice Ao28 x8_3.length co28) x8_3) ∧ Aside0 (Below w.heap.size w w'))
                              case atStart => exact ⟨(128), (by first | rfl | (simp; done) | (simp [*]; done)), H', ⟨Nat.le_refl _⟩, ⟨by (with_reducible repeat (first | apply Kd.R_alloc | apply Kd.R_drewN | apply Kd.R_drew)); exact HO_8.out⟩, ⟨by repeat (first | (with_reducible first | exact HB.out | apply below_alloc | apply pw_below_drewN | apply below_drew1) | exact HB.out)⟩⟩
                              case round =>
                                clear H'
                                try clear c1
                                try clear c2
                                try clear p2
                                try clear c4
                                try clear c4b0
                                try clear c4b1
                                try clear c5
                                try clear c8
                                try clear c11
                                try clear c11b0
                                try clear c12
                                try clear c12b0
                                try clear c13
                                try clear c14
                                try clear c15
                                try clear c15b0
                                try clear c15b1
                                try clear c16
                                try clear c16b0
                                try clear c16b1
                                try clear c17
                                try clear c23
                                try clear c23b0
                                try clear c25
                                try clear p2
                                obtain ⟨x13_4, rfl, HA, HK4, HO_8, HB⟩ := hrel
                                cases gk with
                                | zero => exact absurd HA.out (by simp [orthoepylaw02_Utf8Longest.l1])
                                | succ k4 =>
                                  have H := HA.out
                                  clear HA
                                  simp only [orthoepylaw02_Utf8Longest.l1] at H
                                  by_cases c30 : x13_4 < 191
                                  · rw [if_pos c30] at H
                                    have c30b0 : decide (x13_4 < 191) = true := decide_eq_true c30
                                    clear c30
                                    obtain ⟨y336, hy336⟩ : ∃ y_ : List Int, y_ = (([] : List Int)) := ⟨_, rfl⟩
                                    replace H : (if y336.length + x8_3.length < 140737488355328 then ((some (y336 ++ x8_3 : List Int)).bind fun y339 => (if y339.length < 140737488355328 then ((orthoepylaw02_begins.f k4 (y339 ++ [x13_4])).bind fun t345 => (if t345 = true then (if x8_3.length < 140737488355328 then (orthoepylaw02_Utf8Longest.l0 k4 l0 l1 t320 t321 (x8_3 ++ [x13_4]) (wrap64 (x9_3 + 1))) else (none)) else (orthoepylaw02_Utf8Longest.l1 k4 l0 l1 t320 t321 x8_3 x9_3 ((x13_4 + 1) % 256)))) else (none))) else (none)) = some r := by first | (rw [hy336]; with_reducible exact H) | (have H2_ := (Option.bind_some _ _).symm.trans H; rw [hy336]; with_reducible exact H2_) | (have H2_ := (Option.bind_some _ _).symm.trans H; with_reducible exact H2_) | with_reducible exact H | (rw [hy336]; exact H) | exact H
                                    have Ny336 := Aside0.mk hy336
                                    clear hy336
                                    by_cases c31 : y336.length + x8_3.length < 140737488355328
                                    · rw [if_pos c31] at H
                                      have LMc31 := Aside0.mk c31
                                      clear c31
                                      obtain ⟨y339, hy339⟩ : ∃ y_ : List Int, y_ = (y336 ++ x8_3) := ⟨_, rfl⟩
                                      replace H : (if y339.length < 140737488355328 then ((orthoepylaw02_begins.f k4 (y339 ++ [x13_4])).bind fun t345 => (if t345 = true then (if x8_3.length < 140737488355328 then (orthoepylaw02_Utf8Longest.l0 k4 l0 l1 t320 t321 (x8_3 ++ [x13_4]) (wrap64 (x9_3 + 1))) else (none)) else (orthoepylaw02_Utf8Longest.l1 k4 l0 l1 t320 t321 x8_3 x9_3 ((x13_4 + 1) % 256)))) else (none)) = some r := by first | (rw [hy339]; with_reducible exact H) | (have H2_ := (Option.bind_some _ _).symm.trans H; rw [hy339]; with_reducible exact H2_) | (have H2_ := (Option.bind_some _ _).symm.trans H; with_reducible exact H2_) | with_reducible exact H | (rw [hy339]; exact H) | exact H
                                      have Ny339 := Aside0.mk hy339
                                      clear hy339
                                      by_cases c32 : y339.length < 140737488355328
                                      · rw [if_pos c32] at H
                                        have LMc32 := Aside0.mk c32
                                        clear c32
                                        obtain ⟨y342, hy342⟩ : ∃ y_ : List Int, y_ = (y339 ++ [x13_4]) := ⟨_, rfl⟩
                                        replace H : ((orthoepylaw02_begins.f k4 y342).bind fun t345 => (if t345 = true then (if x8_3.length < 140737488355328 then (orthoepylaw02_Utf8Longest.l0 k4 l0 l1 t320 t321 (x8_3 ++ [x13_4]) (wrap64 (x9_3 + 1))) else (none)) else (orthoepylaw02_Utf8Longest.l1 k4 l0 l1 t320 t321 x8_3 x9_3 ((x13_4 + 1) % 256)))) = some r := by first | (rw [hy342]; with_reducible exact H) | (have H2_ := (Option.bind_some _ _).symm.trans H; rw [hy342]; with_reducible exact H2_) | (have H2_ := (Option.bind_some _ _).symm.trans H; with_reducible exact H2_) | with_reducible exact H | (rw [hy342]; exact H) | exact H
                                        have Ny342 := Aside0.mk hy342
                                        clear hy342
                                        replace H := Option.bind_eq_some_iff.mp H
                                        obtain ⟨t345, A330, H⟩ := H
                                        replace H : (if t345 = true then (if x8_3.length < 140737488355328 then (orthoepylaw02_Utf8Longest.l0 k4 l0 l1 t320 t321 (x8_3 ++ [x13_4]) (wrap64 (x9_3 + 1))) else (none)) else (orthoepylaw02_Utf8Longest.l1 k4 l0 l1 t320 t321 x8_3 x9_3 ((x13_4 + 1) % 256))) = some r := H
                                        have A33 := Aside0.mk A330
                                        clear A330
                                        by_cases c34 : t345 = true
                                        · subst c34
                                          have H1 : (if x8_3.length < 140737488355328 then (orthoepylaw02_Utf8Longest.l0 k4 l0 l1 t320 t321 (x8_3 ++ [x13_4]) (wrap64 (x9_3 + 1))) else (none)) = some r := by rw [if_pos rfl] at H; exact H
                                          clear H
                                          have H := H1
                                          clear H1
                                          by_cases c35 : x8_3.length < 140737488355328
                                          · rw [if_pos c35] at H
                                            have LMc35 := Aside0.mk c35
                                            clear c35
                                            obtain ⟨y346, hy346⟩ : ∃ y_ : List Int, y_ = (x8_3 ++ [x13_4]) := ⟨_, rfl⟩
                                            replace H : (orthoepylaw02_Utf8Longest.l0 k4 l0 l1 t320 t321 y346 (wrap64 (x9_3 + 1))) = some r := by first | (rw [hy346]; with_reducible exact H) | (have H2_ := (Option.bind_some _ _).symm.trans H; rw [hy346]; with_reducible exact H2_) | (have H2_ := (Option.bind_some _ _).symm.trans H; with_reducible exact H2_) | with_reducible exact H | (rw [hy346]; exact H) | exact H
                                            have Ny346 := Aside0.mk hy346
                                            clear hy346
                                            have H' := Aside0.mk H
                                            clear H
                                            go_wp2_with (first | ((with_reducible refine gate_dst (N := 71) rfl ?_); (try (refine gate_guard (by rfl) ?_; dsimp only)); refine Kd.R_lit (Kd.int .u8) _ 5 ?hg (N := 71) ?hd (xs := ([] : List Int)) (inner := []) (ok := fun _ => True) (okp := fun _ => True) ?hr ?hp (fun _ hk => hk) trivial (Below.refl _ _) (Nat.le_refl _) (by simp) ?_; (case hd => rfl); (case hg => rfl); (case hr => first | (go_simp; done) | (go_simp; rfl)); (case hp => exact (Reps.none _ _)); intro v337 w36 ho37 hb hg_ hnew_; clear hg_ hnew_; (first | rw [← Ny336.out] at ho37 | (simp only [Int.reduceToNat] at ho37; rw [← Ny336.out] at ho37)); have n0_ := Aside0.mk (Kd.R_elder' (by (with_reducible repeat (first | apply Kd.R_alloc | apply Kd.R_drewN | apply Kd.R_drew)); exact HO_8.out) (Kd.R_base ho37) hb); have n1_ := Aside0.mk (Kd.R_lower (Kd.R_new' ho37 (Kd.R_lt (by (with_reducible repeat (first | apply Kd.R_alloc | apply Kd.R_drewN | apply Kd.R_drew)); exact HO_8.out))) (below_size (by repeat (first | (with_reducible first | exact HB.out | apply below_alloc | apply pw_below_drewN | apply below_drew1) | exact HB.out)))); have n2_ := Aside0.mk (below_step (by repeat (first | (with_reducible first | exact HB.out | apply below_alloc | apply pw_below_drewN | apply below_drew1) | exact HB.out)) hb); clear HO_8; clear HB; have HO_8 := n0_; have HO338 := n1_; have HB := n2_; clear n0_ n1_ n2_; clear hb ho37) | ((with_reducible refine gate_builtin (b := .append) (xs := #[.tmp 71, .tmp 72]) rfl ?_); (try (refine gate_guard (by rfl) ?_; dsimp only)); at_builtin; refine Kd.R_append_rows (Kd.int .u8) (w0 := w) w.heap.size rfl (.tmp 71) (.tmp 72) 22 5 (.int .u8 0) 1 rfl Try.underlying22 info5 rfl (by decide) (by omega) v337 y336 x8_3 _ _ _ (fun k_ => some k_ ≠ (.slice Ao28 x8_3.length co28 : Value).ownBlock) (fun _ => False) rfl rfl ?aO ?aR (fun _ _ h => h) (fun _ h => h.elim) ?aF ?aB ?aS ?aL ?_; (case aR => repeat (first | exact (Kd.R_reads' HO_8.out).2.2 | (with_reducible refine Kd.C_alloc ?_ _) | (with_reducible refine Kd.C_drewN ?_ _) | (with_reducible refine Kd.C_drew ?_))); (case aB => exact (by repeat (first | (with_reducible first | exact HB.out | apply below_alloc | apply pw_below_drewN | apply below_drew1) | exact HB.out))); (case aF => exact (fun k_ hk => Kd.fresh' (Kd.R_lt (by (with_reducible repeat (first | apply Kd.R_alloc | apply Kd.R_drewN | apply Kd.R_drew)); exact HO_8.out)) k_ hk)); (case aO => exact (by (with_reducible repeat (first | apply Kd.R_alloc | apply Kd.R_drewN | apply Kd.R_drew)); exact Kd.R_mono HO338.out (fun _ hk => hk.2))); (case aS => exact (below_size (by repeat (first | (with_reducible first | exact HB.out | apply below_alloc | apply pw_below_drewN | apply below_drew1) | exact HB.out)))); (case aL => have := LMc31.out; omega); intro v340 w38 ho hb hg hat; rw [← Ny339.out] at ho; have n0_ := Aside0.mk (Kd.R_after (ok := (fun _ => True)) (by (with_reducible repeat (first | apply Kd.R_alloc | apply Kd.R_drewN | apply Kd.R_drew)); exact HO_8.out) hg hat); have n1_ := Aside0.mk (hb); have n2_ := Aside0.mk (ho); clear HO_8; clear HB; clear HO338; have HO_8 := n0_; have HB := n1_; have HO341 := n2_; clear n0_ n1_ n2_; clear ho hb hg hat) | ((with_reducible refine gate_builtin (b := .append) (xs := #[.tmp 73, .tmp 75]) rfl ?_); (try (refine gate_guard (by rfl) ?_; dsimp only)); at_builtin; refine Kd.R_append (Kd.int .u8) (w0 := w) w.heap.size rfl (.tmp 73) (.tmp 75) 22 5 (.int .u8 0) 1 rfl Try.underlying22 info5 rfl (by decide) (by omega) v340 y339 x13_4 [.int .u8 x13_4] (fun k_ => some k_ ≠ (.slice Ao28 x8_3.length co28 : Value).ownBlock) (fun _ => False) rfl rfl ?aP (fun _ hk => hk.elim) ?aF ?aO ?aB ?aS ?aL ?_; (case aP => exact rfl); (case aB => exact (by repeat (first | (with_reducible first | exact HB.out | apply below_alloc | apply pw_below_drewN | apply below_drew1) | exact HB.out))); (case aF => exact (fun k_ hk => Kd.fresh' (Kd.R_lt (by (with_reducible repeat (first | apply Kd.R_alloc | apply Kd.R_drewN | apply Kd.R_drew)); exact HO_8.out)) k_ hk)); (case aO => exact (by (with_reducible repeat (first | apply Kd.R_alloc | apply Kd.R_drewN | apply Kd.R_drew)); exact HO341.out)); (case aS => exact (below_size (by repeat (first | (with_reducible first | exact HB.out | apply below_alloc | apply pw_below_drewN | apply below_drew1) | exact HB.out)))); (case aL => have := LMc32.out; omega); intro v343 w39 ho hb hg hat; rw [← Ny342.out] at ho; have n0_ := Aside0.mk (Kd.R_after (ok := (fun _ => True)) (by (with_reducible repeat (first | apply Kd.R_alloc | apply Kd.R_drewN | apply Kd.R_drew)); exact HO_8.out) hg hat); have n1_ := Aside0.mk (hb); have n2_ := Aside0.mk (ho); clear HO_8; clear HB; clear HO341; have HO_8 := n0_; have HB := n1_; have HO344 := n2_; clear n0_ n1_ n2_; clear ho hb hg hat; obtain ⟨Ao40, co40, eo40⟩ := Kd.R_slice HO344.out; subst eo40) | (go_at_call 19; (with_reducible refine (orthoepylaw02_begins.calls k4 _ _ y342 true _ ?side1 ?side2 A33.out).mono ?_); (case side1 => repeat (first | exact (Kd.R_reads' HO344.out).2.2 | (with_reducible refine Kd.C_alloc ?_ _) | (with_reducible refine Kd.C_drewN ?_ _) | (with_reducible refine Kd.C_drew ?_))); (case side2 => exact (Kd.R_reads' HO344.out).2.1); rintro e w41 ⟨rfl, hb⟩; have n0_ := Aside0.mk (Kd.R_below (by (with_reducible repeat (first | apply Kd.R_alloc | apply Kd.R_drewN | apply Kd.R_drew)); exact HO_8.out) hb); have n1_ := Aside0.mk (Kd.R_below (by (with_reducible repeat (first | apply Kd.R_alloc | apply Kd.R_drewN | apply Kd.R_drew)); exact HO344.out) hb); have n2_ := Aside0.mk (below_step (by repeat (first | (with_reducible first | exact HB.out | apply below_alloc | apply pw_below_drewN | apply below_drew1) | exact HB.out)) hb); clear HO_8; clear HO344; clear HB; have HO_8 := n0_; have HO344 := n1_; have HB := n2_; clear n0_ n1_ n2_; (try clear hb); (try clear hb2); (try clear hk); (try clear hi)) | ((with_reducible refine gate_builtin (b := .append) (xs := #[.tmp 82, .tmp 84]) rfl ?_); (try (refine gate_guard (by rfl) ?_; dsimp only)); at_builtin; refine Kd.R_append (Kd.int .u8) (w0 := w) w.heap.size rfl (.tmp 82) (.tmp 84) 22 5 (.int .u8 0) 1 rfl Try.underlying22 info5 rfl (by decide) (by omega) (.slice Ao28 x8_3.length co28) x8_3 x13_4 [.int .u8 x13_4] (fun k_ => some k_ ≠ (.slice Ao40 y342.length co40 : Value).ownBlock) (fun _ => False) rfl rfl ?aP (fun _ hk => hk.elim) ?aF ?aO ?aB ?aS ?aL ?_; (case aP => exact rfl); (case aB => exact (by repeat (first | (with_reducible first | exact HB.out | apply below_alloc | apply pw_below_drewN | apply below_drew1) | exact HB.out))); (case aF => exact (fun k_ hk => Kd.fresh' (Kd.R_lt (by (with_reducible repeat (first | apply Kd.R_alloc | apply Kd.R_drewN | apply Kd.R_drew)); exact HO344.out)) k_ hk)); (case aO => exact (by (with_reducible repeat (first | apply Kd.R_alloc | apply Kd.R_drewN | apply Kd.R_drew)); exact Kd.R_mono HO_8.out (fun _ hk => hk.2))); (case aS => exact (below_size (by repeat (first | (with_reducible first | exact HB.out | apply below_alloc | apply pw_below_drewN | apply below_drew1) | exact HB.out)))); (case aL => have := LMc35.out; omega); intro v347 w42 ho hb hg hat; rw [← Ny346.out] at ho; have n0_ := Aside0.mk (Kd.R_after (ok := (fun _ => True)) (by (with_reducible repeat (first | apply Kd.R_alloc | apply Kd.R_drewN | apply Kd.R_drew)); exact Kd.R_mono HO344.out (fun _ hk => ⟨trivial, hk⟩)) hg hat); have n1_ := Aside0.mk (hb); have n2_ := Aside0.mk (ho); clear HO344; clear HB; clear HO_8; have HO344 := n0_; have HB := n1_; have HO348 := n2_; clear n0_ n1_ n2_; clear ho hb hg hat))
                                            go_roundg k4
                                            case measure => have := HJ2.out; have := HJ8.out; have := HK3.out; have := HK4.out; omega
                                            case rel => exact ⟨(y346), (wrap64 (x9_3 + 1)), (by first | rfl | (simp; done) | (simp [*]; done)), H', ⟨by have := HJ2.out; have := HJ8.out; have := HK3.out; have := HK4.out; omega⟩, ⟨by (with_reducible repeat (first | apply Kd.R_alloc | apply Kd.R_drewN | apply Kd.R_drew)); exact Kd.R_mono HO348.out (fun _ hk => trivial)⟩, ⟨by repeat (first | (with_reducible first | exact HB.out | apply below_alloc | apply pw_below_drewN | apply below_drew1) | exact HB.out)⟩⟩
                                          · rw [if_neg c35] at H
                                            exact absurd H (by simp)
                                        · replace c34 := Bool.eq_false_iff.mpr c34
                                          subst c34
                                          have H1 : (orthoepylaw02_Utf8Longest.l1 k4 l0 l1 t320 t321 x8_3 x9_3 ((x13_4 + 1) % 256)) = some r := by rw [if_neg (show ¬ (false = true) by decide)] at H; exact H
                                          clear H
                                          have H := H1
                                          clear H1
                                          have H' := Aside0.mk H
                                          clear H
                                          go_wp2_with (first | ((with_reducible refine gate_dst (N := 71) rfl ?_); (try (refine gate_guard (by rfl) ?_; dsimp only)); refine Kd.R_lit (Kd.int .u8) _ 5 ?hg (N := 71) ?hd (xs := ([] : List Int)) (inner := []) (ok := fun _ => True) (okp := fun _ => True) ?hr ?hp (fun _ hk => hk) trivial (Below.refl _ _) (Nat.le_refl _) (by simp) ?_; (case hd => rfl); (case hg => rfl); (case hr => first | (go_simp; done) | (go_simp; rfl)); (case hp => exact (Reps.none _ _)); intro v337 w43 ho44 hb hg_ hnew_; clear hg_ hnew_; (first | rw [← Ny336.out] at ho44 | (simp only [Int.reduceToNat] at ho44; rw [← Ny336.out] at ho44)); have n0_ := Aside0.mk (Kd.R_elder' (by (with_reducible repeat (first | apply Kd.R_alloc | apply Kd.R_drewN | apply Kd.R_drew)); exact HO_8.out) (Kd.R_base ho44) hb); have n1_ := Aside0.mk (Kd.R_lower (Kd.R_new' ho44 (Kd.R_lt (by (with_reducible repeat (first | apply Kd.R_alloc | apply Kd.R_drewN | apply Kd.R_drew)); exact HO_8.out))) (below_size (by repeat (first | (with_reducible first | exact HB.out | apply below_alloc | apply pw_below_drewN | apply below_drew1) | exact HB.out)))); have n2_ := Aside0.mk (below_step (by repeat (first | (with_reducible first | exact HB.out | apply below_alloc | apply pw_below_drewN | apply below_drew1) | exact HB.out)) hb); clear HO_8; clear HB; have HO_8 := n0_; have HO338 := n1_; have HB := n2_; clear n0_ n1_ n2_; clear hb ho44) | ((with_reducible refine gate_builtin (b := .append) (xs := #[.tmp 71, .tmp 72]) rfl ?_); (try (refine gate_guard (by rfl) ?_; dsimp only)); at_builtin; refine Kd.R_append_rows (Kd.int .u8) (w0 := w) w.heap.size rfl (.tmp 71) (.tmp 72) 22 5 (.int .u8 0) 1 rfl Try.underlying22 info5 rfl (by decide) (by omega) v337 y336 x8_3 _ _ _ (fun k_ => some k_ ≠ (.slice Ao28 x8_3.length co28 : Value).ownBlock) (fun _ => False) rfl rfl ?aO ?aR (fun _ _ h => h) (fun _ h => h.elim) ?aF ?aB ?aS ?aL ?_; (case aR => repeat (first | exact (Kd.R_reads' HO_8.out).2.2 | (with_reducible refine Kd.C_alloc ?_ _) | (with_reducible refine Kd.C_drewN ?_ _) | (with_reducible refine Kd.C_drew ?_))); (case aB => exact (by repeat (first | (with_reducible first | exact HB.out | apply below_alloc | apply pw_below_drewN | apply below_drew1) | exact HB.out))); (case aF => exact (fun k_ hk => Kd.fresh' (Kd.R_lt (by (with_reducible repeat (first | apply Kd.R_alloc | apply Kd.R_drewN | apply Kd.R_drew)); exact HO_8.out)) k_ hk)); (case aO => exact (by (with_reducible repeat (first | apply Kd.R_alloc | apply Kd.R_drewN | apply Kd.R_drew)); exact Kd.R_mono HO338.out (fun _ hk => hk.2))); (case aS => exact (below_size (by repeat (first | (with_reducible first | exact HB.out | apply below_alloc | apply pw_below_drewN | apply below_drew1) | exact HB.out)))); (case aL => have := LMc31.out; omega); intro v340 w45 ho hb hg hat; rw [← Ny339.out] at ho; have n0_ := Aside0.mk (Kd.R_after (ok := (fun _ => True)) (by (with_reducible repeat (first | apply Kd.R_alloc | apply Kd.R_drewN | apply Kd.R_drew)); exact HO_8.out) hg hat); have n1_ := Aside0.mk (hb); have n2_ := Aside0.mk (ho); clear HO_8; clear HB; clear HO338; have HO_8 := n0_; have HB := n1_; have HO341 := n2_; clear n0_ n1_ n2_; clear ho hb hg hat) | ((with_reducible refine gate_builtin (b := .append) (xs := #[.tmp 73, .tmp 75]) rfl ?_); (try (refine gate_guard (by rfl) ?_; dsimp only)); at_builtin; refine Kd.R_append (Kd.int .u8) (w0 := w) w.heap.size rfl (.tmp 73) (.tmp 75) 22 5 (.int .u8 0) 1 rfl Try.underlying22 info5 rfl (by decide) (by omega) v340 y339 x13_4 [.int .u8 x13_4] (fun k_ => some k_ ≠ (.slice Ao28 x8_3.length co28 : Value).ownBlock) (fun _ => False) rfl rfl ?aP (fun _ hk => hk.elim) ?aF ?aO ?aB ?aS ?aL ?_; (case aP => exact rfl); (case aB => exact (by repeat (first | (with_reducible first | exact HB.out | apply below_alloc | apply pw_below_drewN | apply below_drew1) | exact HB.out))); (case aF => exact (fun k_ hk => Kd.fresh' (Kd.R_lt (by (with_reducible repeat (first | apply Kd.R_alloc | apply Kd.R_drewN | apply Kd.R_drew)); exact HO_8.out)) k_ hk)); (case aO => exact (by (with_reducible repeat (first | apply Kd.R_alloc | apply Kd.R_drewN | apply Kd.R_drew)); exact HO341.out)); (case aS => exact (below_size (by repeat (first | (with_reducible first | exact HB.out | apply below_alloc | apply pw_below_drewN | apply below_drew1) | exact HB.out)))); (case aL => have := LMc32.out; omega); intro v343 w46 ho hb hg hat; rw [← Ny342.out] at ho; have n0_ := Aside0.mk (Kd.R_after (ok := (fun _ => True)) (by (with_reducible repeat (first | apply Kd.R_alloc | apply Kd.R_drewN | apply Kd.R_drew)); exact HO_8.out) hg hat); have n1_ := Aside0.mk (hb); have n2_ := Aside0.mk (ho); clear HO_8; clear HB; clear HO341; have HO_8 := n0_; have HB := n1_; have HO344 := n2_; clear n0_ n1_ n2_; clear ho hb hg hat; obtain ⟨Ao47, co47, eo47⟩ := Kd.R_slice HO344.out; subst eo47) | (go_at_call 19; (with_reducible refine (orthoepylaw02_begins.calls k4 _ _ y342 false _ ?side1 ?side2 A33.out).mono ?_); (case side1 => repeat (first | exact (Kd.R_reads' HO344.out).2.2 | (with_reducible refine Kd.C_alloc ?_ _) | (with_reducible refine Kd.C_drewN ?_ _) | (with_reducible refine Kd.C_drew ?_))); (case side2 => exact (Kd.R_reads' HO344.out).2.1); rintro e w48 ⟨rfl, hb⟩; have n0_ := Aside0.mk (Kd.R_below (by (with_reducible repeat (first | apply Kd.R_alloc | apply Kd.R_drewN | apply Kd.R_drew)); exact HO_8.out) hb); have n1_ := Aside0.mk (Kd.R_below (by (with_reducible repeat (first | apply Kd.R_alloc | apply Kd.R_drewN | apply Kd.R_drew)); exact HO344.out) hb); have n2_ := Aside0.mk (below_step (by repeat (first | (with_reducible first | exact HB.out | apply below_alloc | apply pw_below_drewN | apply below_drew1) | exact HB.out)) hb); clear HO_8; clear HO344; clear HB; have HO_8 := n0_; have HO344 := n1_; have HB := n2_; clear n0_ n1_ n2_; (try clear hb); (try clear hb2); (try clear hk); (try clear hi)))
                                          go_roundg k4
                                          case measure => have := HJ2.out; have := HJ8.out; have := HK3.out; have := HK4.out; omega
                                          case rel => exact ⟨((x13_4 + 1) % 256), (by first | rfl | (simp; done) | (simp [*]; done)), H', ⟨by have := HJ2.out; have := HJ8.out; have := HK3.out; have := HK4.out; omega⟩, ⟨by (with_reducible repeat (first | apply Kd.R_alloc | apply Kd.R_drewN | apply Kd.R_drew)); exact Kd.R_mono HO_8.out (fun _ hk => trivial)⟩, ⟨by repeat (first | (with_reducible first | exact HB.out | apply below_alloc | apply pw_below_drewN | apply below_drew1) | exact HB.out)⟩⟩
                                      · rw [if_neg c32] at H
                                        exact absurd H (by simp)
                                    · rw [if_neg c31] at H
                                      exact absurd H (by simp)
                                  · rw [if_neg c30] at H
                                    have c30b0 : decide (x13_4 < 191) = false := decide_eq_false c30
                                    clear c30
                                    by_cases c49 : x8_3.length < 140737488355328
                                    · rw [if_pos c49] at H
                                      have LMc49 := Aside0.mk c49
                                      clear c49
                                      obtain ⟨y349, hy349⟩ : ∃ y_ : List Int, y_ = (x8_3 ++ [x13_4]) := ⟨_, rfl⟩
                                      replace H : (orthoepylaw02_Utf8Longest.l0 k4 l0 l1 t320 t321 y349 (wrap64 (x9_3 + 1))) = some r := by first | (rw [hy349]; with_reducible exact H) | (have H2_ := (Option.bind_some _ _).symm.trans H; rw [hy349]; with_reducible exact H2_) | (have H2_ := (Option.bind_some _ _).symm.trans H; with_reducible exact H2_) | with_reducible exact H | (rw [hy349]; exact H) | exact H
                                      have Ny349 := Aside0.mk hy349
                                      clear hy349
                                      have H' := Aside0.mk H
                                      clear H
                                      go_wp2_with (first | ((with_reducible refine gate_builtin (b := .append) (xs := #[.tmp 82, .tmp 84]) rfl ?_); (try (refine gate_guard (by rfl) ?_; dsimp only)); at_builtin; refine Kd.R_append (Kd.int .u8) (w0 := w) w.heap.size rfl (.tmp 82) (.tmp 84) 22 5 (.int .u8 0) 1 rfl Try.underlying22 info5 rfl (by decide) (by omega) (.slice Ao28 x8_3.length co28) x8_3 x13_4 [.int .u8 x13_4] (fun _ => True) (fun _ => False) rfl rfl ?aP (fun _ hk => hk.elim) ?aF ?aO ?aB ?aS ?aL ?_; (case aP => exact rfl); (case aB => exact (by repeat (first | (with_reducible first | exact HB.out | apply below_alloc | apply pw_below_drewN | apply below_drew1) | exact HB.out))); (case aF => exact (fun _ _ => trivial)); (case aO => exact (by (with_reducible repeat (first | apply Kd.R_alloc | apply Kd.R_drewN | apply Kd.R_drew)); exact HO_8.out)); (case aS => exact (below_size (by repeat (first | (with_reducible first | exact HB.out | apply below_alloc | apply pw_below_drewN | apply below_drew1) | exact HB.out)))); (case aL => have := LMc49.out; omega); intro v350 w50 ho hb hg hat; rw [← Ny349.out] at ho; have n0_ := Aside0.mk (hb); have n1_ := Aside0.mk (ho); clear HB; clear HO_8; have HB := n0_; have HO351 := n1_; clear n0_ n1_; clear ho hb hg hat))
                                      go_roundg k4
                                      case measure => have := HJ2.out; have := HJ8.out; have := HK3.out; have := HK4.out; omega
                                      case rel => exact ⟨(y349), (wrap64 (x9_3 + 1)), (by first | rfl | (simp; done) | (simp [*]; done)), H', ⟨by have := HJ2.out; have := HJ8.out; have := HK3.out; have := HK4.out; omega⟩, ⟨by (with_reducible repeat (first | apply Kd.R_alloc | apply Kd.R_drewN | apply Kd.R_drew)); exact HO351.out⟩, ⟨by repeat (first | (with_reducible first | exact HB.out | apply below_alloc | apply pw_below_drewN | apply below_drew1) | exact HB.out)⟩⟩
                                    · rw [if_neg c49] at H
                                      exact absurd H (by simp)
                          · rw [if_neg c23] at H
                            have c23b0 : decide (x9_3 < 3) = false := decide_eq_false c23
                            clear c23
                            (first | rw [c23b0] | (simp only [i64_w, i32_w]; rw [c23b0]) | skip)
                            have H' := Aside0.mk H
                            clear H
                            go_wp2
                            go_meet
                            case rel => exact ⟨_, (x8_3), H', ⟨by have := HJ2.out; have := HJ8.out; have := HK3.out; first | omega | exact Nat.le_refl _⟩, ⟨by (with_reducible repeat (first | apply Kd.R_alloc | apply Kd.R_drewN | apply Kd.R_drew)); exact HO_8.out⟩, ⟨by repeat (first | (with_reducible first | exact HB.out | apply below_alloc | apply pw_below_drewN | apply below_drew1) | exact HB.out)⟩⟩
                    case rest =>
                      clear HC18
                      try clear c1
                      try clear c2
                      try clear p2
                      try clear c3
                      try clear c4
                      try clear c4b0
                      try clear c4b1
                      try clear c5
                      try clear p6
                      try clear c8
                      try clear c11
                      try clear c11b0
                      try clear c12
                      try clear c12b0
                      try clear c13
                      try clear c14
                      try clear c15
                      try clear c15b0
                      try clear c15b1
                      try clear c16
                      try clear c16b0
                      try clear c16b1
                      try clear c17
                      try clear c23
                      try clear c23b0
                      try clear c25
                      try clear c30
                      try clear c30b0
                      try clear c31
                      try clear c32
                      try clear c34
                      try clear c35
                      try clear c49
                      try clear p2
                      obtain ⟨kq, x8_17, HA, HJ17, HO_8, HB⟩ := hcut
                      cases kq with
                      | zero => exact absurd HA.out (by simp [orthoepylaw02_Utf8Longest.j4])
                      | succ kj17 =>
                        have H := HA.out
                        clear HA
                        simp only [orthoepylaw02_Utf8Longest.j4] at H
                        replace H := Option.bind_eq_some_iff.mp H
                        obtain ⟨⟨t352, t353, t354⟩, A510, H⟩ := H
                        replace H : (if t354 = true then (if t321 = true then (orthoepylaw02_Utf8Longest.j5 kj17 l0 l1 t320 true) else (orthoepylaw02_Utf8Longest.j5 kj17 l0 l1 t320 (t320 == (l0.length : Int)))) else (some false)) = some r := H
                        have A51 := Aside0.mk A510
                        clear A510
                        by_cases c52 : t354 = true
                        · subst c52
                          have H1 : (if t321 = true then (orthoepylaw02_Utf8Longest.j5 kj17 l0 l1 t320 true) else (orthoepylaw02_Utf8Longest.j5 kj17 l0 l1 t320 (t320 == (l0.length : Int)))) = some r := by rw [if_pos rfl] at H; exact H
                          clear H
                          have H := H1
                          clear H1
                          have HC53 := Aside0.mk H
                          clear H
                          obtain ⟨Ao54, co54, eo54⟩ := Kd.R_slice HO_8.out
                          subst eo54
                          go_upto_region 19 with (first | ((with_reducible refine gate_callee (f := 11) rfl ?_); refine goesL_ (some 88) rfl rfl Try.func11 (by kernel_rfl) rfl #[.slice Ao54 x8_17.length co54] rfl (by (try simp only [List.map_toArray, List.map_cons, List.map_nil]); first | done | rfl | (simp only [List.length_drop, List.length_take]; rfl)) ?_; (with_reducible refine (utf8_All.calls kj17 _ _ x8_17 t352 t353 true _ ?side1 ?side2 A51.out).mono ?_); (case side1 => repeat (first | exact (Kd.R_reads' HO_8.out).2.2 | (with_reducible refine Kd.C_alloc ?_ _) | (with_reducible refine Kd.C_drewN ?_ _) | (with_reducible refine Kd.C_drew ?_))); (case side2 => exact (Kd.R_reads' HO_8.out).2.1); rintro e w55 ⟨v355, rfl, ho0, hb⟩; refine ⟨_, rfl, ?_⟩; have n0_ := Aside0.mk (Kd.R_below (by (with_reducible repeat (first | apply Kd.R_alloc | apply Kd.R_drewN | apply Kd.R_drew)); exact HO_8.out) hb); have n1_ := Aside0.mk (Kd.R_lower ho0 (below_size (by repeat (first | (with_reducible first | exact HB.out | apply below_alloc | apply pw_below_drewN | apply below_drew1) | exact HB.out)))); have n2_ := Aside0.mk (below_step (by repeat (first | (with_reducible first | exact HB.out | apply below_alloc | apply pw_below_drewN | apply below_drew1) | exact HB.out)) hb); clear HO_8; clear HB; have HO_8 := n0_; have HO356 := n1_; have HB := n2_; clear n0_ n1_ n2_; (try clear hb); (try clear hb2); (try clear hk); (try clear hi); (try clear ho0)))
                          (try simp only [Act.put, List.setIfInBounds_toArray, List.set_cons_zero, List.set_cons_succ])
                          go_cut [100] (fun v100 wc => ∃ (kq : Nat) (x100_52 : Bool), v100 = .bool x100_52 ∧ Aside0 (orthoepylaw02_Utf8Longest.j5 kq l0 l1 t320 x100_52 = some r) ∧ Aside0 (kq ≤ kj17) ∧ Aside0 (Below w.heap.size w wc))
                          case first =>
                            have H := HC53.out
                            clear HC53
                            by_cases c56 : t321 = true
                            · subst c56
                              have H1 : (orthoepylaw02_Utf8Longest.j5 kj17 l0 l1 t320 true) = some r := by rw [if_pos rfl] at H; exact H
                              clear H
                              have H := H1
                              clear H1
                              have H' := Aside0.mk H
                              clear H
                              go_wp2
                              go_meet
                              case rel => exact ⟨_, (true), (by first | rfl | (simp; done) | (simp [*]; done)), H', ⟨by have := HJ2.out; have := HJ8.out; have := HJ17.out; first | omega | exact Nat.le_refl _⟩, ⟨by repeat (first | (with_reducible first | exact HB.out | apply below_alloc | apply pw_below_drewN | apply below_drew1) | exact HB.out)⟩⟩
                            · replace c56 := Bool.eq_false_iff.mpr c56
                              subst c56
                              have H1 : (orthoepylaw02_Utf8Longest.j5 kj17 l0 l1 t320 (t320 == (l0.length : Int))) = some r := by rw [if_neg (show ¬ (false = true) by decide)] at H; exact H
                              clear H
                              have H := H1
                              clear H1
                              have H' := Aside0.mk H
                              clear H
                              go_wp2
                              go_meet
                              case rel => exact ⟨_, ((t320 == (l0.length : Int))), (by first | rfl | (simp; done) | (simp [*]; done)), H', ⟨by have := HJ2.out; have := HJ8.out; have := HJ17.out; first | omega | exact Nat.le_refl _⟩, ⟨by repeat (first | (with_reducible first | exact HB.out | apply below_alloc | apply pw_below_drewN | apply below_drew1) | exact HB.out)⟩⟩
                          case rest =>
                            clear HC53
                            try clear c1
                            try clear c2
                            try clear p2
                            try clear c3
                            try clear c4
                            try clear c4b0
                            try clear c4b1
                            try clear c5
                            try clear p6
                            try clear c8
                            try clear c11
                            try clear c11b0
                            try clear c12
                            try clear c12b0
                            try clear c13
                            try clear c14
                            try clear c15
                            try clear c15b0
                            try clear c15b1
                            try clear c16
                            try clear c16b0
                            try clear c16b1
                            try clear c17
                            try clear c23
                            try clear c23b0
                            try clear c25
                            try clear c30
                            try clear c30b0
                            try clear c31
                            try clear c32
                            try clear c34
                            try clear c35
                            try clear c49
                            try clear c52
                            try clear c56
                            try clear p2
                            try clear p6
                            obtain ⟨kq, x100_52, rfl, HA, HJ52, HB⟩ := hcut
                            cases kq with
                            | zero => exact absurd HA.out (by simp [orthoepylaw02_Utf8Longest.j5])
                            | succ kj52 =>
                              have H := HA.out
                              clear HA
                              simp only [orthoepylaw02_Utf8Longest.j5] at H
                              by_cases c57 : x100_52 = true
                              · subst c57
                                have H1 : ((orthoepylaw02_awake.f).bind fun t357 => (some t357)) = some r := by rw [if_pos rfl] at H; exact H
                                clear H
                                have H := H1
                                clear H1
                                replace H := Option.bind_eq_some_iff.mp H
                                obtain ⟨t357, A580, H⟩ := H
                                replace H : (some t357) = some r := H
                                have A58 := Aside0.mk A580
                                clear A580
                                obtain rfl := Option.some.inj H
                                go_wp2_with (first | ((with_reducible refine gate_callee (f := 8) rfl ?_); refine goesL_ (some 101) rfl rfl Try.func8 (by kernel_rfl) rfl #[] rfl (by (try simp only [List.map_toArray, List.map_cons, List.map_nil]); first | done | rfl | (simp only [List.length_drop, List.length_take]; rfl)) ?_; (with_reducible refine (orthoepylaw02_awake.calls  t357 _ A58.out).mono ?_); rintro e w59 ⟨rfl, hb⟩; refine ⟨_, rfl, ?_⟩; have n0_ := Aside0.mk (below_step (by repeat (first | (with_reducible first | exact HB.out | apply below_alloc | apply pw_below_drewN | apply below_drew1) | exact HB.out)) hb); clear HB; have HB := n0_; clear n0_; (try clear hb); (try clear hb2); (try clear hk); (try clear hi)))
                                go_ret
                                exact ⟨by first | rfl | (simp [errW_none, errW_some] <;> rfl) | (simp [*, errW_none, errW_some] <;> rfl), by repeat (first | (with_reducible first | exact HB.out | apply below_alloc | apply pw_below_drewN | apply below_drew1) | exact HB.out)⟩
                              · replace c57 := Bool.eq_false_iff.mpr c57
                                subst c57
                                have H1 : ((some (([] : List Int) : List Int)).bind fun y358 => (if 0 ≤ (wrap64 (t320 + 1)) then (if (wrap64 (t320 + 1)) ≤ (l0.length : Int) then (if y358.length + (l0.take ((wrap64 (t320 + 1)) : Int).toNat).length < 140737488355328 then ((some (y358 ++ (l0.take ((wrap64 (t320 + 1)) : Int).toNat) : List Int)).bind fun y362 => (if y362.length + l1.length < 140737488355328 then ((utf8_All.f kj52 (y362 ++ l1)).bind fun bt368 => (if bt368.2.2 = true then (some false) else ((orthoepylaw02_awake.f).bind fun t373 => (some t373)))) else (none))) else (none)) else (none)) else (none))) = some r := by rw [if_neg (show ¬ (false = true) by decide)] at H; exact H
                                clear H
                                have H := H1
                                clear H1
                                obtain ⟨y358, hy358⟩ : ∃ y_ : List Int, y_ = (([] : List Int)) := ⟨_, rfl⟩
                                replace H : (if 0 ≤ (wrap64 (t320 + 1)) then (if (wrap64 (t320 + 1)) ≤ (l0.length : Int) then (if y358.length + (l0.take ((wrap64 (t320 + 1)) : Int).toNat).length < 140737488355328 then ((some (y358 ++ (l0.take ((wrap64 (t320 + 1)) : Int).toNat) : List Int)).bind fun y362 => (if y362.length + l1.length < 140737488355328 then ((utf8_All.f kj52 (y362 ++ l1)).bind fun bt368 => (if bt368.2.2 = true then (some false) else ((orthoepylaw02_awake.f).bind fun t373 => (some t373)))) else (none))) else (none)) else (none)) else (none)) = some r := by first | (rw [hy358]; with_reducible exact H) | (have H2_ := (Option.bind_some _ _).symm.trans H; rw [hy358]; with_reducible exact H2_) | (have H2_ := (Option.bind_some _ _).symm.trans H; with_reducible exact H2_) | with_reducible exact H | (rw [hy358]; exact H) | exact H
                                have Ny358 := Aside0.mk hy358
                                clear hy358
                                obtain ⟨ji60, hji60⟩ : ∃ j_ : Int, (wrap64 (t320 + 1)) = j_ := ⟨_, rfl⟩
                                replace H : (if 0 ≤ (ji60) then (if (ji60) ≤ (l0.length : Int) then (if y358.length + (l0.take ((ji60) : Int).toNat).length < 140737488355328 then ((some (y358 ++ (l0.take ((ji60) : Int).toNat) : List Int)).bind fun y362 => (if y362.length + l1.length < 140737488355328 then ((utf8_All.f kj52 (y362 ++ l1)).bind fun bt368 => (if bt368.2.2 = true then (some false) else ((orthoepylaw02_awake.f).bind fun t373 => (some t373)))) else (none))) else (none)) else (none)) else (none)) = some r := by first | (rw [hji60] at H; exact H) | (simp only [hji60] at H ⊢; exact H)
                                have hji60w : (IntKind.i64.wrap (t320 + 1)) = ji60 := (i64_w _).trans hji60
                                by_cases c61 : 0 ≤ (ji60)
                                · rw [if_pos c61] at H
                                  have c61b0 := eq_true c61
                                  have c61b1 : decide (0 ≤ (ji60)) = true := decide_eq_true c61
                                  clear c61
                                  by_cases c62 : (ji60) ≤ (l0.length : Int)
                                  · rw [if_pos c62] at H
                                    have c62b0 := eq_true c62
                                    have c62b1 : decide ((ji60) ≤ (l0.length : Int)) = true := decide_eq_true c62
                                    clear c62
                                    by_cases c63 : y358.length + (l0.take ((ji60) : Int).toNat).length < 140737488355328
                                    · rw [if_pos c63] at H
                                      have LMc63 := Aside0.mk c63
                                      clear c63
                                      obtain ⟨y362, hy362⟩ : ∃ y_ : List Int, y_ = (y358 ++ (l0.take ((ji60) : Int).toNat)) := ⟨_, rfl⟩
                                      replace H : (if y362.length + l1.length < 140737488355328 then ((utf8_All.f kj52 (y362 ++ l1)).bind fun bt368 => (if bt368.2.2 = true then (some false) else ((orthoepylaw02_awake.f).bind fun t373 => (some t373)))) else (none)) = some r := by first | (rw [hy362]; with_reducible exact H) | (have H2_ := (Option.bind_some _ _).symm.trans H; rw [hy362]; with_reducible exact H2_) | (have H2_ := (Option.bind_some _ _).symm.trans H; with_reducible exact H2_) | with_reducible exact H | (rw [hy362]; exact H) | exact H
                                      have Ny362 := Aside0.mk hy362
                                      clear hy362
                                      by_cases c64 : y362.length + l1.length < 140737488355328
                                      · rw [if_pos c64] at H
                                        have LMc64 := Aside0.mk c64
                                        clear c64
                                        obtain ⟨y365, hy365⟩ : ∃ y_ : List Int, y_ = (y362 ++ l1) := ⟨_, rfl⟩
                                        replace H : ((utf8_All.f kj52 y365).bind fun bt368 => (if bt368.2.2 = true then (some false) else ((orthoepylaw02_awake.f).bind fun t373 => (some t373)))) = some r := by first | (rw [hy365]; with_reducible exact H) | (have H2_ := (Option.bind_some _ _).symm.trans H; rw [hy365]; with_reducible exact H2_) | (have H2_ := (Option.bind_some _ _).symm.trans H; with_reducible exact H2_) | with_reducible exact H | (rw [hy365]; exact H) | exact H
                                        have Ny365 := Aside0.mk hy365
                                        clear hy365
                                        replace H := Option.bind_eq_some_iff.mp H
                                        obtain ⟨⟨t368, t369, t370⟩, A650, H⟩ := H
                                        replace H : (if t370 = true then (some false) else ((orthoepylaw02_awake.f).bind fun t373 => (some t373))) = some r := H
                                        have A65 := Aside0.mk A650
                                        clear A650
                                        by_cases c66 : t370 = true
                                        · subst c66
                                          have H1 : (some false) = some r := by rw [if_pos rfl] at H; exact H
                                          clear H
                                          have H := H1
                                          clear H1
                                          obtain rfl := Option.some.inj H
                                          exact absurd hT_.out (by decide)
                                        · replace c66 := Bool.eq_false_iff.mpr c66
                                          subst c66
                                          have H1 : ((orthoepylaw02_awake.f).bind fun t373 => (some t373)) = some r := by rw [if_neg (show ¬ (false = true) by decide)] at H; exact H
                                          clear H
                                          have H := H1
                                          clear H1
                                          replace H := Option.bind_eq_some_iff.mp H
                                          obtain ⟨t373, A670, H⟩ := H
                                          replace H : (some t373) = some r := H
                                          have A67 := Aside0.mk A670
                                          clear A670
                                          obtain rfl := Option.some.inj H
                                          go_wp2_with (first | ((with_reducible refine gate_dst (N := 103) rfl ?_); (try (refine gate_guard (by rfl) ?_; dsimp only)); refine Kd.R_lit (Kd.int .u8) _ 5 ?hg (N := 103) ?hd (xs := ([] : List Int)) (inner := []) (ok := fun _ => True) (okp := fun _ => True) ?hr ?hp (fun _ hk => hk) trivial (Below.refl _ _) (Nat.le_refl _) (by simp) ?_; (case hd => rfl); (case hg => rfl); (case hr => first | (go_simp; done) | (go_simp; rfl)); (case hp => exact (Reps.none _ _)); intro v359 w68 ho69 hb hg_ hnew_; clear hg_ hnew_; (first | rw [← Ny358.out] at ho69 | (simp only [Int.reduceToNat] at ho69; rw [← Ny358.out] at ho69)); have n0_ := Aside0.mk (Kd.R_lower ho69 (below_size (by repeat (first | (with_reducible first | exact HB.out | apply below_alloc | apply pw_below_drewN | apply below_drew1) | exact HB.out)))); have n1_ := Aside0.mk (below_step (by repeat (first | (with_reducible first | exact HB.out | apply below_alloc | apply pw_below_drewN | apply below_drew1) | exact HB.out)) hb); clear HB; have HO360 := n0_; have HB := n1_; clear n0_ n1_; clear hb ho69; obtain ⟨i070, hi070, _, hsz70, _⟩ := info_parts info5; obtain ⟨hcut70, hA70, hC70⟩ := print_take_of (P := Try.prog) (Value.int .u8) 0 22 5 .i64 Try.underlying22 hi070 hsz70 A0 c0 l0 (ji60) (of_decide_eq_true (by first | (with_reducible assumption) | assumption)) (of_decide_eq_true (by first | (with_reducible assumption) | assumption)) HC0.out; have HR361 := Aside0.mk (Kd.C_of_reads (h1 := fun _ => rfl) (hA70 _ (Kd.reads_of_C HR0.out))); have HC361 := Aside0.mk hC70; clear hA70 hC70 hi070 hsz70) | ((with_reducible refine gate_builtin (b := .append) (xs := #[.tmp 103, .tmp 107]) rfl ?_); (try (refine gate_guard (by rfl) ?_; dsimp only)); at_builtin; refine Kd.R_append_rows (Kd.int .u8) (w0 := w) w.heap.size rfl (.tmp 103) (.tmp 107) 22 5 (.int .u8 0) 1 rfl Try.underlying22 info5 rfl (by decide) (by omega) v359 y358 (l0.take ((ji60) : Int).toNat) _ _ _ (fun _ => True) (fun _ => False) rfl rfl ?aO ?aR (fun _ _ h => h) (fun _ h => h.elim) ?aF ?aB ?aS ?aL ?_; (case aR => refine (show ∀ {E_ : Type} {R_ : E_ → List Value → Prop} {s_ : Nat} {w_ : World} {A_ : Option Addr} {n_ m_ : Nat} {x_ : List E_}, n_ = m_ → ReadsRow R_ s_ w_ A_ n_ x_ → ReadsRow R_ s_ w_ A_ m_ x_ from fun h_ r_ => h_ ▸ r_) (show (l0.take ((ji60) : Int).toNat).length = (ji60).toNat from (by rw [List.length_take]; have h_ : ((ji60) : Int) ≤ (l0.length : Int) := of_decide_eq_true (by first | (with_reducible assumption) | assumption); omega)) ?_; repeat (first | exact (Kd.C_below HR361.out HB.out) | (with_reducible refine Kd.C_alloc ?_ _) | (with_reducible refine Kd.C_drewN ?_ _) | (with_reducible refine Kd.C_drew ?_))); (case aB => exact (by repeat (first | (with_reducible first | exact HB.out | apply below_alloc | apply pw_below_drewN | apply below_drew1) | exact HB.out))); (case aF => exact (fun _ _ => trivial)); (case aO => exact (by (with_reducible repeat (first | apply Kd.R_alloc | apply Kd.R_drewN | apply Kd.R_drew)); exact HO360.out)); (case aS => exact (below_size (by repeat (first | (with_reducible first | exact HB.out | apply below_alloc | apply pw_below_drewN | apply below_drew1) | exact HB.out)))); (case aL => have := LMc63.out; have hlx_ := (show (l0.take ((ji60) : Int).toNat).length = (ji60).toNat from (by rw [List.length_take]; have h_ : ((ji60) : Int) ≤ (l0.length : Int) := of_decide_eq_true (by first | (with_reducible assumption) | assumption); omega)); omega); intro v363 w71 ho hb hg hat; rw [← Ny362.out] at ho; have n0_ := Aside0.mk (hb); have n1_ := Aside0.mk (ho); clear HB; clear HO360; have HB := n0_; have HO364 := n1_; clear n0_ n1_; clear ho hb hg hat) | ((with_reducible refine gate_builtin (b := .append) (xs := #[.tmp 108, .tmp 109]) rfl ?_); (try (refine gate_guard (by rfl) ?_; dsimp only)); at_builtin; refine Kd.R_append_rows (Kd.int .u8) (w0 := w) w.heap.size rfl (.tmp 108) (.tmp 109) 22 5 (.int .u8 0) 1 rfl Try.underlying22 info5 rfl (by decide) (by omega) v363 y362 l1 _ _ _ (fun _ => True) (fun _ => False) rfl rfl ?aO ?aR (fun _ _ h => h) (fun _ h => h.elim) ?aF ?aB ?aS ?aL ?_; (case aR => repeat (first | exact (Kd.C_below HR1.out HB.out) | (with_reducible refine Kd.C_alloc ?_ _) | (with_reducible refine Kd.C_drewN ?_ _) | (with_reducible refine Kd.C_drew ?_))); (case aB => exact (by repeat (first | (with_reducible first | exact HB.out | apply below_alloc | apply pw_below_drewN | apply below_drew1) | exact HB.out))); (case aF => exact (fun _ _ => trivial)); (case aO => exact (by (with_reducible repeat (first | apply Kd.R_alloc | apply Kd.R_drewN | apply Kd.R_drew)); exact HO364.out)); (case aS => exact (below_size (by repeat (first | (with_reducible first | exact HB.out | apply below_alloc | apply pw_below_drewN | apply below_drew1) | exact HB.out)))); (case aL => have := LMc64.out; omega); intro v366 w72 ho hb hg hat; rw [← Ny365.out] at ho; have n0_ := Aside0.mk (hb); have n1_ := Aside0.mk (ho); clear HB; clear HO364; have HB := n0_; have HO367 := n1_; clear n0_ n1_; clear ho hb hg hat; obtain ⟨Ao73, co73, eo73⟩ := Kd.R_slice HO367.out; subst eo73) | ((with_reducible refine gate_callee (f := 11) rfl ?_); refine goesL_ (some 111) rfl rfl Try.func11 (by kernel_rfl) rfl #[.slice Ao73 y365.length co73] rfl (by (try simp only [List.map_toArray, List.map_cons, List.map_nil]); first | done | rfl | (simp only [List.length_drop, List.length_take]; rfl)) ?_; (with_reducible refine (utf8_All.calls kj52 _ _ y365 t368 t369 false _ ?side1 ?side2 A65.out).mono ?_); (case side1 => repeat (first | exact (Kd.R_reads' HO367.out).2.2 | (with_reducible refine Kd.C_alloc ?_ _) | (with_reducible refine Kd.C_drewN ?_ _) | (with_reducible refine Kd.C_drew ?_))); (case side2 => exact (Kd.R_reads' HO367.out).2.1); rintro e w74 ⟨v371, rfl, ho0, hb⟩; refine ⟨_, rfl, ?_⟩; have n0_ := Aside0.mk (Kd.R_below (by (with_reducible repeat (first | apply Kd.R_alloc | apply Kd.R_drewN | apply Kd.R_drew)); exact HO367.out) hb); have n1_ := Aside0.mk (Kd.R_lower ho0 (below_size (by repeat (first | (with_reducible first | exact HB.out | apply below_alloc | apply pw_below_drewN | apply below_drew1) | exact HB.out)))); have n2_ := Aside0.mk (below_step (by repeat (first | (with_reducible first | exact HB.out | apply below_alloc | apply pw_below_drewN | apply below_drew1) | exact HB.out)) hb); clear HO367; clear HB; have HO367 := n0_; have HO372 := n1_; have HB := n2_; clear n0_ n1_ n2_; (try clear hb); (try clear hb2); (try clear hk); (try clear hi); (try clear ho0)) | (go_at_call 8; (with_reducible refine (orthoepylaw02_awake.calls  t373 _ A67.out).mono ?_); rintro e w75 ⟨rfl, hb⟩; have n0_ := Aside0.mk (Kd.R_below (by (with_reducible repeat (first | apply Kd.R_alloc | apply Kd.R_drewN | apply Kd.R_drew)); exact HO367.out) hb); have n1_ := Aside0.mk (Kd.R_below (by (with_reducible repeat (first | apply Kd.R_alloc | apply Kd.R_drewN | apply Kd.R_drew)); exact HO372.out) hb); have n2_ := Aside0.mk (below_step (by repeat (first | (with_reducible first | exact HB.out | apply below_alloc | apply pw_below_drewN | apply below_drew1) | exact HB.out)) hb); clear HO367; clear HO372; clear HB; have HO367 := n0_; have HO372 := n1_; have HB := n2_; clear n0_ n1_ n2_; (try clear hb); (try clear hb2); (try clear hk); (try clear hi)))
                                          go_ret
                                          exact ⟨by first | rfl | (simp [errW_none, errW_some] <;> rfl) | (simp only [← hji60]; first | rfl | (simp [errW_none, errW_some] <;> rfl)) | (simp [*, errW_none, errW_some] <;> rfl), by repeat (first | (with_reducible first | exact HB.out | apply below_alloc | apply pw_below_drewN | apply below_drew1) | exact HB.out)⟩
                                      · rw [if_neg c64] at H
                                        exact absurd H (by simp)
                                    · rw [if_neg c63] at H
                                      exact absurd H (by simp)
                                  · rw [if_neg c62] at H
                                    exact absurd H (by simp)
                                · rw [if_neg c61] at H
                                  exact absurd H (by simp)
                        · replace c52 := Bool.eq_false_iff.mpr c52
                          subst c52
                          have H1 : (some false) = some r := by rw [if_neg (show ¬ (false = true) by decide)] at H; exact H
                          clear H
                          have H := H1
                          clear H1
                          obtain rfl := Option.some.inj H
                          exact absurd hT_.out (by decide)
                  · rw [if_neg c17] at H
                    exact absurd H (by simp)
                · rw [if_neg c16] at H
                  exact absurd H (by simp)
              · rw [if_neg c15] at H
                exact absurd H (by simp)

/-- THE ONE PURE STATEMENT of orthoepylaw02_Utf8Longest: yours. -/
def orthoepylaw02_Utf8Longest.Pure : Prop := ∀ (l0 : List Int) (l1 : List Int), l0.length ≤ maxLen → l0.length * 1 ≤ 140737488351232 → (∀ x ∈ l0, (Lit.int .u8 x).wf = true) → l1.length ≤ maxLen → l1.length * 1 ≤ 140737488351232 → (∀ x ∈ l1, (Lit.int .u8 x).wf = true) → ∃ k, orthoepylaw02_Utf8Longest.f k l0 l1 = some true
theorem orthoepylaw02_Utf8Longest.walk (P : orthoepylaw02_Utf8Longest.Pure) (a0 : Option Addr) (len0 cap0 : Nat) (z0 : List Int) (a1 : Option Addr) (len1 cap1 : Nat) (z1 : List Int) (w : World) (w0 : (a0 = none ∧ len0 = 0 ∧ cap0 = 0 ∧ z0 = []) ∨ ∃ x, a0 = some x ∧ len0 ≤ cap0 ∧ cap0 ≤ maxLen ∧ z0.length = cap0 ∧ (∀ i, i < z0.length → w.cell? (x.add i) = some (.int .u8 (z0.getD i 0))) ∧ ∀ n ∈ z0, (Lit.int .u8 n).wf = true) (y0 : len0 * 1 ≤ 140737488351232) (w1 : (a1 = none ∧ len1 = 0 ∧ cap1 = 0 ∧ z1 = []) ∨ ∃ x, a1 = some x ∧ len1 ≤ cap1 ∧ cap1 ≤ maxLen ∧ z1.length = cap1 ∧ (∀ i, i < z1.length → w.cell? (x.add i) = some (.int .u8 (z1.getD i 0))) ∧ ∀ n ∈ z1, (Lit.int .u8 n).wf = true) (y1 : len1 * 1 ≤ 140737488351232) :
    Calls Try.prog 5 #[.slice a0 len0 cap0, .slice a1 len1 cap1] w fun e w' => e = .returned (.bool true) ∧ Below w.heap.size w w' := by
  obtain ⟨l0, rfl, hr0, hm0, hw0, hc0⟩ := ReadsInt.ofRowC w0
  obtain ⟨l1, rfl, hr1, hm1, hw1, hc1⟩ := ReadsInt.ofRowC w1
  obtain ⟨k, h⟩ := P l0 l1 hm0 y0 hw0 hm1 y1 hw1
  refine (orthoepylaw02_Utf8Longest.calls k _ _ l0 _ _ l1 true w (Kd.C_of_reads (d := (0 : Int)) (h1 := fun _ => rfl) hr0) hc0 (Kd.C_of_reads (d := (0 : Int)) (h1 := fun _ => rfl) hr1) hc1 h ⟨rfl⟩).mono ?_
  rintro e w' ⟨rfl, hd⟩
  exact ⟨rfl, hd⟩

-- NOT PRINTED: function 22 (orthoepyref02_Reader_Push)

-- NOT PRINTED: function 6 (orthoepylaw02_Utf8Reader)

end Go.Proofs.Ytoalfgmnikbpaaa.PAll
