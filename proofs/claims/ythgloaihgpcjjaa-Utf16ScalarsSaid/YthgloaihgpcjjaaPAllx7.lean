-- The machine's side of laws, written by a program of this session (wip/gen/pp.sh). Lean checks it.
import Derived.Test.YthgloaihgpcjjaaPAllx0
import Derived.Test.YthgloaihgpcjjaaPAllx2
import Derived.Test.YthgloaihgpcjjaaPAllx3
import Derived.Test.YthgloaihgpcjjaaPAllx4
import Derived.Test.YthgloaihgpcjjaaPAllx5
import Derived.Test.YthgloaihgpcjjaaPAllx6
namespace Go.Proofs.Ythgloaihgpcjjaa.PAll
open Go.RowKit Go.Proofs.YthgloaihgpcjjaaW.PrintWords Go.Proofs.YthgloaihgpcjjaaW.PrintLast Go.Proofs.YthgloaihgpcjjaaW.PrintMore
attribute [local go_sem] max2_int min2_int max_two min_two max_three min_three max_four min_four   -- for this text's walks alone
set_option linter.unusedVariables false
set_option linter.unusedSimpArgs false

/-! ### orthoepylaw03_Utf16Scalars: function 6 -/
mutual
def orthoepylaw03_Utf16Scalars.j0 : Nat → Int → Int → Int → Bool → Option (Bool)
  | 0, _, _, _, _ => none
  | k + 1, x2, x7, x8, x24 => if x24 = true then ((orthoepylaw03_awake.f).bind fun t301 => (some t301)) else ((utf16_Compare.f k (([x7] : List Int)) (([x8] : List Int))).bind fun t308 => ((orthoepyref02_Bytes.f x7).bind fun t309 => ((orthoepyref02_Bytes.f x8).bind fun t312 => (if x7 ≥ 65536 then (if x8 ≥ 57344 then (if x8 < 65536 then (orthoepylaw03_Utf16Scalars.j1 k x2 x7 x8 t308 (Op.bytesLess ((strOfNums t309).toList) ((strOfNums t312).toList)) true) else (if x8 ≥ 65536 then (if x7 ≥ 57344 then (orthoepylaw03_Utf16Scalars.j1 k x2 x7 x8 t308 (Op.bytesLess ((strOfNums t309).toList) ((strOfNums t312).toList)) (decide (x7 < 65536))) else (orthoepylaw03_Utf16Scalars.j1 k x2 x7 x8 t308 (Op.bytesLess ((strOfNums t309).toList) ((strOfNums t312).toList)) false)) else (orthoepylaw03_Utf16Scalars.j1 k x2 x7 x8 t308 (Op.bytesLess ((strOfNums t309).toList) ((strOfNums t312).toList)) false))) else (if x8 ≥ 65536 then (if x7 ≥ 57344 then (orthoepylaw03_Utf16Scalars.j1 k x2 x7 x8 t308 (Op.bytesLess ((strOfNums t309).toList) ((strOfNums t312).toList)) (decide (x7 < 65536))) else (orthoepylaw03_Utf16Scalars.j1 k x2 x7 x8 t308 (Op.bytesLess ((strOfNums t309).toList) ((strOfNums t312).toList)) false)) else (orthoepylaw03_Utf16Scalars.j1 k x2 x7 x8 t308 (Op.bytesLess ((strOfNums t309).toList) ((strOfNums t312).toList)) false))) else (if x8 ≥ 65536 then (if x7 ≥ 57344 then (orthoepylaw03_Utf16Scalars.j1 k x2 x7 x8 t308 (Op.bytesLess ((strOfNums t309).toList) ((strOfNums t312).toList)) (decide (x7 < 65536))) else (orthoepylaw03_Utf16Scalars.j1 k x2 x7 x8 t308 (Op.bytesLess ((strOfNums t309).toList) ((strOfNums t312).toList)) false)) else (orthoepylaw03_Utf16Scalars.j1 k x2 x7 x8 t308 (Op.bytesLess ((strOfNums t309).toList) ((strOfNums t312).toList)) false))))))
def orthoepylaw03_Utf16Scalars.j1 : Nat → Int → Int → Int → Int → Bool → Bool → Option (Bool)
  | 0, _, _, _, _, _, _ => none
  | k + 1, x2, x7, x8, x9, x10, x11 => (orthoepylaw00_Place.f x2 1048576).bind fun t315 => (if (x10 != x11) = true then (if ((decide (x9 < 0)) == (x7 != x8)) = true then (if ((x9 == 0) == (x7 == x8)) = true then ((utf16_Compare.f k (([wrap32 (wrap64 (65536 + t315))] : List Int)) (([57344] : List Int))).bind fun t322 => (if t322 = (-1) then ((utf16_Compare.f k (([wrap32 (wrap64 (65536 + t315))] : List Int)) (([55295] : List Int))).bind fun t329 => (if t329 = 1 then ((orthoepylaw03_awake.f).bind fun t330 => (some t330)) else (some false))) else (some false))) else (some false)) else (some false)) else (if ((decide (x9 < 0)) == false) = true then (if ((x9 == 0) == (x7 == x8)) = true then ((utf16_Compare.f k (([wrap32 (wrap64 (65536 + t315))] : List Int)) (([57344] : List Int))).bind fun t337 => (if t337 = (-1) then ((utf16_Compare.f k (([wrap32 (wrap64 (65536 + t315))] : List Int)) (([55295] : List Int))).bind fun t344 => (if t344 = 1 then ((orthoepylaw03_awake.f).bind fun t345 => (some t345)) else (some false))) else (some false))) else (some false)) else (some false)))
end
def orthoepylaw03_Utf16Scalars.f (k : Nat) (a0 : Int) (a1 : Int) (a2 : Int) : Option (Bool) := (orthoepylaw00_Rune.f a0).bind fun t297 => ((orthoepylaw00_Rune.f a1).bind fun t298 => ((orthoepyref01_Is.f t297).bind fun t299 => (if t299 = true then ((orthoepyref01_Is.f t298).bind fun t300 => (orthoepylaw03_Utf16Scalars.j0 k a2 t297 t298 (!t300))) else (orthoepylaw03_Utf16Scalars.j0 k a2 t297 t298 true))))
theorem orthoepylaw03_Utf16Scalars.mono_l : ∀ k, (∀ y0 y1 y2 y3, LeO (orthoepylaw03_Utf16Scalars.j0 k y0 y1 y2 y3) (orthoepylaw03_Utf16Scalars.j0 (k + 1) y0 y1 y2 y3)) ∧ (∀ y0 y1 y2 y3 y4 y5, LeO (orthoepylaw03_Utf16Scalars.j1 k y0 y1 y2 y3 y4 y5) (orthoepylaw03_Utf16Scalars.j1 (k + 1) y0 y1 y2 y3 y4 y5))
  | 0 => ⟨fun _ _ _ _ r h => by simp [orthoepylaw03_Utf16Scalars.j0] at h, fun _ _ _ _ _ _ r h => by simp [orthoepylaw03_Utf16Scalars.j1] at h⟩
  | k + 1 => by
    obtain ⟨ih0, ih1⟩ := orthoepylaw03_Utf16Scalars.mono_l k
    refine ⟨?_, ?_⟩
    · intro y0 y1 y2 y3
      unfold orthoepylaw03_Utf16Scalars.j0
      repeat' first
      | (with_reducible exact ih0 _ _ _ _)
      | (with_reducible exact ih1 _ _ _ _ _ _)
      | (with_reducible exact utf16_Compare.mono _ _ _)
      | (with_reducible exact LeO.refl _)
      | (with_reducible exact LeO.none _)
      | (with_reducible refine LeO.ite ?_ ?_)
      | (with_reducible refine LeO.bind ?_ (fun _ => ?_))
      | exact ih0 _ _ _ _
      | exact ih1 _ _ _ _ _ _
      | exact utf16_Compare.mono _ _ _
      | exact LeO.none _
      | refine LeO.ite ?_ ?_
      | refine LeO.bind ?_ (fun _ => ?_)
    · intro y0 y1 y2 y3 y4 y5
      unfold orthoepylaw03_Utf16Scalars.j1
      repeat' first
      | (with_reducible exact ih0 _ _ _ _)
      | (with_reducible exact ih1 _ _ _ _ _ _)
      | (with_reducible exact utf16_Compare.mono _ _ _)
      | (with_reducible exact LeO.refl _)
      | (with_reducible exact LeO.none _)
      | (with_reducible refine LeO.ite ?_ ?_)
      | (with_reducible refine LeO.bind ?_ (fun _ => ?_))
      | exact ih0 _ _ _ _
      | exact ih1 _ _ _ _ _ _
      | exact utf16_Compare.mono _ _ _
      | exact LeO.none _
      | refine LeO.ite ?_ ?_
      | refine LeO.bind ?_ (fun _ => ?_)
theorem orthoepylaw03_Utf16Scalars.mono : ∀ a0 a1 a2 k, LeO (orthoepylaw03_Utf16Scalars.f k a0 a1 a2) (orthoepylaw03_Utf16Scalars.f (k + 1) a0 a1 a2) := by
  intro a0 a1 a2 k
  obtain ⟨ih0, ih1⟩ := orthoepylaw03_Utf16Scalars.mono_l k
  unfold orthoepylaw03_Utf16Scalars.f
  repeat' first
      | (with_reducible exact ih0 _ _ _ _)
      | (with_reducible exact ih1 _ _ _ _ _ _)
      | (with_reducible exact utf16_Compare.mono _ _ _)
      | (with_reducible exact LeO.refl _)
      | (with_reducible exact LeO.none _)
      | (with_reducible refine LeO.ite ?_ ?_)
      | (with_reducible refine LeO.bind ?_ (fun _ => ?_))
      | exact ih0 _ _ _ _
      | exact ih1 _ _ _ _ _ _
      | exact utf16_Compare.mono _ _ _
      | exact LeO.none _
      | refine LeO.ite ?_ ?_
      | refine LeO.bind ?_ (fun _ => ?_)
def orthoepylaw03_Utf16Scalars.T5 : Bool × List (List Nat × List Nat) := (true, [([], []), ([0], [0]), ([1], [1]), ([], []), ([3, 1], [3]), ([4], [4]), ([2, 5], [2, 5]), ([6, 4, 0, 1, 2, 3, 4, 5, 6], [6])])
def orthoepylaw03_Utf16Scalars.B5 : List Nat := [0, 1, 3, 0, 11, 27, 63, 127]
theorem orthoepylaw03_Utf16Scalars.tab5 : rtab .any (opsOf Try.f6 5) = orthoepylaw03_Utf16Scalars.T5 := by kernel_rfl
theorem orthoepylaw03_Utf16Scalars.bits5 : waitsOk orthoepylaw03_Utf16Scalars.T5.2 orthoepylaw03_Utf16Scalars.B5 = true := by kernel_rfl
set_option maxHeartbeats 8000000 in
set_option maxRecDepth 100000 in
theorem orthoepylaw03_Utf16Scalars.calls (k : Nat) (a0 : Int) (a1 : Int) (a2 : Int) (r : Bool) (w : World) (h : orthoepylaw03_Utf16Scalars.f k a0 a1 a2 = some r) (hT_ : Aside0 (r = true)) :
    Calls Try.prog 6 #[.int .i64 a0, .int .i64 a1, .int .i64 a2] w fun e w' => e = .returned (.bool r) ∧ Below w.heap.size w w' := by
  have HB := Aside0.mk (Below.refl w.heap.size w)
  have H : ((orthoepylaw00_Rune.f a0).bind fun t297 => ((orthoepylaw00_Rune.f a1).bind fun t298 => ((orthoepyref01_Is.f t297).bind fun t299 => (if t299 = true then ((orthoepyref01_Is.f t298).bind fun t300 => (orthoepylaw03_Utf16Scalars.j0 k a2 t297 t298 (!t300))) else (orthoepylaw03_Utf16Scalars.j0 k a2 t297 t298 true))))) = some r := h
  clear h
  replace H := Option.bind_eq_some_iff.mp H
  obtain ⟨t297, A40, H⟩ := H
  replace H : ((orthoepylaw00_Rune.f a1).bind fun t298 => ((orthoepyref01_Is.f t297).bind fun t299 => (if t299 = true then ((orthoepyref01_Is.f t298).bind fun t300 => (orthoepylaw03_Utf16Scalars.j0 k a2 t297 t298 (!t300))) else (orthoepylaw03_Utf16Scalars.j0 k a2 t297 t298 true)))) = some r := H
  have A4 := Aside0.mk A40
  clear A40
  replace H := Option.bind_eq_some_iff.mp H
  obtain ⟨t298, A50, H⟩ := H
  replace H : ((orthoepyref01_Is.f t297).bind fun t299 => (if t299 = true then ((orthoepyref01_Is.f t298).bind fun t300 => (orthoepylaw03_Utf16Scalars.j0 k a2 t297 t298 (!t300))) else (orthoepylaw03_Utf16Scalars.j0 k a2 t297 t298 true))) = some r := H
  have A5 := Aside0.mk A50
  clear A50
  have HC6 := Aside0.mk H
  clear H
  go_enter Try.func6, Try.ntmps6
  go_upto_region 2 with (first | ((with_reducible refine gate_callee (f := 19) rfl ?_); refine goesL_ (some 14) rfl rfl Try.func19 (by kernel_rfl) rfl #[.int .i64 a0] rfl (by (try simp only [List.map_toArray, List.map_cons, List.map_nil]); first | done | rfl | (simp only [List.length_drop, List.length_take]; rfl)) ?_; (with_reducible refine (orthoepylaw00_Rune.calls a0 t297 _ A4.out).mono ?_); rintro e w' ⟨rfl, ⟨nd, rfl⟩⟩; refine ⟨_, rfl, ?_⟩) | ((with_reducible refine gate_callee (f := 19) rfl ?_); refine goesL_ (some 16) rfl rfl Try.func19 (by kernel_rfl) rfl #[.int .i64 a1] rfl (by (try simp only [List.map_toArray, List.map_cons, List.map_nil]); first | done | rfl | (simp only [List.length_drop, List.length_take]; rfl)) ?_; (with_reducible refine (orthoepylaw00_Rune.calls a1 t298 _ A5.out).mono ?_); rintro e w' ⟨rfl, ⟨nd, rfl⟩⟩; refine ⟨_, rfl, ?_⟩))
  (try simp only [Act.put, List.setIfInBounds_toArray, List.set_cons_zero, List.set_cons_succ])
  go_cut [24] (fun v24 wc => ∃ (kq : Nat) (x24_5 : Bool), v24 = .bool x24_5 ∧ Aside0 (orthoepylaw03_Utf16Scalars.j0 kq a2 t297 t298 x24_5 = some r) ∧ Aside0 (kq ≤ k) ∧ Aside0 (Below w.heap.size w wc))
  case first =>
    have H := HC6.out
    clear HC6
    replace H := Option.bind_eq_some_iff.mp H
    obtain ⟨t299, A70, H⟩ := H
    replace H : (if t299 = true then ((orthoepyref01_Is.f t298).bind fun t300 => (orthoepylaw03_Utf16Scalars.j0 k a2 t297 t298 (!t300))) else (orthoepylaw03_Utf16Scalars.j0 k a2 t297 t298 true)) = some r := H
    have A7 := Aside0.mk A70
    clear A70
    by_cases c8 : t299 = true
    · subst c8
      have H1 : ((orthoepyref01_Is.f t298).bind fun t300 => (orthoepylaw03_Utf16Scalars.j0 k a2 t297 t298 (!t300))) = some r := by rw [if_pos rfl] at H; exact H
      clear H
      have H := H1
      clear H1
      replace H := Option.bind_eq_some_iff.mp H
      obtain ⟨t300, A90, H⟩ := H
      replace H : (orthoepylaw03_Utf16Scalars.j0 k a2 t297 t298 (!t300)) = some r := H
      have A9 := Aside0.mk A90
      clear A90
      have H' := Aside0.mk H
      clear H
      go_wp2_with (first | ((with_reducible refine gate_callee (f := 20) rfl ?_); refine goesL_ (some 18) rfl rfl Try.func20 (by kernel_rfl) rfl #[.int .i32 t297] rfl (by (try simp only [List.map_toArray, List.map_cons, List.map_nil]); first | done | rfl | (simp only [List.length_drop, List.length_take]; rfl)) ?_; (with_reducible refine (orthoepyref01_Is.calls t297 true _ A7.out).mono ?_); rintro e w' ⟨rfl, ⟨nd, rfl⟩⟩; refine ⟨_, rfl, ?_⟩) | (go_at_call 20; (with_reducible refine (orthoepyref01_Is.calls t298 t300 _ A9.out).mono ?_); rintro e w' ⟨rfl, ⟨nd, rfl⟩⟩))
      go_meet
      case rel => exact ⟨_, (!t300), (by first | rfl | (simp; done) | (simp [*]; done)), H', ⟨by first | omega | exact Nat.le_refl _⟩, ⟨by repeat (first | (with_reducible first | exact HB.out | apply below_alloc | apply pw_below_drewN | apply below_drew1) | exact HB.out)⟩⟩
    · replace c8 := Bool.eq_false_iff.mpr c8
      subst c8
      have H1 : (orthoepylaw03_Utf16Scalars.j0 k a2 t297 t298 true) = some r := by rw [if_neg (show ¬ (false = true) by decide)] at H; exact H
      clear H
      have H := H1
      clear H1
      have H' := Aside0.mk H
      clear H
      go_wp2_with (first | ((with_reducible refine gate_callee (f := 20) rfl ?_); refine goesL_ (some 18) rfl rfl Try.func20 (by kernel_rfl) rfl #[.int .i32 t297] rfl (by (try simp only [List.map_toArray, List.map_cons, List.map_nil]); first | done | rfl | (simp only [List.length_drop, List.length_take]; rfl)) ?_; (with_reducible refine (orthoepyref01_Is.calls t297 false _ A7.out).mono ?_); rintro e w' ⟨rfl, ⟨nd, rfl⟩⟩; refine ⟨_, rfl, ?_⟩))
      go_meet
      case rel => exact ⟨_, (true), (by first | rfl | (simp; done) | (simp [*]; done)), H', ⟨by first | omega | exact Nat.le_refl _⟩, ⟨by repeat (first | (with_reducible first | exact HB.out | apply below_alloc | apply pw_below_drewN | apply below_drew1) | exact HB.out)⟩⟩
  case rest =>
    clear HC6
    try clear c1
    try clear c2
    try clear p2
    try clear c6
    try clear c8
    obtain ⟨kq, x24_5, rfl, HA, HJ5, HB⟩ := hcut
    cases kq with
    | zero => exact absurd HA.out (by simp [orthoepylaw03_Utf16Scalars.j0])
    | succ kj5 =>
      have H := HA.out
      clear HA
      simp only [orthoepylaw03_Utf16Scalars.j0] at H
      by_cases c10 : x24_5 = true
      · subst c10
        have H1 : ((orthoepylaw03_awake.f).bind fun t301 => (some t301)) = some r := by rw [if_pos rfl] at H; exact H
        clear H
        have H := H1
        clear H1
        replace H := Option.bind_eq_some_iff.mp H
        obtain ⟨t301, A110, H⟩ := H
        replace H : (some t301) = some r := H
        have A11 := Aside0.mk A110
        clear A110
        obtain rfl := Option.some.inj H
        go_wp2_with (first | ((with_reducible refine gate_callee (f := 8) rfl ?_); refine goesL_ (some 25) rfl rfl Try.func8 (by kernel_rfl) rfl #[] rfl (by (try simp only [List.map_toArray, List.map_cons, List.map_nil]); first | done | rfl | (simp only [List.length_drop, List.length_take]; rfl)) ?_; (with_reducible refine (orthoepylaw03_awake.calls  t301 _ A11.out).mono ?_); rintro e w12 ⟨rfl, hb⟩; refine ⟨_, rfl, ?_⟩; have n0_ := Aside0.mk (below_step (by repeat (first | (with_reducible first | exact HB.out | apply below_alloc | apply pw_below_drewN | apply below_drew1) | exact HB.out)) hb); clear HB; have HB := n0_; clear n0_; (try clear hb); (try clear hb2); (try clear hk); (try clear hi)))
        go_ret
        exact ⟨by first | rfl | (simp [errW_none, errW_some] <;> rfl) | (simp [*, errW_none, errW_some] <;> rfl), by repeat (first | (with_reducible first | exact HB.out | apply below_alloc | apply pw_below_drewN | apply below_drew1) | exact HB.out)⟩
      · replace c10 := Bool.eq_false_iff.mpr c10
        subst c10
        have H1 : ((utf16_Compare.f kj5 (([t297] : List Int)) (([t298] : List Int))).bind fun t308 => ((orthoepyref02_Bytes.f t297).bind fun t309 => ((orthoepyref02_Bytes.f t298).bind fun t312 => (if t297 ≥ 65536 then (if t298 ≥ 57344 then (if t298 < 65536 then (orthoepylaw03_Utf16Scalars.j1 kj5 a2 t297 t298 t308 (Op.bytesLess ((strOfNums t309).toList) ((strOfNums t312).toList)) true) else (if t298 ≥ 65536 then (if t297 ≥ 57344 then (orthoepylaw03_Utf16Scalars.j1 kj5 a2 t297 t298 t308 (Op.bytesLess ((strOfNums t309).toList) ((strOfNums t312).toList)) (decide (t297 < 65536))) else (orthoepylaw03_Utf16Scalars.j1 kj5 a2 t297 t298 t308 (Op.bytesLess ((strOfNums t309).toList) ((strOfNums t312).toList)) false)) else (orthoepylaw03_Utf16Scalars.j1 kj5 a2 t297 t298 t308 (Op.bytesLess ((strOfNums t309).toList) ((strOfNums t312).toList)) false))) else (if t298 ≥ 65536 then (if t297 ≥ 57344 then (orthoepylaw03_Utf16Scalars.j1 kj5 a2 t297 t298 t308 (Op.bytesLess ((strOfNums t309).toList) ((strOfNums t312).toList)) (decide (t297 < 65536))) else (orthoepylaw03_Utf16Scalars.j1 kj5 a2 t297 t298 t308 (Op.bytesLess ((strOfNums t309).toList) ((strOfNums t312).toList)) false)) else (orthoepylaw03_Utf16Scalars.j1 kj5 a2 t297 t298 t308 (Op.bytesLess ((strOfNums t309).toList) ((strOfNums t312).toList)) false))) else (if t298 ≥ 65536 then (if t297 ≥ 57344 then (orthoepylaw03_Utf16Scalars.j1 kj5 a2 t297 t298 t308 (Op.bytesLess ((strOfNums t309).toList) ((strOfNums t312).toList)) (decide (t297 < 65536))) else (orthoepylaw03_Utf16Scalars.j1 kj5 a2 t297 t298 t308 (Op.bytesLess ((strOfNums t309).toList) ((strOfNums t312).toList)) false)) else (orthoepylaw03_Utf16Scalars.j1 kj5 a2 t297 t298 t308 (Op.bytesLess ((strOfNums t309).toList) ((strOfNums t312).toList)) false)))))) = some r := by rw [if_neg (show ¬ (false = true) by decide)] at H; exact H
        clear H
        have H := H1
        clear H1
        obtain ⟨y302, hy302⟩ : ∃ y_ : List Int, y_ = (([t297] : List Int)) := ⟨_, rfl⟩
        replace H : ((utf16_Compare.f kj5 y302 (([t298] : List Int))).bind fun t308 => ((orthoepyref02_Bytes.f t297).bind fun t309 => ((orthoepyref02_Bytes.f t298).bind fun t312 => (if t297 ≥ 65536 then (if t298 ≥ 57344 then (if t298 < 65536 then (orthoepylaw03_Utf16Scalars.j1 kj5 a2 t297 t298 t308 (Op.bytesLess ((strOfNums t309).toList) ((strOfNums t312).toList)) true) else (if t298 ≥ 65536 then (if t297 ≥ 57344 then (orthoepylaw03_Utf16Scalars.j1 kj5 a2 t297 t298 t308 (Op.bytesLess ((strOfNums t309).toList) ((strOfNums t312).toList)) (decide (t297 < 65536))) else (orthoepylaw03_Utf16Scalars.j1 kj5 a2 t297 t298 t308 (Op.bytesLess ((strOfNums t309).toList) ((strOfNums t312).toList)) false)) else (orthoepylaw03_Utf16Scalars.j1 kj5 a2 t297 t298 t308 (Op.bytesLess ((strOfNums t309).toList) ((strOfNums t312).toList)) false))) else (if t298 ≥ 65536 then (if t297 ≥ 57344 then (orthoepylaw03_Utf16Scalars.j1 kj5 a2 t297 t298 t308 (Op.bytesLess ((strOfNums t309).toList) ((strOfNums t312).toList)) (decide (t297 < 65536))) else (orthoepylaw03_Utf16Scalars.j1 kj5 a2 t297 t298 t308 (Op.bytesLess ((strOfNums t309).toList) ((strOfNums t312).toList)) false)) else (orthoepylaw03_Utf16Scalars.j1 kj5 a2 t297 t298 t308 (Op.bytesLess ((strOfNums t309).toList) ((strOfNums t312).toList)) false))) else (if t298 ≥ 65536 then (if t297 ≥ 57344 then (orthoepylaw03_Utf16Scalars.j1 kj5 a2 t297 t298 t308 (Op.bytesLess ((strOfNums t309).toList) ((strOfNums t312).toList)) (decide (t297 < 65536))) else (orthoepylaw03_Utf16Scalars.j1 kj5 a2 t297 t298 t308 (Op.bytesLess ((strOfNums t309).toList) ((strOfNums t312).toList)) false)) else (orthoepylaw03_Utf16Scalars.j1 kj5 a2 t297 t298 t308 (Op.bytesLess ((strOfNums t309).toList) ((strOfNums t312).toList)) false)))))) = some r := by first | (rw [hy302]; with_reducible exact H) | (have H2_ := (Option.bind_some _ _).symm.trans H; rw [hy302]; with_reducible exact H2_) | (have H2_ := (Option.bind_some _ _).symm.trans H; with_reducible exact H2_) | with_reducible exact H | (rw [hy302]; exact H) | exact H
        have Ny302 := Aside0.mk hy302
        clear hy302
        obtain ⟨y305, hy305⟩ : ∃ y_ : List Int, y_ = (([t298] : List Int)) := ⟨_, rfl⟩
        replace H : ((utf16_Compare.f kj5 y302 y305).bind fun t308 => ((orthoepyref02_Bytes.f t297).bind fun t309 => ((orthoepyref02_Bytes.f t298).bind fun t312 => (if t297 ≥ 65536 then (if t298 ≥ 57344 then (if t298 < 65536 then (orthoepylaw03_Utf16Scalars.j1 kj5 a2 t297 t298 t308 (Op.bytesLess ((strOfNums t309).toList) ((strOfNums t312).toList)) true) else (if t298 ≥ 65536 then (if t297 ≥ 57344 then (orthoepylaw03_Utf16Scalars.j1 kj5 a2 t297 t298 t308 (Op.bytesLess ((strOfNums t309).toList) ((strOfNums t312).toList)) (decide (t297 < 65536))) else (orthoepylaw03_Utf16Scalars.j1 kj5 a2 t297 t298 t308 (Op.bytesLess ((strOfNums t309).toList) ((strOfNums t312).toList)) false)) else (orthoepylaw03_Utf16Scalars.j1 kj5 a2 t297 t298 t308 (Op.bytesLess ((strOfNums t309).toList) ((strOfNums t312).toList)) false))) else (if t298 ≥ 65536 then (if t297 ≥ 57344 then (orthoepylaw03_Utf16Scalars.j1 kj5 a2 t297 t298 t308 (Op.bytesLess ((strOfNums t309).toList) ((strOfNums t312).toList)) (decide (t297 < 65536))) else (orthoepylaw03_Utf16Scalars.j1 kj5 a2 t297 t298 t308 (Op.bytesLess ((strOfNums t309).toList) ((strOfNums t312).toList)) false)) else (orthoepylaw03_Utf16Scalars.j1 kj5 a2 t297 t298 t308 (Op.bytesLess ((strOfNums t309).toList) ((strOfNums t312).toList)) false))) else (if t298 ≥ 65536 then (if t297 ≥ 57344 then (orthoepylaw03_Utf16Scalars.j1 kj5 a2 t297 t298 t308 (Op.bytesLess ((strOfNums t309).toList) ((strOfNums t312).toList)) (decide (t297 < 65536))) else (orthoepylaw03_Utf16Scalars.j1 kj5 a2 t297 t298 t308 (Op.bytesLess ((strOfNums t309).toList) ((strOfNums t312).toList)) false)) else (orthoepylaw03_Utf16Scalars.j1 kj5 a2 t297 t298 t308 (Op.bytesLess ((strOfNums t309).toList) ((strOfNums t312).toList)) false)))))) = some r := by first | (rw [hy305]; with_reducible exact H) | (have H2_ := (Option.bind_some _ _).symm.trans H; rw [hy305]; with_reducible exact H2_) | (have H2_ := (Option.bind_some _ _).symm.trans H; with_reducible exact H2_) | with_reducible exact H | (rw [hy305]; exact H) | exact H
        have Ny305 := Aside0.mk hy305
        clear hy305
        replace H := Option.bind_eq_some_iff.mp H
        obtain ⟨t308, A130, H⟩ := H
        replace H : ((orthoepyref02_Bytes.f t297).bind fun t309 => ((orthoepyref02_Bytes.f t298).bind fun t312 => (if t297 ≥ 65536 then (if t298 ≥ 57344 then (if t298 < 65536 then (orthoepylaw03_Utf16Scalars.j1 kj5 a2 t297 t298 t308 (Op.bytesLess ((strOfNums t309).toList) ((strOfNums t312).toList)) true) else (if t298 ≥ 65536 then (if t297 ≥ 57344 then (orthoepylaw03_Utf16Scalars.j1 kj5 a2 t297 t298 t308 (Op.bytesLess ((strOfNums t309).toList) ((strOfNums t312).toList)) (decide (t297 < 65536))) else (orthoepylaw03_Utf16Scalars.j1 kj5 a2 t297 t298 t308 (Op.bytesLess ((strOfNums t309).toList) ((strOfNums t312).toList)) false)) else (orthoepylaw03_Utf16Scalars.j1 kj5 a2 t297 t298 t308 (Op.bytesLess ((strOfNums t309).toList) ((strOfNums t312).toList)) false))) else (if t298 ≥ 65536 then (if t297 ≥ 57344 then (orthoepylaw03_Utf16Scalars.j1 kj5 a2 t297 t298 t308 (Op.bytesLess ((strOfNums t309).toList) ((strOfNums t312).toList)) (decide (t297 < 65536))) else (orthoepylaw03_Utf16Scalars.j1 kj5 a2 t297 t298 t308 (Op.bytesLess ((strOfNums t309).toList) ((strOfNums t312).toList)) false)) else (orthoepylaw03_Utf16Scalars.j1 kj5 a2 t297 t298 t308 (Op.bytesLess ((strOfNums t309).toList) ((strOfNums t312).toList)) false))) else (if t298 ≥ 65536 then (if t297 ≥ 57344 then (orthoepylaw03_Utf16Scalars.j1 kj5 a2 t297 t298 t308 (Op.bytesLess ((strOfNums t309).toList) ((strOfNums t312).toList)) (decide (t297 < 65536))) else (orthoepylaw03_Utf16Scalars.j1 kj5 a2 t297 t298 t308 (Op.bytesLess ((strOfNums t309).toList) ((strOfNums t312).toList)) false)) else (orthoepylaw03_Utf16Scalars.j1 kj5 a2 t297 t298 t308 (Op.bytesLess ((strOfNums t309).toList) ((strOfNums t312).toList)) false))))) = some r := H
        have A13 := Aside0.mk A130
        clear A130
        replace H := Option.bind_eq_some_iff.mp H
        obtain ⟨t309, A140, H⟩ := H
        replace H : ((orthoepyref02_Bytes.f t298).bind fun t312 => (if t297 ≥ 65536 then (if t298 ≥ 57344 then (if t298 < 65536 then (orthoepylaw03_Utf16Scalars.j1 kj5 a2 t297 t298 t308 (Op.bytesLess ((strOfNums t309).toList) ((strOfNums t312).toList)) true) else (if t298 ≥ 65536 then (if t297 ≥ 57344 then (orthoepylaw03_Utf16Scalars.j1 kj5 a2 t297 t298 t308 (Op.bytesLess ((strOfNums t309).toList) ((strOfNums t312).toList)) (decide (t297 < 65536))) else (orthoepylaw03_Utf16Scalars.j1 kj5 a2 t297 t298 t308 (Op.bytesLess ((strOfNums t309).toList) ((strOfNums t312).toList)) false)) else (orthoepylaw03_Utf16Scalars.j1 kj5 a2 t297 t298 t308 (Op.bytesLess ((strOfNums t309).toList) ((strOfNums t312).toList)) false))) else (if t298 ≥ 65536 then (if t297 ≥ 57344 then (orthoepylaw03_Utf16Scalars.j1 kj5 a2 t297 t298 t308 (Op.bytesLess ((strOfNums t309).toList) ((strOfNums t312).toList)) (decide (t297 < 65536))) else (orthoepylaw03_Utf16Scalars.j1 kj5 a2 t297 t298 t308 (Op.bytesLess ((strOfNums t309).toList) ((strOfNums t312).toList)) false)) else (orthoepylaw03_Utf16Scalars.j1 kj5 a2 t297 t298 t308 (Op.bytesLess ((strOfNums t309).toList) ((strOfNums t312).toList)) false))) else (if t298 ≥ 65536 then (if t297 ≥ 57344 then (orthoepylaw03_Utf16Scalars.j1 kj5 a2 t297 t298 t308 (Op.bytesLess ((strOfNums t309).toList) ((strOfNums t312).toList)) (decide (t297 < 65536))) else (orthoepylaw03_Utf16Scalars.j1 kj5 a2 t297 t298 t308 (Op.bytesLess ((strOfNums t309).toList) ((strOfNums t312).toList)) false)) else (orthoepylaw03_Utf16Scalars.j1 kj5 a2 t297 t298 t308 (Op.bytesLess ((strOfNums t309).toList) ((strOfNums t312).toList)) false)))) = some r := H
        have A14 := Aside0.mk A140
        clear A140
        replace H := Option.bind_eq_some_iff.mp H
        obtain ⟨t312, A150, H⟩ := H
        replace H : (if t297 ≥ 65536 then (if t298 ≥ 57344 then (if t298 < 65536 then (orthoepylaw03_Utf16Scalars.j1 kj5 a2 t297 t298 t308 (Op.bytesLess ((strOfNums t309).toList) ((strOfNums t312).toList)) true) else (if t298 ≥ 65536 then (if t297 ≥ 57344 then (orthoepylaw03_Utf16Scalars.j1 kj5 a2 t297 t298 t308 (Op.bytesLess ((strOfNums t309).toList) ((strOfNums t312).toList)) (decide (t297 < 65536))) else (orthoepylaw03_Utf16Scalars.j1 kj5 a2 t297 t298 t308 (Op.bytesLess ((strOfNums t309).toList) ((strOfNums t312).toList)) false)) else (orthoepylaw03_Utf16Scalars.j1 kj5 a2 t297 t298 t308 (Op.bytesLess ((strOfNums t309).toList) ((strOfNums t312).toList)) false))) else (if t298 ≥ 65536 then (if t297 ≥ 57344 then (orthoepylaw03_Utf16Scalars.j1 kj5 a2 t297 t298 t308 (Op.bytesLess ((strOfNums t309).toList) ((strOfNums t312).toList)) (decide (t297 < 65536))) else (orthoepylaw03_Utf16Scalars.j1 kj5 a2 t297 t298 t308 (Op.bytesLess ((strOfNums t309).toList) ((strOfNums t312).toList)) false)) else (orthoepylaw03_Utf16Scalars.j1 kj5 a2 t297 t298 t308 (Op.bytesLess ((strOfNums t309).toList) ((strOfNums t312).toList)) false))) else (if t298 ≥ 65536 then (if t297 ≥ 57344 then (orthoepylaw03_Utf16Scalars.j1 kj5 a2 t297 t298 t308 (Op.bytesLess ((strOfNums t309).toList) ((strOfNums t312).toList)) (decide (t297 < 65536))) else (orthoepylaw03_Utf16Scalars.j1 kj5 a2 t297 t298 t308 (Op.bytesLess ((strOfNums t309).toList) ((strOfNums t312).toList)) false)) else (orthoepylaw03_Utf16Scalars.j1 kj5 a2 t297 t298 t308 (Op.bytesLess ((strOfNums t309).toList) ((strOfNums t312).toList)) false))) = some r := H
        have A15 := Aside0.mk A150
        clear A150
        have HC16 := Aside0.mk H
        clear H
        try go_wp2_with (first | ((with_reducible refine gate_dst (N := 27) rfl ?_); (try (refine gate_guard (by rfl) ?_; dsimp only)); refine Kd.R_lit (Kd.int .i32) _ 21 ?hg (N := 27) ?hd (xs := ([t297] : List Int)) (inner := [.int .i32 t297]) (ok := fun _ => True) (okp := fun _ => True) ?hr ?hp (fun _ hk => hk) trivial (Below.refl _ _) (Nat.le_refl _) (by simp) ?_; (case hd => rfl); (case hg => rfl); (case hr => first | (go_simp; done) | (go_simp; rfl)); (case hp => exact (Reps.one (show Kd.M (Kd.int .i32) _ _ _ t297 [.int .i32 t297] from rfl) (Reps.none _ _))); intro v303 w17 ho18 hb hg_ hnew_; clear hg_ hnew_; (first | rw [← Ny302.out] at ho18 | (simp only [Int.reduceToNat] at ho18; rw [← Ny302.out] at ho18)); have n0_ := Aside0.mk (Kd.R_lower ho18 (below_size (by repeat (first | (with_reducible first | exact HB.out | apply below_alloc | apply pw_below_drewN | apply below_drew1) | exact HB.out)))); have n1_ := Aside0.mk (below_step (by repeat (first | (with_reducible first | exact HB.out | apply below_alloc | apply pw_below_drewN | apply below_drew1) | exact HB.out)) hb); clear HB; have HO304 := n0_; have HB := n1_; clear n0_ n1_; clear hb ho18) | ((with_reducible refine gate_dst (N := 29) rfl ?_); (try (refine gate_guard (by rfl) ?_; dsimp only)); refine Kd.R_lit (Kd.int .i32) _ 21 ?hg (N := 29) ?hd (xs := ([t298] : List Int)) (inner := [.int .i32 t298]) (ok := fun _ => True) (okp := fun _ => True) ?hr ?hp (fun _ hk => hk) trivial (Below.refl _ _) (Nat.le_refl _) (by simp) ?_; (case hd => rfl); (case hg => rfl); (case hr => first | (go_simp; done) | (go_simp; rfl)); (case hp => exact (Reps.one (show Kd.M (Kd.int .i32) _ _ _ t298 [.int .i32 t298] from rfl) (Reps.none _ _))); intro v306 w19 ho20 hb hg_ hnew_; clear hg_ hnew_; (first | rw [← Ny305.out] at ho20 | (simp only [Int.reduceToNat] at ho20; rw [← Ny305.out] at ho20)); have n0_ := Aside0.mk (Kd.R_elder' (by (with_reducible repeat (first | apply Kd.R_alloc | apply Kd.R_drewN | apply Kd.R_drew)); exact HO304.out) (Kd.R_base ho20) hb); have n1_ := Aside0.mk (Kd.R_lower (Kd.R_new' ho20 (Kd.R_lt (by (with_reducible repeat (first | apply Kd.R_alloc | apply Kd.R_drewN | apply Kd.R_drew)); exact HO304.out))) (below_size (by repeat (first | (with_reducible first | exact HB.out | apply below_alloc | apply pw_below_drewN | apply below_drew1) | exact HB.out)))); have n2_ := Aside0.mk (below_step (by repeat (first | (with_reducible first | exact HB.out | apply below_alloc | apply pw_below_drewN | apply below_drew1) | exact HB.out)) hb); clear HO304; clear HB; have HO304 := n0_; have HO307 := n1_; have HB := n2_; clear n0_ n1_ n2_; clear hb ho20; obtain ⟨Ao21, co21, eo21⟩ := Kd.R_slice HO304.out; subst eo21; obtain ⟨Ao22, co22, eo22⟩ := Kd.R_slice HO307.out; subst eo22) | ((with_reducible refine gate_callee (f := 15) rfl ?_); refine goesL_ (some 30) rfl rfl Try.func15 (by kernel_rfl) rfl #[.slice Ao21 y302.length co21, .slice Ao22 y305.length co22] rfl (by (try simp only [List.map_toArray, List.map_cons, List.map_nil]); first | done | rfl | (simp only [List.length_drop, List.length_take]; rfl)) ?_; (with_reducible refine (utf16_Compare.calls kj5 _ _ y302 _ _ y305 t308 _ ?side1 ?side2 ?side3 ?side4 A13.out).mono ?_); (case side1 => repeat (first | exact (Kd.R_reads' HO304.out).2.2 | (with_reducible refine Kd.C_alloc ?_ _) | (with_reducible refine Kd.C_drewN ?_ _) | (with_reducible refine Kd.C_drew ?_))); (case side2 => exact (Kd.R_reads' HO304.out).2.1); (case side3 => repeat (first | exact (Kd.R_reads' HO307.out).2.2 | (with_reducible refine Kd.C_alloc ?_ _) | (with_reducible refine Kd.C_drewN ?_ _) | (with_reducible refine Kd.C_drew ?_))); (case side4 => exact (Kd.R_reads' HO307.out).2.1); rintro e w23 ⟨rfl, hb⟩; refine ⟨_, rfl, ?_⟩; have n0_ := Aside0.mk (Kd.R_below (by (with_reducible repeat (first | apply Kd.R_alloc | apply Kd.R_drewN | apply Kd.R_drew)); exact HO304.out) hb); have n1_ := Aside0.mk (Kd.R_below (by (with_reducible repeat (first | apply Kd.R_alloc | apply Kd.R_drewN | apply Kd.R_drew)); exact HO307.out) hb); have n2_ := Aside0.mk (below_step (by repeat (first | (with_reducible first | exact HB.out | apply below_alloc | apply pw_below_drewN | apply below_drew1) | exact HB.out)) hb); clear HO304; clear HO307; clear HB; have HO304 := n0_; have HO307 := n1_; have HB := n2_; clear n0_ n1_ n2_; (try clear hb); (try clear hb2); (try clear hk); (try clear hi)))
        have n0_ := Aside0.mk (Kd.R_drew HO304.out)
        have n1_ := Aside0.mk (Kd.R_drew HO307.out)
        have n2_ := Aside0.mk (below_drew1 HB.out)
        clear HO304
        clear HO307
        clear HB
        have HO304 := n0_
        have HO307 := n1_
        have HB := n2_
        clear n0_ n1_ n2_
        refine start_ (n := 8) (S := fun w' => True) (ds := []) #[false, false, false, false, false, false, false, false] (by kernel_rfl) rfl rfl trivial (fun hHeld => ?_); refine with_tabW orthoepylaw03_Utf16Scalars.tab5 orthoepylaw03_Utf16Scalars.bits5 (fun HT_ HW_ => ?_)
        generalize w23.drew = w24 at HO304 HO307 HB hHeld ⊢
        refine pure_ (i := 0) (N := some 31) (v := ?_) (a' := ?_) #[true, false, false, false, false, false, false, false] rfl rfl (any_of HT_.out (by kernel_rfl)) (fun _ _ _ h => h) (Or.inl ⟨by rfl, ?_⟩) ?_ ?_
        rotate_left
        · intro w'
          go_simp
          with_reducible rfl
        rotate_left
        · simp only [Act.put, List.setIfInBounds_toArray, List.set_cons_zero, List.set_cons_succ, i64_w, i32_w]
          rfl
        refine pure_ (i := 3) (N := some 34) (v := ?_) (a' := ?_) #[true, false, false, true, false, false, false, false] rfl rfl (any_of HT_.out (by kernel_rfl)) (fun _ _ _ h => h) (Or.inl ⟨by rfl, ?_⟩) ?_ ?_
        rotate_left
        · intro w'
          go_simp
          with_reducible rfl
        rotate_left
        · simp only [Act.put, List.setIfInBounds_toArray, List.set_cons_zero, List.set_cons_succ, i64_w, i32_w]
          rfl
        refine one_ (i := 1) (N := some 32) #[true, true, false, true, false, false, false, false] rfl rfl (one_of HT_.out (by kernel_rfl)) (by decide) (fun K hK => ?_)
        refine goes_ Try.func21 (by kernel_rfl) rfl #[.int .i32 t297] (by rfl) rfl rfl (by (try simp only [List.map_toArray, List.map_cons, List.map_nil]); first | done | rfl | (simp only [List.length_drop, List.length_take]; rfl)) ?_
        with_reducible refine (orthoepyref02_Bytes.calls t297 t309 _ A14.out).mono ?_
        rintro e w25 ⟨v310, rfl, ho0, hb⟩
        refine ⟨_, rfl, ?_⟩
        have n0_ := Aside0.mk (Kd.R_below (by (with_reducible repeat (first | apply Kd.R_alloc | apply Kd.R_drewN | apply Kd.R_drew)); exact HO304.out) hb)
        have n1_ := Aside0.mk (Kd.R_below (by (with_reducible repeat (first | apply Kd.R_alloc | apply Kd.R_drewN | apply Kd.R_drew)); exact HO307.out) hb)
        have n2_ := Aside0.mk (Kd.R_lower ho0 (below_size (by repeat (first | (with_reducible first | exact HB.out | apply below_alloc | apply pw_below_drewN | apply below_drew1) | exact HB.out))))
        have n3_ := Aside0.mk (below_step (by repeat (first | (with_reducible first | exact HB.out | apply below_alloc | apply pw_below_drewN | apply below_drew1) | exact HB.out)) hb)
        clear HO304
        clear HO307
        clear HB
        have HO304 := n0_
        have HO307 := n1_
        have HO311 := n2_
        have HB := n3_
        clear n0_ n1_ n2_ n3_
        (try clear hb)
        (try clear hb2)
        (try clear hk)
        (try clear hi)
        (try clear ho0)
        refine hK.out _ _ trivial (fun hHeld => ?_)
        clear hK K
        refine norm_ (a' := ?_) ?_ ?_
        rotate_left
        · show Act.put _ (some 32) _ = _
          simp only [Act.put, List.setIfInBounds_toArray, List.set_cons_zero, List.set_cons_succ, i64_w, i32_w]
          rfl
        refine join_ (σ := Value) 2 #[true, true, true, true, true, true, false, false] (fun s_ => [(33, .string (strOfNums t309)), (35, s_), (36, .string (strOfNums t312))]) (fun s_ w' => (Kd.R (Kd.int .i32) 21 w' w.heap.size (fun k_ => some k_ ≠ (.slice Ao22 y305.length co22 : Value).ownBlock) (.slice Ao21 y302.length co21) y302) ∧ (Kd.R (Kd.int .i32) 21 w' w.heap.size (fun k_ => some k_ ≠ (.slice Ao21 y302.length co21 : Value).ownBlock) (.slice Ao22 y305.length co22) y305) ∧ (Kd.R (Kd.int .u8) 5 w' w.heap.size (fun k_ => some k_ ≠ (s_ : Value).ownBlock) v310 t309) ∧ (Kd.R (Kd.int .u8) 5 w' w.heap.size (fun k_ => some k_ ≠ (v310 : Value).ownBlock) s_ t312) ∧ (Below w.heap.size w w')) ?_ ?_
        rotate_left
        · intro hCont
          refine two_ (i := 2) (j := 4) (Ni := some 33) (Nj := some 35) #[true, true, true, true, false, false, false, false] #[true, true, false, true, true, false, false, false] rfl rfl rfl rfl (two_of HT_.out (by kernel_rfl)) (by decide) (by decide) (fun K hK => ?_) (fun K hK => ?_)
          · skip
            have hcv26 := own_string (P := Try.prog) Try.underlying39 Try.underlying5 Try.underlying9 (Kd.own_of_R HO311.out)
            refine value_ (w1 := ?_) (v := ?_) (by rfl) rfl ?_ ?_
            rotate_left 2
            · go_simp
              constructor
              · rfl
              · rfl
            clear hcv26
            refine hK.out _ _ trivial (fun hHeld => ?_)
            clear hK K
            refine norm_ (a' := ?_) ?_ ?_
            rotate_left
            · show Act.put _ (some 33) _ = _
              simp only [Act.put, List.setIfInBounds_toArray, List.set_cons_zero, List.set_cons_succ, i64_w, i32_w]
              rfl
            refine one_ (i := 4) (N := some 35) #[true, true, true, true, true, false, false, false] rfl rfl (one_of HT_.out (by kernel_rfl)) (by decide) (fun K hK => ?_)
            refine goes_ Try.func21 (by kernel_rfl) rfl #[.int .i32 t298] (by rfl) rfl rfl (by (try simp only [List.map_toArray, List.map_cons, List.map_nil]); first | done | rfl | (simp only [List.length_drop, List.length_take]; rfl)) ?_
            with_reducible refine (orthoepyref02_Bytes.calls t298 t312 _ A15.out).mono ?_
            rintro e w27 ⟨v313, rfl, ho0, hb⟩
            refine ⟨_, rfl, ?_⟩
            have n0_ := Aside0.mk (Kd.R_below (by (with_reducible repeat (first | apply Kd.R_alloc | apply Kd.R_drewN | apply Kd.R_drew)); exact HO304.out) hb)
            have n1_ := Aside0.mk (Kd.R_below (by (with_reducible repeat (first | apply Kd.R_alloc | apply Kd.R_drewN | apply Kd.R_drew)); exact HO307.out) hb)
            have n2_ := Aside0.mk (Kd.R_elder' (by (with_reducible repeat (first | apply Kd.R_alloc | apply Kd.R_drewN | apply Kd.R_drew)); exact HO311.out) (Kd.R_base ho0) hb)
            have n3_ := Aside0.mk (Kd.R_lower (Kd.R_new' ho0 (Kd.R_lt (by (with_reducible repeat (first | apply Kd.R_alloc | apply Kd.R_drewN | apply Kd.R_drew)); exact HO311.out))) (below_size (by repeat (first | (with_reducible first | exact HB.out | apply below_alloc | apply pw_below_drewN | apply below_drew1) | exact HB.out))))
            have n4_ := Aside0.mk (below_step (by repeat (first | (with_reducible first | exact HB.out | apply below_alloc | apply pw_below_drewN | apply below_drew1) | exact HB.out)) hb)
            clear HO304
            clear HO307
            clear HO311
            clear HB
            have HO304 := n0_
            have HO307 := n1_
            have HO311 := n2_
            have HO314 := n3_
            have HB := n4_
            clear n0_ n1_ n2_ n3_ n4_
            (try clear hb)
            (try clear hb2)
            (try clear hk)
            (try clear hi)
            (try clear ho0)
            refine hK.out _ _ trivial (fun hHeld => ?_)
            clear hK K
            refine norm_ (a' := ?_) ?_ ?_
            rotate_left
            · show Act.put _ (some 35) _ = _
              simp only [Act.put, List.setIfInBounds_toArray, List.set_cons_zero, List.set_cons_succ, i64_w, i32_w]
              rfl
            refine one_ (i := 5) (N := some 36) #[true, true, true, true, true, true, false, false] rfl rfl (one_of HT_.out (by kernel_rfl)) (by decide) (fun K hK => ?_)
            have hcv28 := own_string (P := Try.prog) Try.underlying39 Try.underlying5 Try.underlying9 (Kd.own_of_R HO314.out)
            refine value_ (w1 := ?_) (v := ?_) (by rfl) rfl ?_ ?_
            rotate_left 2
            · go_simp
              constructor
              · rfl
              · rfl
            clear hcv28
            refine hK.out _ _ trivial (fun hHeld => ?_)
            clear hK K
            refine norm_ (a' := ?_) ?_ ?_
            rotate_left
            · show Act.put _ (some 36) _ = _
              simp only [Act.put, List.setIfInBounds_toArray, List.set_cons_zero, List.set_cons_succ, i64_w, i32_w]
              rfl
            exact norm_ (by simp only [putAll, Act.put, List.setIfInBounds_toArray, List.set_cons_zero, List.set_cons_succ]) (hCont (v313) _ ⟨(by (with_reducible repeat (first | apply Kd.R_alloc | apply Kd.R_drewN | apply Kd.R_drew)); exact Kd.R_mono HO304.out (fun _ hk => hk.2)), (by (with_reducible repeat (first | apply Kd.R_alloc | apply Kd.R_drewN | apply Kd.R_drew)); exact Kd.R_mono HO307.out (fun _ hk => hk.2)), (by (with_reducible repeat (first | apply Kd.R_alloc | apply Kd.R_drewN | apply Kd.R_drew)); exact Kd.R_mono HO311.out (fun _ hk => hk.2)), (by (with_reducible repeat (first | apply Kd.R_alloc | apply Kd.R_drewN | apply Kd.R_drew)); exact Kd.R_mono HO314.out (fun _ hk => hk.2)), (by repeat (first | (with_reducible first | exact HB.out | apply below_alloc | apply pw_below_drewN | apply below_drew1) | exact HB.out))⟩)
          · skip
            refine goes_ Try.func21 (by kernel_rfl) rfl #[.int .i32 t298] (by rfl) rfl rfl (by (try simp only [List.map_toArray, List.map_cons, List.map_nil]); first | done | rfl | (simp only [List.length_drop, List.length_take]; rfl)) ?_
            with_reducible refine (orthoepyref02_Bytes.calls t298 t312 _ A15.out).mono ?_
            rintro e w26 ⟨v313, rfl, ho0, hb⟩
            refine ⟨_, rfl, ?_⟩
            have n0_ := Aside0.mk (Kd.R_below (by (with_reducible repeat (first | apply Kd.R_alloc | apply Kd.R_drewN | apply Kd.R_drew)); exact HO304.out) hb)
            have n1_ := Aside0.mk (Kd.R_below (by (with_reducible repeat (first | apply Kd.R_alloc | apply Kd.R_drewN | apply Kd.R_drew)); exact HO307.out) hb)
            have n2_ := Aside0.mk (Kd.R_elder' (by (with_reducible repeat (first | apply Kd.R_alloc | apply Kd.R_drewN | apply Kd.R_drew)); exact HO311.out) (Kd.R_base ho0) hb)
            have n3_ := Aside0.mk (Kd.R_lower (Kd.R_new' ho0 (Kd.R_lt (by (with_reducible repeat (first | apply Kd.R_alloc | apply Kd.R_drewN | apply Kd.R_drew)); exact HO311.out))) (below_size (by repeat (first | (with_reducible first | exact HB.out | apply below_alloc | apply pw_below_drewN | apply below_drew1) | exact HB.out))))
            have n4_ := Aside0.mk (below_step (by repeat (first | (with_reducible first | exact HB.out | apply below_alloc | apply pw_below_drewN | apply below_drew1) | exact HB.out)) hb)
            clear HO304
            clear HO307
            clear HO311
            clear HB
            have HO304 := n0_
            have HO307 := n1_
            have HO311 := n2_
            have HO314 := n3_
            have HB := n4_
            clear n0_ n1_ n2_ n3_ n4_
            (try clear hb)
            (try clear hb2)
            (try clear hk)
            (try clear hi)
            (try clear ho0)
            refine hK.out _ _ trivial (fun hHeld => ?_)
            clear hK K
            refine norm_ (a' := ?_) ?_ ?_
            rotate_left
            · show Act.put _ (some 35) _ = _
              simp only [Act.put, List.setIfInBounds_toArray, List.set_cons_zero, List.set_cons_succ, i64_w, i32_w]
              rfl
            refine two_ (i := 2) (j := 5) (Ni := some 33) (Nj := some 36) #[true, true, true, true, true, false, false, false] #[true, true, false, true, true, true, false, false] rfl rfl rfl rfl (two_of HT_.out (by kernel_rfl)) (by decide) (by decide) (fun K hK => ?_) (fun K hK => ?_)
            · skip
              have hcv27 := own_string (P := Try.prog) Try.underlying39 Try.underlying5 Try.underlying9 (Kd.own_of_R HO311.out)
              refine value_ (w1 := ?_) (v := ?_) (by rfl) rfl ?_ ?_
              rotate_left 2
              · go_simp
                constructor
                · rfl
                · rfl
              clear hcv27
              refine hK.out _ _ trivial (fun hHeld => ?_)
              clear hK K
              refine norm_ (a' := ?_) ?_ ?_
              rotate_left
              · show Act.put _ (some 33) _ = _
                simp only [Act.put, List.setIfInBounds_toArray, List.set_cons_zero, List.set_cons_succ, i64_w, i32_w]
                rfl
              refine one_ (i := 5) (N := some 36) #[true, true, true, true, true, true, false, false] rfl rfl (one_of HT_.out (by kernel_rfl)) (by decide) (fun K hK => ?_)
              have hcv28 := own_string (P := Try.prog) Try.underlying39 Try.underlying5 Try.underlying9 (Kd.own_of_R HO314.out)
              refine value_ (w1 := ?_) (v := ?_) (by rfl) rfl ?_ ?_
              rotate_left 2
              · go_simp
                constructor
                · rfl
                · rfl
              clear hcv28
              refine hK.out _ _ trivial (fun hHeld => ?_)
              clear hK K
              refine norm_ (a' := ?_) ?_ ?_
              rotate_left
              · show Act.put _ (some 36) _ = _
                simp only [Act.put, List.setIfInBounds_toArray, List.set_cons_zero, List.set_cons_succ, i64_w, i32_w]
                rfl
              exact norm_ (by simp only [putAll, Act.put, List.setIfInBounds_toArray, List.set_cons_zero, List.set_cons_succ]) (hCont (v313) _ ⟨(by (with_reducible repeat (first | apply Kd.R_alloc | apply Kd.R_drewN | apply Kd.R_drew)); exact Kd.R_mono HO304.out (fun _ hk => hk.2)), (by (with_reducible repeat (first | apply Kd.R_alloc | apply Kd.R_drewN | apply Kd.R_drew)); exact Kd.R_mono HO307.out (fun _ hk => hk.2)), (by (with_reducible repeat (first | apply Kd.R_alloc | apply Kd.R_drewN | apply Kd.R_drew)); exact Kd.R_mono HO311.out (fun _ hk => hk.2)), (by (with_reducible repeat (first | apply Kd.R_alloc | apply Kd.R_drewN | apply Kd.R_drew)); exact Kd.R_mono HO314.out (fun _ hk => hk.2)), (by repeat (first | (with_reducible first | exact HB.out | apply below_alloc | apply pw_below_drewN | apply below_drew1) | exact HB.out))⟩)
            · skip
              have hcv27 := own_string (P := Try.prog) Try.underlying39 Try.underlying5 Try.underlying9 (Kd.own_of_R HO314.out)
              refine value_ (w1 := ?_) (v := ?_) (by rfl) rfl ?_ ?_
              rotate_left 2
              · go_simp
                constructor
                · rfl
                · rfl
              clear hcv27
              refine hK.out _ _ trivial (fun hHeld => ?_)
              clear hK K
              refine norm_ (a' := ?_) ?_ ?_
              rotate_left
              · show Act.put _ (some 36) _ = _
                simp only [Act.put, List.setIfInBounds_toArray, List.set_cons_zero, List.set_cons_succ, i64_w, i32_w]
                rfl
              refine one_ (i := 2) (N := some 33) #[true, true, true, true, true, true, false, false] rfl rfl (one_of HT_.out (by kernel_rfl)) (by decide) (fun K hK => ?_)
              have hcv28 := own_string (P := Try.prog) Try.underlying39 Try.underlying5 Try.underlying9 (Kd.own_of_R HO311.out)
              refine value_ (w1 := ?_) (v := ?_) (by rfl) rfl ?_ ?_
              rotate_left 2
              · go_simp
                constructor
                · rfl
                · rfl
              clear hcv28
              refine hK.out _ _ trivial (fun hHeld => ?_)
              clear hK K
              refine norm_ (a' := ?_) ?_ ?_
              rotate_left
              · show Act.put _ (some 33) _ = _
                simp only [Act.put, List.setIfInBounds_toArray, List.set_cons_zero, List.set_cons_succ, i64_w, i32_w]
                rfl
              exact norm_ (by simp only [putAll, Act.put, List.setIfInBounds_toArray, List.set_cons_zero, List.set_cons_succ]) (hCont (v313) _ ⟨(by (with_reducible repeat (first | apply Kd.R_alloc | apply Kd.R_drewN | apply Kd.R_drew)); exact Kd.R_mono HO304.out (fun _ hk => hk.2)), (by (with_reducible repeat (first | apply Kd.R_alloc | apply Kd.R_drewN | apply Kd.R_drew)); exact Kd.R_mono HO307.out (fun _ hk => hk.2)), (by (with_reducible repeat (first | apply Kd.R_alloc | apply Kd.R_drewN | apply Kd.R_drew)); exact Kd.R_mono HO311.out (fun _ hk => hk.2)), (by (with_reducible repeat (first | apply Kd.R_alloc | apply Kd.R_drewN | apply Kd.R_drew)); exact Kd.R_mono HO314.out (fun _ hk => hk.2)), (by repeat (first | (with_reducible first | exact HB.out | apply below_alloc | apply pw_below_drewN | apply below_drew1) | exact HB.out))⟩)
        rintro v313 w29 ⟨h0_, h1_, h2_, h3_, h4_⟩
        have n0_ : Aside0 (Kd.R (Kd.int .i32) 21 w29 w.heap.size (fun k_ => some k_ ≠ (.slice Ao22 y305.length co22 : Value).ownBlock) (.slice Ao21 y302.length co21) y302) := ⟨h0_⟩
        have n1_ : Aside0 (Kd.R (Kd.int .i32) 21 w29 w.heap.size (fun k_ => some k_ ≠ (.slice Ao21 y302.length co21 : Value).ownBlock) (.slice Ao22 y305.length co22) y305) := ⟨h1_⟩
        have n2_ : Aside0 (Kd.R (Kd.int .u8) 5 w29 w.heap.size (fun k_ => some k_ ≠ (v313 : Value).ownBlock) v310 t309) := ⟨h2_⟩
        have n3_ : Aside0 (Kd.R (Kd.int .u8) 5 w29 w.heap.size (fun k_ => some k_ ≠ (v310 : Value).ownBlock) v313 t312) := ⟨h3_⟩
        have n4_ : Aside0 (Below w.heap.size w w29) := ⟨h4_⟩
        clear HO304
        clear HO307
        clear HB
        clear h0_ h1_ h2_ h3_ h4_
        have HO304 := n0_
        have HO307 := n1_
        have HO311 := n2_
        have HO314 := n3_
        have HB := n4_
        clear n0_ n1_ n2_ n3_ n4_
        have hHeld := trivial
        refine norm_ (a' := ?_) ?_ ?_
        rotate_left
        · simp only [putAll, Act.put, List.setIfInBounds_toArray, List.set_cons_zero, List.set_cons_succ]
          rfl
        refine pure_ (i := 6) (N := some 37) (v := ?_) (a' := ?_) #[true, true, true, true, true, true, true, false] rfl rfl (any_of HT_.out (by kernel_rfl)) (fun _ _ _ h => h) (Or.inl ⟨by rfl, ?_⟩) ?_ ?_
        rotate_left
        · intro w'
          go_simp
          with_reducible rfl
        rotate_left
        · simp only [Act.put, List.setIfInBounds_toArray, List.set_cons_zero, List.set_cons_succ, i64_w, i32_w]
          rfl
        refine pure_ (i := 7) (N := some 10) (v := ?_) (a' := ?_) #[true, true, true, true, true, true, true, true] rfl rfl (any_of HT_.out (by kernel_rfl)) (fun _ _ _ h => h) (Or.inl ⟨by rfl, ?_⟩) ?_ ?_
        rotate_left
        · intro w'
          go_simp
          with_reducible rfl
        rotate_left
        · simp only [Act.put, List.setIfInBounds_toArray, List.set_cons_zero, List.set_cons_succ, i64_w, i32_w]
          rfl
        refine done_ (done_of HT_.out (by kernel_rfl)) ?_
        go_upto_region 6 with (fail)
        go_cut [11] (fun v11 wc => ∃ (kq : Nat) (x11_15 : Bool), v11 = .bool x11_15 ∧ Aside0 (orthoepylaw03_Utf16Scalars.j1 kq a2 t297 t298 t308 (Op.bytesLess ((strOfNums t309).toList) ((strOfNums t312).toList)) x11_15 = some r) ∧ Aside0 (kq ≤ kj5) ∧ Aside0 (Below w.heap.size w wc))
        case first =>
          have H := HC16.out
          clear HC16
          by_cases c30 : t297 ≥ 65536
          · rw [if_pos c30] at H
            have c30b0 : decide (65536 ≤ t297) = true := decide_eq_true c30
            clear c30
            (first | rw [c30b0] | (simp only [i64_w, i32_w]; rw [c30b0]) | skip)
            by_cases c31 : t298 ≥ 57344
            · rw [if_pos c31] at H
              have c31b0 : decide (57344 ≤ t298) = true := decide_eq_true c31
              clear c31
              by_cases c32 : t298 < 65536
              · rw [if_pos c32] at H
                have c32b0 : decide (t298 < 65536) = true := decide_eq_true c32
                clear c32
                have H' := Aside0.mk H
                clear H
                go_wp2
                go_meet
                case rel => exact ⟨_, (true), (by first | rfl | (simp; done) | (simp [*]; done)), H', ⟨by have := HJ5.out; first | omega | exact Nat.le_refl _⟩, ⟨by repeat (first | (with_reducible first | exact HB.out | apply below_alloc | apply pw_below_drewN | apply below_drew1) | exact HB.out)⟩⟩
              · rw [if_neg c32] at H
                have c32b0 : decide (t298 < 65536) = false := decide_eq_false c32
                clear c32
                by_cases c33 : t298 ≥ 65536
                · rw [if_pos c33] at H
                  have c33b0 : decide (65536 ≤ t298) = true := decide_eq_true c33
                  clear c33
                  by_cases c34 : t297 ≥ 57344
                  · rw [if_pos c34] at H
                    have c34b0 : decide (57344 ≤ t297) = true := decide_eq_true c34
                    clear c34
                    have H' := Aside0.mk H
                    clear H
                    go_wp2
                    go_meet
                    case rel => exact ⟨_, (decide (t297 < 65536)), (by first | rfl | (simp; done) | (simp [*]; done)), H', ⟨by have := HJ5.out; first | omega | exact Nat.le_refl _⟩, ⟨by repeat (first | (with_reducible first | exact HB.out | apply below_alloc | apply pw_below_drewN | apply below_drew1) | exact HB.out)⟩⟩
                  · rw [if_neg c34] at H
                    have c34b0 : decide (57344 ≤ t297) = false := decide_eq_false c34
                    clear c34
                    have H' := Aside0.mk H
                    clear H
                    go_wp2
                    go_meet
                    case rel => exact ⟨_, (false), (by first | rfl | (simp; done) | (simp [*]; done)), H', ⟨by have := HJ5.out; first | omega | exact Nat.le_refl _⟩, ⟨by repeat (first | (with_reducible first | exact HB.out | apply below_alloc | apply pw_below_drewN | apply below_drew1) | exact HB.out)⟩⟩
                · rw [if_neg c33] at H
                  have c33b0 : decide (65536 ≤ t298) = false := decide_eq_false c33
                  clear c33
                  have H' := Aside0.mk H
                  clear H
                  go_wp2
                  go_meet
                  case rel => exact ⟨_, (false), (by first | rfl | (simp; done) | (simp [*]; done)), H', ⟨by have := HJ5.out; first | omega | exact Nat.le_refl _⟩, ⟨by repeat (first | (with_reducible first | exact HB.out | apply below_alloc | apply pw_below_drewN | apply below_drew1) | exact HB.out)⟩⟩
            · rw [if_neg c31] at H
              have c31b0 : decide (57344 ≤ t298) = false := decide_eq_false c31
              clear c31
              by_cases c35 : t298 ≥ 65536
              · rw [if_pos c35] at H
                have c35b0 : decide (65536 ≤ t298) = true := decide_eq_true c35
                clear c35
                by_cases c36 : t297 ≥ 57344
                · rw [if_pos c36] at H
                  have c36b0 : decide (57344 ≤ t297) = true := decide_eq_true c36
                  clear c36
                  have H' := Aside0.mk H
                  clear H
                  go_wp2
                  go_meet
                  case rel => exact ⟨_, (decide (t297 < 65536)), (by first | rfl | (simp; done) | (simp [*]; done)), H', ⟨by have := HJ5.out; first | omega | exact Nat.le_refl _⟩, ⟨by repeat (first | (with_reducible first | exact HB.out | apply below_alloc | apply pw_below_drewN | apply below_drew1) | exact HB.out)⟩⟩
                · rw [if_neg c36] at H
                  have c36b0 : decide (57344 ≤ t297) = false := decide_eq_false c36
                  clear c36
                  have H' := Aside0.mk H
                  clear H
                  go_wp2
                  go_meet
                  case rel => exact ⟨_, (false), (by first | rfl | (simp; done) | (simp [*]; done)), H', ⟨by have := HJ5.out; first | omega | exact Nat.le_refl _⟩, ⟨by repeat (first | (with_reducible first | exact HB.out | apply below_alloc | apply pw_below_drewN | apply below_drew1) | exact HB.out)⟩⟩
              · rw [if_neg c35] at H
                have c35b0 : decide (65536 ≤ t298) = false := decide_eq_false c35
                clear c35
                have H' := Aside0.mk H
                clear H
                go_wp2
                go_meet
                case rel => exact ⟨_, (false), (by first | rfl | (simp; done) | (simp [*]; done)), H', ⟨by have := HJ5.out; first | omega | exact Nat.le_refl _⟩, ⟨by repeat (first | (with_reducible first | exact HB.out | apply below_alloc | apply pw_below_drewN | apply below_drew1) | exact HB.out)⟩⟩
          · rw [if_neg c30] at H
            have c30b0 : decide (65536 ≤ t297) = false := decide_eq_false c30
            clear c30
            (first | rw [c30b0] | (simp only [i64_w, i32_w]; rw [c30b0]) | skip)
            by_cases c37 : t298 ≥ 65536
            · rw [if_pos c37] at H
              have c37b0 : decide (65536 ≤ t298) = true := decide_eq_true c37
              clear c37
              by_cases c38 : t297 ≥ 57344
              · rw [if_pos c38] at H
                have c38b0 : decide (57344 ≤ t297) = true := decide_eq_true c38
                clear c38
                have H' := Aside0.mk H
                clear H
                go_wp2
                go_meet
                case rel => exact ⟨_, (decide (t297 < 65536)), (by first | rfl | (simp; done) | (simp [*]; done)), H', ⟨by have := HJ5.out; first | omega | exact Nat.le_refl _⟩, ⟨by repeat (first | (with_reducible first | exact HB.out | apply below_alloc | apply pw_below_drewN | apply below_drew1) | exact HB.out)⟩⟩
              · rw [if_neg c38] at H
                have c38b0 : decide (57344 ≤ t297) = false := decide_eq_false c38
                clear c38
                have H' := Aside0.mk H
                clear H
                go_wp2
                go_meet
                case rel => exact ⟨_, (false), (by first | rfl | (simp; done) | (simp [*]; done)), H', ⟨by have := HJ5.out; first | omega | exact Nat.le_refl _⟩, ⟨by repeat (first | (with_reducible first | exact HB.out | apply below_alloc | apply pw_below_drewN | apply below_drew1) | exact HB.out)⟩⟩
            · rw [if_neg c37] at H
              have c37b0 : decide (65536 ≤ t298) = false := decide_eq_false c37
              clear c37
              have H' := Aside0.mk H
              clear H
              go_wp2
              go_meet
              case rel => exact ⟨_, (false), (by first | rfl | (simp; done) | (simp [*]; done)), H', ⟨by have := HJ5.out; first | omega | exact Nat.le_refl _⟩, ⟨by repeat (first | (with_reducible first | exact HB.out | apply below_alloc | apply pw_below_drewN | apply below_drew1) | exact HB.out)⟩⟩
        case rest =>
          clear HC16
          try clear c1
          try clear c2
          try clear p2
          try clear hcv2
          try clear c3
          try clear c6
          try clear c8
          try clear c10
          try clear c15
          try clear c19
          try clear c20
          try clear c21
          try clear hcv26
          try clear hcv27
          try clear hcv28
          try clear c30
          try clear c30b0
          try clear c31
          try clear c31b0
          try clear c32
          try clear c32b0
          try clear c33
          try clear c33b0
          try clear c34
          try clear c34b0
          try clear c35
          try clear c35b0
          try clear c36
          try clear c36b0
          try clear c37
          try clear c37b0
          try clear c38
          try clear c38b0
          try clear p2
          obtain ⟨kq, x11_15, rfl, HA, HJ15, HB⟩ := hcut
          cases kq with
          | zero => exact absurd HA.out (by simp [orthoepylaw03_Utf16Scalars.j1])
          | succ kj15 =>
            have H := HA.out
            clear HA
            simp only [orthoepylaw03_Utf16Scalars.j1] at H
            replace H := Option.bind_eq_some_iff.mp H
            obtain ⟨t315, A390, H⟩ := H
            replace H : (if ((Op.bytesLess ((strOfNums t309).toList) ((strOfNums t312).toList)) != x11_15) = true then (if ((decide (t308 < 0)) == (t297 != t298)) = true then (if ((t308 == 0) == (t297 == t298)) = true then ((utf16_Compare.f kj15 (([wrap32 (wrap64 (65536 + t315))] : List Int)) (([57344] : List Int))).bind fun t322 => (if t322 = (-1) then ((utf16_Compare.f kj15 (([wrap32 (wrap64 (65536 + t315))] : List Int)) (([55295] : List Int))).bind fun t329 => (if t329 = 1 then ((orthoepylaw03_awake.f).bind fun t330 => (some t330)) else (some false))) else (some false))) else (some false)) else (some false)) else (if ((decide (t308 < 0)) == false) = true then (if ((t308 == 0) == (t297 == t298)) = true then ((utf16_Compare.f kj15 (([wrap32 (wrap64 (65536 + t315))] : List Int)) (([57344] : List Int))).bind fun t337 => (if t337 = (-1) then ((utf16_Compare.f kj15 (([wrap32 (wrap64 (65536 + t315))] : List Int)) (([55295] : List Int))).bind fun t344 => (if t344 = 1 then ((orthoepylaw03_awake.f).bind fun t345 => (some t345)) else (some false))) else (some false))) else (some false)) else (some false))) = some r := H
            have A39 := Aside0.mk A390
            clear A390
            by_cases c40 : ((Op.bytesLess ((strOfNums t309).toList) ((strOfNums t312).toList)) != x11_15) = true
            · rw [if_pos c40] at H
              have c40b0 : ((Op.bytesLess ((strOfNums t309).toList) ((strOfNums t312).toList)) != x11_15) = true := c40
              (try (have c40b1 : decide ((Op.bytesLess ((strOfNums t309).toList) ((strOfNums t312).toList)) = x11_15) = false := by simpa using c40))
              (try (have c40b2 : ((Op.bytesLess ((strOfNums t309).toList) ((strOfNums t312).toList)) == x11_15) = false := by simpa using c40))
              (try (have c40b3 : ¬ ((Op.bytesLess ((strOfNums t309).toList) ((strOfNums t312).toList)) = x11_15) := by simpa using c40))
              clear c40
              by_cases c41 : ((decide (t308 < 0)) == (t297 != t298)) = true
              · rw [if_pos c41] at H
                have c41b0 : ((decide (t308 < 0)) == (t297 != t298)) = true := c41
                (try (have c41b1 : decide ((decide (t308 < 0)) = (t297 != t298)) = true := by simpa using c41))
                (try (have c41b2 : ((decide (t308 < 0)) == (t297 != t298)) = true := by simpa using c41))
                clear c41
                by_cases c42 : ((t308 == 0) == (t297 == t298)) = true
                · rw [if_pos c42] at H
                  have c42b0 : ((t308 == 0) == (t297 == t298)) = true := c42
                  (try (have c42b1 : decide ((t308 == 0) = (t297 == t298)) = true := by simpa using c42))
                  (try (have c42b2 : ((t308 == 0) == (t297 == t298)) = true := by simpa using c42))
                  clear c42
                  obtain ⟨y316, hy316⟩ : ∃ y_ : List Int, y_ = (([wrap32 (wrap64 (65536 + t315))] : List Int)) := ⟨_, rfl⟩
                  replace H : ((utf16_Compare.f kj15 y316 (([57344] : List Int))).bind fun t322 => (if t322 = (-1) then ((utf16_Compare.f kj15 (([wrap32 (wrap64 (65536 + t315))] : List Int)) (([55295] : List Int))).bind fun t329 => (if t329 = 1 then ((orthoepylaw03_awake.f).bind fun t330 => (some t330)) else (some false))) else (some false))) = some r := by first | (rw [hy316]; with_reducible exact H) | (have H2_ := (Option.bind_some _ _).symm.trans H; rw [hy316]; with_reducible exact H2_) | (have H2_ := (Option.bind_some _ _).symm.trans H; with_reducible exact H2_) | with_reducible exact H | (rw [hy316]; exact H) | exact H
                  have Ny316 := Aside0.mk hy316
                  clear hy316
                  obtain ⟨y319, hy319⟩ : ∃ y_ : List Int, y_ = (([57344] : List Int)) := ⟨_, rfl⟩
                  replace H : ((utf16_Compare.f kj15 y316 y319).bind fun t322 => (if t322 = (-1) then ((utf16_Compare.f kj15 (([wrap32 (wrap64 (65536 + t315))] : List Int)) (([55295] : List Int))).bind fun t329 => (if t329 = 1 then ((orthoepylaw03_awake.f).bind fun t330 => (some t330)) else (some false))) else (some false))) = some r := by first | (rw [hy319]; with_reducible exact H) | (have H2_ := (Option.bind_some _ _).symm.trans H; rw [hy319]; with_reducible exact H2_) | (have H2_ := (Option.bind_some _ _).symm.trans H; with_reducible exact H2_) | with_reducible exact H | (rw [hy319]; exact H) | exact H
                  have Ny319 := Aside0.mk hy319
                  clear hy319
                  replace H := Option.bind_eq_some_iff.mp H
                  obtain ⟨t322, A430, H⟩ := H
                  replace H : (if t322 = (-1) then ((utf16_Compare.f kj15 (([wrap32 (wrap64 (65536 + t315))] : List Int)) (([55295] : List Int))).bind fun t329 => (if t329 = 1 then ((orthoepylaw03_awake.f).bind fun t330 => (some t330)) else (some false))) else (some false)) = some r := H
                  have A43 := Aside0.mk A430
                  clear A430
                  by_cases c44 : t322 = (-1)
                  · rw [if_pos c44] at H
                    have c44b0 : (t322 == (-1)) = true := beq_iff_eq.mpr c44
                    have c44b1 : (t322 != (-1)) = false := bne_eq_false_iff_eq.mpr c44
                    clear c44
                    obtain ⟨y323, hy323⟩ : ∃ y_ : List Int, y_ = (([wrap32 (wrap64 (65536 + t315))] : List Int)) := ⟨_, rfl⟩
                    replace H : ((utf16_Compare.f kj15 y323 (([55295] : List Int))).bind fun t329 => (if t329 = 1 then ((orthoepylaw03_awake.f).bind fun t330 => (some t330)) else (some false))) = some r := by first | (rw [hy323]; with_reducible exact H) | (have H2_ := (Option.bind_some _ _).symm.trans H; rw [hy323]; with_reducible exact H2_) | (have H2_ := (Option.bind_some _ _).symm.trans H; with_reducible exact H2_) | with_reducible exact H | (rw [hy323]; exact H) | exact H
                    have Ny323 := Aside0.mk hy323
                    clear hy323
                    obtain ⟨y326, hy326⟩ : ∃ y_ : List Int, y_ = (([55295] : List Int)) := ⟨_, rfl⟩
                    replace H : ((utf16_Compare.f kj15 y323 y326).bind fun t329 => (if t329 = 1 then ((orthoepylaw03_awake.f).bind fun t330 => (some t330)) else (some false))) = some r := by first | (rw [hy326]; with_reducible exact H) | (have H2_ := (Option.bind_some _ _).symm.trans H; rw [hy326]; with_reducible exact H2_) | (have H2_ := (Option.bind_some _ _).symm.trans H; with_reducible exact H2_) | with_reducible exact H | (rw [hy326]; exact H) | exact H
                    have Ny326 := Aside0.mk hy326
                    clear hy326
                    replace H := Option.bind_eq_some_iff.mp H
                    obtain ⟨t329, A450, H⟩ := H
                    replace H : (if t329 = 1 then ((orthoepylaw03_awake.f).bind fun t330 => (some t330)) else (some false)) = some r := H
                    have A45 := Aside0.mk A450
                    clear A450
                    by_cases c46 : t329 = 1
                    · rw [if_pos c46] at H
                      have c46b0 : (t329 == 1) = true := beq_iff_eq.mpr c46
                      have c46b1 : (t329 != 1) = false := bne_eq_false_iff_eq.mpr c46
                      clear c46
                      replace H := Option.bind_eq_some_iff.mp H
                      obtain ⟨t330, A470, H⟩ := H
                      replace H : (some t330) = some r := H
                      have A47 := Aside0.mk A470
                      clear A470
                      obtain rfl := Option.some.inj H
                      go_wp2_with (first | ((with_reducible refine gate_callee (f := 22) rfl ?_); refine goesL_ (some 61) rfl rfl Try.func22 (by kernel_rfl) rfl #[.int .i64 a2, .int .i64 1048576] rfl (by (try simp only [List.map_toArray, List.map_cons, List.map_nil]); first | done | rfl | (simp only [List.length_drop, List.length_take]; rfl)) ?_; (with_reducible refine (orthoepylaw00_Place.calls a2 1048576 t315 _ A39.out).mono ?_); rintro e w' ⟨rfl, ⟨nd, rfl⟩⟩; refine ⟨_, rfl, ?_⟩) | ((with_reducible refine gate_dst (N := 85) rfl ?_); (try (refine gate_guard (by rfl) ?_; dsimp only)); refine Kd.R_lit (Kd.int .i32) _ 21 ?hg (N := 85) ?hd (xs := ([wrap32 (wrap64 (65536 + t315))] : List Int)) (inner := [.int .i32 (wrap32 (wrap64 (65536 + t315)))]) (ok := fun _ => True) (okp := fun _ => True) ?hr ?hp (fun _ hk => hk) trivial (Below.refl _ _) (Nat.le_refl _) (by simp) ?_; (case hd => rfl); (case hg => rfl); (case hr => first | (go_simp; done) | (go_simp; rfl)); (case hp => exact (Reps.one (show Kd.M (Kd.int .i32) _ _ _ (wrap32 (wrap64 (65536 + t315))) [.int .i32 (wrap32 (wrap64 (65536 + t315)))] from rfl) (Reps.none _ _))); intro v317 w48 ho49 hb hg_ hnew_; clear hg_ hnew_; (first | rw [← Ny316.out] at ho49 | (simp only [Int.reduceToNat] at ho49; rw [← Ny316.out] at ho49)); have n0_ := Aside0.mk (Kd.R_lower ho49 (below_size (by repeat (first | (with_reducible first | exact HB.out | apply below_alloc | apply pw_below_drewN | apply below_drew1) | exact HB.out)))); have n1_ := Aside0.mk (below_step (by repeat (first | (with_reducible first | exact HB.out | apply below_alloc | apply pw_below_drewN | apply below_drew1) | exact HB.out)) hb); clear HB; have HO318 := n0_; have HB := n1_; clear n0_ n1_; clear hb ho49) | ((with_reducible refine gate_dst (N := 86) rfl ?_); (try (refine gate_guard (by rfl) ?_; dsimp only)); refine Kd.R_lit (Kd.int .i32) _ 21 ?hg (N := 86) ?hd (xs := ([57344] : List Int)) (inner := [.int .i32 57344]) (ok := fun _ => True) (okp := fun _ => True) ?hr ?hp (fun _ hk => hk) trivial (Below.refl _ _) (Nat.le_refl _) (by simp) ?_; (case hd => rfl); (case hg => rfl); (case hr => first | (go_simp; done) | (go_simp; rfl)); (case hp => exact (Reps.one (show Kd.M (Kd.int .i32) _ _ _ 57344 [.int .i32 57344] from rfl) (Reps.none _ _))); intro v320 w50 ho51 hb hg_ hnew_; clear hg_ hnew_; (first | rw [← Ny319.out] at ho51 | (simp only [Int.reduceToNat] at ho51; rw [← Ny319.out] at ho51)); have n0_ := Aside0.mk (Kd.R_elder' (by (with_reducible repeat (first | apply Kd.R_alloc | apply Kd.R_drewN | apply Kd.R_drew)); exact HO318.out) (Kd.R_base ho51) hb); have n1_ := Aside0.mk (Kd.R_lower (Kd.R_new' ho51 (Kd.R_lt (by (with_reducible repeat (first | apply Kd.R_alloc | apply Kd.R_drewN | apply Kd.R_drew)); exact HO318.out))) (below_size (by repeat (first | (with_reducible first | exact HB.out | apply below_alloc | apply pw_below_drewN | apply below_drew1) | exact HB.out)))); have n2_ := Aside0.mk (below_step (by repeat (first | (with_reducible first | exact HB.out | apply below_alloc | apply pw_below_drewN | apply below_drew1) | exact HB.out)) hb); clear HO318; clear HB; have HO318 := n0_; have HO321 := n1_; have HB := n2_; clear n0_ n1_ n2_; clear hb ho51; obtain ⟨Ao52, co52, eo52⟩ := Kd.R_slice HO318.out; subst eo52; obtain ⟨Ao53, co53, eo53⟩ := Kd.R_slice HO321.out; subst eo53) | (go_at_call 15; (with_reducible refine (utf16_Compare.calls kj15 _ _ y316 _ _ y319 t322 _ ?side1 ?side2 ?side3 ?side4 A43.out).mono ?_); (case side1 => repeat (first | exact (Kd.R_reads' HO318.out).2.2 | (with_reducible refine Kd.C_alloc ?_ _) | (with_reducible refine Kd.C_drewN ?_ _) | (with_reducible refine Kd.C_drew ?_))); (case side2 => exact (Kd.R_reads' HO318.out).2.1); (case side3 => repeat (first | exact (Kd.R_reads' HO321.out).2.2 | (with_reducible refine Kd.C_alloc ?_ _) | (with_reducible refine Kd.C_drewN ?_ _) | (with_reducible refine Kd.C_drew ?_))); (case side4 => exact (Kd.R_reads' HO321.out).2.1); rintro e w54 ⟨rfl, hb⟩; have n0_ := Aside0.mk (Kd.R_below (by (with_reducible repeat (first | apply Kd.R_alloc | apply Kd.R_drewN | apply Kd.R_drew)); exact HO318.out) hb); have n1_ := Aside0.mk (Kd.R_below (by (with_reducible repeat (first | apply Kd.R_alloc | apply Kd.R_drewN | apply Kd.R_drew)); exact HO321.out) hb); have n2_ := Aside0.mk (below_step (by repeat (first | (with_reducible first | exact HB.out | apply below_alloc | apply pw_below_drewN | apply below_drew1) | exact HB.out)) hb); clear HO318; clear HO321; clear HB; have HO318 := n0_; have HO321 := n1_; have HB := n2_; clear n0_ n1_ n2_; (try clear hb); (try clear hb2); (try clear hk); (try clear hi)) | ((with_reducible refine gate_dst (N := 92) rfl ?_); (try (refine gate_guard (by rfl) ?_; dsimp only)); refine Kd.R_lit (Kd.int .i32) _ 21 ?hg (N := 92) ?hd (xs := ([wrap32 (wrap64 (65536 + t315))] : List Int)) (inner := [.int .i32 (wrap32 (wrap64 (65536 + t315)))]) (ok := fun _ => True) (okp := fun _ => True) ?hr ?hp (fun _ hk => hk) trivial (Below.refl _ _) (Nat.le_refl _) (by simp) ?_; (case hd => rfl); (case hg => rfl); (case hr => first | (go_simp; done) | (go_simp; rfl)); (case hp => exact (Reps.one (show Kd.M (Kd.int .i32) _ _ _ (wrap32 (wrap64 (65536 + t315))) [.int .i32 (wrap32 (wrap64 (65536 + t315)))] from rfl) (Reps.none _ _))); intro v324 w55 ho56 hb hg_ hnew_; clear hg_ hnew_; (first | rw [← Ny323.out] at ho56 | (simp only [Int.reduceToNat] at ho56; rw [← Ny323.out] at ho56)); have n0_ := Aside0.mk (Kd.R_elder' (by (with_reducible repeat (first | apply Kd.R_alloc | apply Kd.R_drewN | apply Kd.R_drew)); exact HO318.out) (Kd.R_base ho56) hb); have n1_ := Aside0.mk (Kd.R_elder' (by (with_reducible repeat (first | apply Kd.R_alloc | apply Kd.R_drewN | apply Kd.R_drew)); exact HO321.out) (Kd.R_base ho56) hb); have n2_ := Aside0.mk (Kd.R_lower (Kd.R_new' (Kd.R_new' ho56 (Kd.R_lt (by (with_reducible repeat (first | apply Kd.R_alloc | apply Kd.R_drewN | apply Kd.R_drew)); exact HO318.out))) (Kd.R_lt (by (with_reducible repeat (first | apply Kd.R_alloc | apply Kd.R_drewN | apply Kd.R_drew)); exact HO321.out))) (below_size (by repeat (first | (with_reducible first | exact HB.out | apply below_alloc | apply pw_below_drewN | apply below_drew1) | exact HB.out)))); have n3_ := Aside0.mk (below_step (by repeat (first | (with_reducible first | exact HB.out | apply below_alloc | apply pw_below_drewN | apply below_drew1) | exact HB.out)) hb); clear HO318; clear HO321; clear HB; have HO318 := n0_; have HO321 := n1_; have HO325 := n2_; have HB := n3_; clear n0_ n1_ n2_ n3_; clear hb ho56) | ((with_reducible refine gate_dst (N := 93) rfl ?_); (try (refine gate_guard (by rfl) ?_; dsimp only)); refine Kd.R_lit (Kd.int .i32) _ 21 ?hg (N := 93) ?hd (xs := ([55295] : List Int)) (inner := [.int .i32 55295]) (ok := fun _ => True) (okp := fun _ => True) ?hr ?hp (fun _ hk => hk) trivial (Below.refl _ _) (Nat.le_refl _) (by simp) ?_; (case hd => rfl); (case hg => rfl); (case hr => first | (go_simp; done) | (go_simp; rfl)); (case hp => exact (Reps.one (show Kd.M (Kd.int .i32) _ _ _ 55295 [.int .i32 55295] from rfl) (Reps.none _ _))); intro v327 w57 ho58 hb hg_ hnew_; clear hg_ hnew_; (first | rw [← Ny326.out] at ho58 | (simp only [Int.reduceToNat] at ho58; rw [← Ny326.out] at ho58)); have n0_ := Aside0.mk (Kd.R_elder' (by (with_reducible repeat (first | apply Kd.R_alloc | apply Kd.R_drewN | apply Kd.R_drew)); exact HO318.out) (Kd.R_base ho58) hb); have n1_ := Aside0.mk (Kd.R_elder' (by (with_reducible repeat (first | apply Kd.R_alloc | apply Kd.R_drewN | apply Kd.R_drew)); exact HO321.out) (Kd.R_base ho58) hb); have n2_ := Aside0.mk (Kd.R_elder' (by (with_reducible repeat (first | apply Kd.R_alloc | apply Kd.R_drewN | apply Kd.R_drew)); exact HO325.out) (Kd.R_base ho58) hb); have n3_ := Aside0.mk (Kd.R_lower (Kd.R_new' (Kd.R_new' (Kd.R_new' ho58 (Kd.R_lt (by (with_reducible repeat (first | apply Kd.R_alloc | apply Kd.R_drewN | apply Kd.R_drew)); exact HO318.out))) (Kd.R_lt (by (with_reducible repeat (first | apply Kd.R_alloc | apply Kd.R_drewN | apply Kd.R_drew)); exact HO321.out))) (Kd.R_lt (by (with_reducible repeat (first | apply Kd.R_alloc | apply Kd.R_drewN | apply Kd.R_drew)); exact HO325.out))) (below_size (by repeat (first | (with_reducible first | exact HB.out | apply below_alloc | apply pw_below_drewN | apply below_drew1) | exact HB.out)))); have n4_ := Aside0.mk (below_step (by repeat (first | (with_reducible first | exact HB.out | apply below_alloc | apply pw_below_drewN | apply below_drew1) | exact HB.out)) hb); clear HO318; clear HO321; clear HO325; clear HB; have HO318 := n0_; have HO321 := n1_; have HO325 := n2_; have HO328 := n3_; have HB := n4_; clear n0_ n1_ n2_ n3_ n4_; clear hb ho58; obtain ⟨Ao59, co59, eo59⟩ := Kd.R_slice HO325.out; subst eo59; obtain ⟨Ao60, co60, eo60⟩ := Kd.R_slice HO328.out; subst eo60) | (go_at_call 15; (with_reducible refine (utf16_Compare.calls kj15 _ _ y323 _ _ y326 t329 _ ?side1 ?side2 ?side3 ?side4 A45.out).mono ?_); (case side1 => repeat (first | exact (Kd.R_reads' HO325.out).2.2 | (with_reducible refine Kd.C_alloc ?_ _) | (with_reducible refine Kd.C_drewN ?_ _) | (with_reducible refine Kd.C_drew ?_))); (case side2 => exact (Kd.R_reads' HO325.out).2.1); (case side3 => repeat (first | exact (Kd.R_reads' HO328.out).2.2 | (with_reducible refine Kd.C_alloc ?_ _) | (with_reducible refine Kd.C_drewN ?_ _) | (with_reducible refine Kd.C_drew ?_))); (case side4 => exact (Kd.R_reads' HO328.out).2.1); rintro e w61 ⟨rfl, hb⟩; have n0_ := Aside0.mk (Kd.R_below (by (with_reducible repeat (first | apply Kd.R_alloc | apply Kd.R_drewN | apply Kd.R_drew)); exact HO318.out) hb); have n1_ := Aside0.mk (Kd.R_below (by (with_reducible repeat (first | apply Kd.R_alloc | apply Kd.R_drewN | apply Kd.R_drew)); exact HO321.out) hb); have n2_ := Aside0.mk (Kd.R_below (by (with_reducible repeat (first | apply Kd.R_alloc | apply Kd.R_drewN | apply Kd.R_drew)); exact HO325.out) hb); have n3_ := Aside0.mk (Kd.R_below (by (with_reducible repeat (first | apply Kd.R_alloc | apply Kd.R_drewN | apply Kd.R_drew)); exact HO328.out) hb); have n4_ := Aside0.mk (below_step (by repeat (first | (with_reducible first | exact HB.out | apply below_alloc | apply pw_below_drewN | apply below_drew1) | exact HB.out)) hb); clear HO318; clear HO321; clear HO325; clear HO328; clear HB; have HO318 := n0_; have HO321 := n1_; have HO325 := n2_; have HO328 := n3_; have HB := n4_; clear n0_ n1_ n2_ n3_ n4_; (try clear hb); (try clear hb2); (try clear hk); (try clear hi)) | (go_at_call 8; (with_reducible refine (orthoepylaw03_awake.calls  t330 _ A47.out).mono ?_); rintro e w62 ⟨rfl, hb⟩; have n0_ := Aside0.mk (Kd.R_below (by (with_reducible repeat (first | apply Kd.R_alloc | apply Kd.R_drewN | apply Kd.R_drew)); exact HO318.out) hb); have n1_ := Aside0.mk (Kd.R_below (by (with_reducible repeat (first | apply Kd.R_alloc | apply Kd.R_drewN | apply Kd.R_drew)); exact HO321.out) hb); have n2_ := Aside0.mk (Kd.R_below (by (with_reducible repeat (first | apply Kd.R_alloc | apply Kd.R_drewN | apply Kd.R_drew)); exact HO325.out) hb); have n3_ := Aside0.mk (Kd.R_below (by (with_reducible repeat (first | apply Kd.R_alloc | apply Kd.R_drewN | apply Kd.R_drew)); exact HO328.out) hb); have n4_ := Aside0.mk (below_step (by repeat (first | (with_reducible first | exact HB.out | apply below_alloc | apply pw_below_drewN | apply below_drew1) | exact HB.out)) hb); clear HO318; clear HO321; clear HO325; clear HO328; clear HB; have HO318 := n0_; have HO321 := n1_; have HO325 := n2_; have HO328 := n3_; have HB := n4_; clear n0_ n1_ n2_ n3_ n4_; (try clear hb); (try clear hb2); (try clear hk); (try clear hi)))
                      go_ret
                      exact ⟨by first | rfl | (simp [errW_none, errW_some] <;> rfl) | (simp [*, errW_none, errW_some] <;> rfl), by repeat (first | (with_reducible first | exact HB.out | apply below_alloc | apply pw_below_drewN | apply below_drew1) | exact HB.out)⟩
                    · rw [if_neg c46] at H
                      have c46b0 : (t329 == 1) = false := beq_eq_false_iff_ne.mpr c46
                      have c46b1 : (t329 != 1) = true := bne_iff_ne.mpr c46
                      obtain rfl := Option.some.inj H
                      exact absurd hT_.out (by decide)
                  · rw [if_neg c44] at H
                    have c44b0 : (t322 == (-1)) = false := beq_eq_false_iff_ne.mpr c44
                    have c44b1 : (t322 != (-1)) = true := bne_iff_ne.mpr c44
                    obtain rfl := Option.some.inj H
                    exact absurd hT_.out (by decide)
                · rw [if_neg c42] at H
                  have c42b0 : ((t308 == 0) == (t297 == t298)) = false := by simpa using c42
                  (try (have c42b1 : decide ((t308 == 0) = (t297 == t298)) = false := by simpa using c42))
                  (try (have c42b2 : ((t308 == 0) == (t297 == t298)) = false := by simpa using c42))
                  (try (have c42b3 : ¬ ((t308 == 0) = (t297 == t298)) := by simpa using c42))
                  clear c42
                  obtain rfl := Option.some.inj H
                  exact absurd hT_.out (by decide)
              · rw [if_neg c41] at H
                have c41b0 : ((decide (t308 < 0)) == (t297 != t298)) = false := by simpa using c41
                (try (have c41b1 : decide ((decide (t308 < 0)) = (t297 != t298)) = false := by simpa using c41))
                (try (have c41b2 : ((decide (t308 < 0)) == (t297 != t298)) = false := by simpa using c41))
                (try (have c41b3 : ¬ ((decide (t308 < 0)) = (t297 != t298)) := by simpa using c41))
                clear c41
                obtain rfl := Option.some.inj H
                exact absurd hT_.out (by decide)
            · rw [if_neg c40] at H
              have c40b0 : ((Op.bytesLess ((strOfNums t309).toList) ((strOfNums t312).toList)) != x11_15) = false := by simpa using c40
              (try (have c40b1 : decide ((Op.bytesLess ((strOfNums t309).toList) ((strOfNums t312).toList)) = x11_15) = true := by simpa using c40))
              (try (have c40b2 : ((Op.bytesLess ((strOfNums t309).toList) ((strOfNums t312).toList)) == x11_15) = true := by simpa using c40))
              clear c40
              by_cases c63 : ((decide (t308 < 0)) == false) = true
              · rw [if_pos c63] at H
                have c63b0 : ((decide (t308 < 0)) == false) = true := c63
                (try (have c63b1 : decide ((decide (t308 < 0)) = false) = true := by simpa using c63))
                (try (have c63b2 : ((decide (t308 < 0)) == false) = true := by simpa using c63))
                clear c63
                by_cases c64 : ((t308 == 0) == (t297 == t298)) = true
                · rw [if_pos c64] at H
                  have c64b0 : ((t308 == 0) == (t297 == t298)) = true := c64
                  (try (have c64b1 : decide ((t308 == 0) = (t297 == t298)) = true := by simpa using c64))
                  (try (have c64b2 : ((t308 == 0) == (t297 == t298)) = true := by simpa using c64))
                  clear c64
                  obtain ⟨y331, hy331⟩ : ∃ y_ : List Int, y_ = (([wrap32 (wrap64 (65536 + t315))] : List Int)) := ⟨_, rfl⟩
                  replace H : ((utf16_Compare.f kj15 y331 (([57344] : List Int))).bind fun t337 => (if t337 = (-1) then ((utf16_Compare.f kj15 (([wrap32 (wrap64 (65536 + t315))] : List Int)) (([55295] : List Int))).bind fun t344 => (if t344 = 1 then ((orthoepylaw03_awake.f).bind fun t345 => (some t345)) else (some false))) else (some false))) = some r := by first | (rw [hy331]; with_reducible exact H) | (have H2_ := (Option.bind_some _ _).symm.trans H; rw [hy331]; with_reducible exact H2_) | (have H2_ := (Option.bind_some _ _).symm.trans H; with_reducible exact H2_) | with_reducible exact H | (rw [hy331]; exact H) | exact H
                  have Ny331 := Aside0.mk hy331
                  clear hy331
                  obtain ⟨y334, hy334⟩ : ∃ y_ : List Int, y_ = (([57344] : List Int)) := ⟨_, rfl⟩
                  replace H : ((utf16_Compare.f kj15 y331 y334).bind fun t337 => (if t337 = (-1) then ((utf16_Compare.f kj15 (([wrap32 (wrap64 (65536 + t315))] : List Int)) (([55295] : List Int))).bind fun t344 => (if t344 = 1 then ((orthoepylaw03_awake.f).bind fun t345 => (some t345)) else (some false))) else (some false))) = some r := by first | (rw [hy334]; with_reducible exact H) | (have H2_ := (Option.bind_some _ _).symm.trans H; rw [hy334]; with_reducible exact H2_) | (have H2_ := (Option.bind_some _ _).symm.trans H; with_reducible exact H2_) | with_reducible exact H | (rw [hy334]; exact H) | exact H
                  have Ny334 := Aside0.mk hy334
                  clear hy334
                  replace H := Option.bind_eq_some_iff.mp H
                  obtain ⟨t337, A650, H⟩ := H
                  replace H : (if t337 = (-1) then ((utf16_Compare.f kj15 (([wrap32 (wrap64 (65536 + t315))] : List Int)) (([55295] : List Int))).bind fun t344 => (if t344 = 1 then ((orthoepylaw03_awake.f).bind fun t345 => (some t345)) else (some false))) else (some false)) = some r := H
                  have A65 := Aside0.mk A650
                  clear A650
                  by_cases c66 : t337 = (-1)
                  · rw [if_pos c66] at H
                    have c66b0 : (t337 == (-1)) = true := beq_iff_eq.mpr c66
                    have c66b1 : (t337 != (-1)) = false := bne_eq_false_iff_eq.mpr c66
                    clear c66
                    obtain ⟨y338, hy338⟩ : ∃ y_ : List Int, y_ = (([wrap32 (wrap64 (65536 + t315))] : List Int)) := ⟨_, rfl⟩
                    replace H : ((utf16_Compare.f kj15 y338 (([55295] : List Int))).bind fun t344 => (if t344 = 1 then ((orthoepylaw03_awake.f).bind fun t345 => (some t345)) else (some false))) = some r := by first | (rw [hy338]; with_reducible exact H) | (have H2_ := (Option.bind_some _ _).symm.trans H; rw [hy338]; with_reducible exact H2_) | (have H2_ := (Option.bind_some _ _).symm.trans H; with_reducible exact H2_) | with_reducible exact H | (rw [hy338]; exact H) | exact H
                    have Ny338 := Aside0.mk hy338
                    clear hy338
                    obtain ⟨y341, hy341⟩ : ∃ y_ : List Int, y_ = (([55295] : List Int)) := ⟨_, rfl⟩
                    replace H : ((utf16_Compare.f kj15 y338 y341).bind fun t344 => (if t344 = 1 then ((orthoepylaw03_awake.f).bind fun t345 => (some t345)) else (some false))) = some r := by first | (rw [hy341]; with_reducible exact H) | (have H2_ := (Option.bind_some _ _).symm.trans H; rw [hy341]; with_reducible exact H2_) | (have H2_ := (Option.bind_some _ _).symm.trans H; with_reducible exact H2_) | with_reducible exact H | (rw [hy341]; exact H) | exact H
                    have Ny341 := Aside0.mk hy341
                    clear hy341
                    replace H := Option.bind_eq_some_iff.mp H
                    obtain ⟨t344, A670, H⟩ := H
                    replace H : (if t344 = 1 then ((orthoepylaw03_awake.f).bind fun t345 => (some t345)) else (some false)) = some r := H
                    have A67 := Aside0.mk A670
                    clear A670
                    by_cases c68 : t344 = 1
                    · rw [if_pos c68] at H
                      have c68b0 : (t344 == 1) = true := beq_iff_eq.mpr c68
                      have c68b1 : (t344 != 1) = false := bne_eq_false_iff_eq.mpr c68
                      clear c68
                      replace H := Option.bind_eq_some_iff.mp H
                      obtain ⟨t345, A690, H⟩ := H
                      replace H : (some t345) = some r := H
                      have A69 := Aside0.mk A690
                      clear A690
                      obtain rfl := Option.some.inj H
                      go_wp2_with (first | ((with_reducible refine gate_callee (f := 22) rfl ?_); refine goesL_ (some 61) rfl rfl Try.func22 (by kernel_rfl) rfl #[.int .i64 a2, .int .i64 1048576] rfl (by (try simp only [List.map_toArray, List.map_cons, List.map_nil]); first | done | rfl | (simp only [List.length_drop, List.length_take]; rfl)) ?_; (with_reducible refine (orthoepylaw00_Place.calls a2 1048576 t315 _ A39.out).mono ?_); rintro e w' ⟨rfl, ⟨nd, rfl⟩⟩; refine ⟨_, rfl, ?_⟩) | ((with_reducible refine gate_dst (N := 85) rfl ?_); (try (refine gate_guard (by rfl) ?_; dsimp only)); refine Kd.R_lit (Kd.int .i32) _ 21 ?hg (N := 85) ?hd (xs := ([wrap32 (wrap64 (65536 + t315))] : List Int)) (inner := [.int .i32 (wrap32 (wrap64 (65536 + t315)))]) (ok := fun _ => True) (okp := fun _ => True) ?hr ?hp (fun _ hk => hk) trivial (Below.refl _ _) (Nat.le_refl _) (by simp) ?_; (case hd => rfl); (case hg => rfl); (case hr => first | (go_simp; done) | (go_simp; rfl)); (case hp => exact (Reps.one (show Kd.M (Kd.int .i32) _ _ _ (wrap32 (wrap64 (65536 + t315))) [.int .i32 (wrap32 (wrap64 (65536 + t315)))] from rfl) (Reps.none _ _))); intro v332 w70 ho71 hb hg_ hnew_; clear hg_ hnew_; (first | rw [← Ny331.out] at ho71 | (simp only [Int.reduceToNat] at ho71; rw [← Ny331.out] at ho71)); have n0_ := Aside0.mk (Kd.R_lower ho71 (below_size (by repeat (first | (with_reducible first | exact HB.out | apply below_alloc | apply pw_below_drewN | apply below_drew1) | exact HB.out)))); have n1_ := Aside0.mk (below_step (by repeat (first | (with_reducible first | exact HB.out | apply below_alloc | apply pw_below_drewN | apply below_drew1) | exact HB.out)) hb); clear HB; have HO333 := n0_; have HB := n1_; clear n0_ n1_; clear hb ho71) | ((with_reducible refine gate_dst (N := 86) rfl ?_); (try (refine gate_guard (by rfl) ?_; dsimp only)); refine Kd.R_lit (Kd.int .i32) _ 21 ?hg (N := 86) ?hd (xs := ([57344] : List Int)) (inner := [.int .i32 57344]) (ok := fun _ => True) (okp := fun _ => True) ?hr ?hp (fun _ hk => hk) trivial (Below.refl _ _) (Nat.le_refl _) (by simp) ?_; (case hd => rfl); (case hg => rfl); (case hr => first | (go_simp; done) | (go_simp; rfl)); (case hp => exact (Reps.one (show Kd.M (Kd.int .i32) _ _ _ 57344 [.int .i32 57344] from rfl) (Reps.none _ _))); intro v335 w72 ho73 hb hg_ hnew_; clear hg_ hnew_; (first | rw [← Ny334.out] at ho73 | (simp only [Int.reduceToNat] at ho73; rw [← Ny334.out] at ho73)); have n0_ := Aside0.mk (Kd.R_elder' (by (with_reducible repeat (first | apply Kd.R_alloc | apply Kd.R_drewN | apply Kd.R_drew)); exact HO333.out) (Kd.R_base ho73) hb); have n1_ := Aside0.mk (Kd.R_lower (Kd.R_new' ho73 (Kd.R_lt (by (with_reducible repeat (first | apply Kd.R_alloc | apply Kd.R_drewN | apply Kd.R_drew)); exact HO333.out))) (below_size (by repeat (first | (with_reducible first | exact HB.out | apply below_alloc | apply pw_below_drewN | apply below_drew1) | exact HB.out)))); have n2_ := Aside0.mk (below_step (by repeat (first | (with_reducible first | exact HB.out | apply below_alloc | apply pw_below_drewN | apply below_drew1) | exact HB.out)) hb); clear HO333; clear HB; have HO333 := n0_; have HO336 := n1_; have HB := n2_; clear n0_ n1_ n2_; clear hb ho73; obtain ⟨Ao74, co74, eo74⟩ := Kd.R_slice HO333.out; subst eo74; obtain ⟨Ao75, co75, eo75⟩ := Kd.R_slice HO336.out; subst eo75) | (go_at_call 15; (with_reducible refine (utf16_Compare.calls kj15 _ _ y331 _ _ y334 t337 _ ?side1 ?side2 ?side3 ?side4 A65.out).mono ?_); (case side1 => repeat (first | exact (Kd.R_reads' HO333.out).2.2 | (with_reducible refine Kd.C_alloc ?_ _) | (with_reducible refine Kd.C_drewN ?_ _) | (with_reducible refine Kd.C_drew ?_))); (case side2 => exact (Kd.R_reads' HO333.out).2.1); (case side3 => repeat (first | exact (Kd.R_reads' HO336.out).2.2 | (with_reducible refine Kd.C_alloc ?_ _) | (with_reducible refine Kd.C_drewN ?_ _) | (with_reducible refine Kd.C_drew ?_))); (case side4 => exact (Kd.R_reads' HO336.out).2.1); rintro e w76 ⟨rfl, hb⟩; have n0_ := Aside0.mk (Kd.R_below (by (with_reducible repeat (first | apply Kd.R_alloc | apply Kd.R_drewN | apply Kd.R_drew)); exact HO333.out) hb); have n1_ := Aside0.mk (Kd.R_below (by (with_reducible repeat (first | apply Kd.R_alloc | apply Kd.R_drewN | apply Kd.R_drew)); exact HO336.out) hb); have n2_ := Aside0.mk (below_step (by repeat (first | (with_reducible first | exact HB.out | apply below_alloc | apply pw_below_drewN | apply below_drew1) | exact HB.out)) hb); clear HO333; clear HO336; clear HB; have HO333 := n0_; have HO336 := n1_; have HB := n2_; clear n0_ n1_ n2_; (try clear hb); (try clear hb2); (try clear hk); (try clear hi)) | ((with_reducible refine gate_dst (N := 92) rfl ?_); (try (refine gate_guard (by rfl) ?_; dsimp only)); refine Kd.R_lit (Kd.int .i32) _ 21 ?hg (N := 92) ?hd (xs := ([wrap32 (wrap64 (65536 + t315))] : List Int)) (inner := [.int .i32 (wrap32 (wrap64 (65536 + t315)))]) (ok := fun _ => True) (okp := fun _ => True) ?hr ?hp (fun _ hk => hk) trivial (Below.refl _ _) (Nat.le_refl _) (by simp) ?_; (case hd => rfl); (case hg => rfl); (case hr => first | (go_simp; done) | (go_simp; rfl)); (case hp => exact (Reps.one (show Kd.M (Kd.int .i32) _ _ _ (wrap32 (wrap64 (65536 + t315))) [.int .i32 (wrap32 (wrap64 (65536 + t315)))] from rfl) (Reps.none _ _))); intro v339 w77 ho78 hb hg_ hnew_; clear hg_ hnew_; (first | rw [← Ny338.out] at ho78 | (simp only [Int.reduceToNat] at ho78; rw [← Ny338.out] at ho78)); have n0_ := Aside0.mk (Kd.R_elder' (by (with_reducible repeat (first | apply Kd.R_alloc | apply Kd.R_drewN | apply Kd.R_drew)); exact HO333.out) (Kd.R_base ho78) hb); have n1_ := Aside0.mk (Kd.R_elder' (by (with_reducible repeat (first | apply Kd.R_alloc | apply Kd.R_drewN | apply Kd.R_drew)); exact HO336.out) (Kd.R_base ho78) hb); have n2_ := Aside0.mk (Kd.R_lower (Kd.R_new' (Kd.R_new' ho78 (Kd.R_lt (by (with_reducible repeat (first | apply Kd.R_alloc | apply Kd.R_drewN | apply Kd.R_drew)); exact HO333.out))) (Kd.R_lt (by (with_reducible repeat (first | apply Kd.R_alloc | apply Kd.R_drewN | apply Kd.R_drew)); exact HO336.out))) (below_size (by repeat (first | (with_reducible first | exact HB.out | apply below_alloc | apply pw_below_drewN | apply below_drew1) | exact HB.out)))); have n3_ := Aside0.mk (below_step (by repeat (first | (with_reducible first | exact HB.out | apply below_alloc | apply pw_below_drewN | apply below_drew1) | exact HB.out)) hb); clear HO333; clear HO336; clear HB; have HO333 := n0_; have HO336 := n1_; have HO340 := n2_; have HB := n3_; clear n0_ n1_ n2_ n3_; clear hb ho78) | ((with_reducible refine gate_dst (N := 93) rfl ?_); (try (refine gate_guard (by rfl) ?_; dsimp only)); refine Kd.R_lit (Kd.int .i32) _ 21 ?hg (N := 93) ?hd (xs := ([55295] : List Int)) (inner := [.int .i32 55295]) (ok := fun _ => True) (okp := fun _ => True) ?hr ?hp (fun _ hk => hk) trivial (Below.refl _ _) (Nat.le_refl _) (by simp) ?_; (case hd => rfl); (case hg => rfl); (case hr => first | (go_simp; done) | (go_simp; rfl)); (case hp => exact (Reps.one (show Kd.M (Kd.int .i32) _ _ _ 55295 [.int .i32 55295] from rfl) (Reps.none _ _))); intro v342 w79 ho80 hb hg_ hnew_; clear hg_ hnew_; (first | rw [← Ny341.out] at ho80 | (simp only [Int.reduceToNat] at ho80; rw [← Ny341.out] at ho80)); have n0_ := Aside0.mk (Kd.R_elder' (by (with_reducible repeat (first | apply Kd.R_alloc | apply Kd.R_drewN | apply Kd.R_drew)); exact HO333.out) (Kd.R_base ho80) hb); have n1_ := Aside0.mk (Kd.R_elder' (by (with_reducible repeat (first | apply Kd.R_alloc | apply Kd.R_drewN | apply Kd.R_drew)); exact HO336.out) (Kd.R_base ho80) hb); have n2_ := Aside0.mk (Kd.R_elder' (by (with_reducible repeat (first | apply Kd.R_alloc | apply Kd.R_drewN | apply Kd.R_drew)); exact HO340.out) (Kd.R_base ho80) hb); have n3_ := Aside0.mk (Kd.R_lower (Kd.R_new' (Kd.R_new' (Kd.R_new' ho80 (Kd.R_lt (by (with_reducible repeat (first | apply Kd.R_alloc | apply Kd.R_drewN | apply Kd.R_drew)); exact HO333.out))) (Kd.R_lt (by (with_reducible repeat (first | apply Kd.R_alloc | apply Kd.R_drewN | apply Kd.R_drew)); exact HO336.out))) (Kd.R_lt (by (with_reducible repeat (first | apply Kd.R_alloc | apply Kd.R_drewN | apply Kd.R_drew)); exact HO340.out))) (below_size (by repeat (first | (with_reducible first | exact HB.out | apply below_alloc | apply pw_below_drewN | apply below_drew1) | exact HB.out)))); have n4_ := Aside0.mk (below_step (by repeat (first | (with_reducible first | exact HB.out | apply below_alloc | apply pw_below_drewN | apply below_drew1) | exact HB.out)) hb); clear HO333; clear HO336; clear HO340; clear HB; have HO333 := n0_; have HO336 := n1_; have HO340 := n2_; have HO343 := n3_; have HB := n4_; clear n0_ n1_ n2_ n3_ n4_; clear hb ho80; obtain ⟨Ao81, co81, eo81⟩ := Kd.R_slice HO340.out; subst eo81; obtain ⟨Ao82, co82, eo82⟩ := Kd.R_slice HO343.out; subst eo82) | (go_at_call 15; (with_reducible refine (utf16_Compare.calls kj15 _ _ y338 _ _ y341 t344 _ ?side1 ?side2 ?side3 ?side4 A67.out).mono ?_); (case side1 => repeat (first | exact (Kd.R_reads' HO340.out).2.2 | (with_reducible refine Kd.C_alloc ?_ _) | (with_reducible refine Kd.C_drewN ?_ _) | (with_reducible refine Kd.C_drew ?_))); (case side2 => exact (Kd.R_reads' HO340.out).2.1); (case side3 => repeat (first | exact (Kd.R_reads' HO343.out).2.2 | (with_reducible refine Kd.C_alloc ?_ _) | (with_reducible refine Kd.C_drewN ?_ _) | (with_reducible refine Kd.C_drew ?_))); (case side4 => exact (Kd.R_reads' HO343.out).2.1); rintro e w83 ⟨rfl, hb⟩; have n0_ := Aside0.mk (Kd.R_below (by (with_reducible repeat (first | apply Kd.R_alloc | apply Kd.R_drewN | apply Kd.R_drew)); exact HO333.out) hb); have n1_ := Aside0.mk (Kd.R_below (by (with_reducible repeat (first | apply Kd.R_alloc | apply Kd.R_drewN | apply Kd.R_drew)); exact HO336.out) hb); have n2_ := Aside0.mk (Kd.R_below (by (with_reducible repeat (first | apply Kd.R_alloc | apply Kd.R_drewN | apply Kd.R_drew)); exact HO340.out) hb); have n3_ := Aside0.mk (Kd.R_below (by (with_reducible repeat (first | apply Kd.R_alloc | apply Kd.R_drewN | apply Kd.R_drew)); exact HO343.out) hb); have n4_ := Aside0.mk (below_step (by repeat (first | (with_reducible first | exact HB.out | apply below_alloc | apply pw_below_drewN | apply below_drew1) | exact HB.out)) hb); clear HO333; clear HO336; clear HO340; clear HO343; clear HB; have HO333 := n0_; have HO336 := n1_; have HO340 := n2_; have HO343 := n3_; have HB := n4_; clear n0_ n1_ n2_ n3_ n4_; (try clear hb); (try clear hb2); (try clear hk); (try clear hi)) | (go_at_call 8; (with_reducible refine (orthoepylaw03_awake.calls  t345 _ A69.out).mono ?_); rintro e w84 ⟨rfl, hb⟩; have n0_ := Aside0.mk (Kd.R_below (by (with_reducible repeat (first | apply Kd.R_alloc | apply Kd.R_drewN | apply Kd.R_drew)); exact HO333.out) hb); have n1_ := Aside0.mk (Kd.R_below (by (with_reducible repeat (first | apply Kd.R_alloc | apply Kd.R_drewN | apply Kd.R_drew)); exact HO336.out) hb); have n2_ := Aside0.mk (Kd.R_below (by (with_reducible repeat (first | apply Kd.R_alloc | apply Kd.R_drewN | apply Kd.R_drew)); exact HO340.out) hb); have n3_ := Aside0.mk (Kd.R_below (by (with_reducible repeat (first | apply Kd.R_alloc | apply Kd.R_drewN | apply Kd.R_drew)); exact HO343.out) hb); have n4_ := Aside0.mk (below_step (by repeat (first | (with_reducible first | exact HB.out | apply below_alloc | apply pw_below_drewN | apply below_drew1) | exact HB.out)) hb); clear HO333; clear HO336; clear HO340; clear HO343; clear HB; have HO333 := n0_; have HO336 := n1_; have HO340 := n2_; have HO343 := n3_; have HB := n4_; clear n0_ n1_ n2_ n3_ n4_; (try clear hb); (try clear hb2); (try clear hk); (try clear hi)))
                      go_ret
                      exact ⟨by first | rfl | (simp [errW_none, errW_some] <;> rfl) | (simp [*, errW_none, errW_some] <;> rfl), by repeat (first | (with_reducible first | exact HB.out | apply below_alloc | apply pw_below_drewN | apply below_drew1) | exact HB.out)⟩
                    · rw [if_neg c68] at H
                      have c68b0 : (t344 == 1) = false := beq_eq_false_iff_ne.mpr c68
                      have c68b1 : (t344 != 1) = true := bne_iff_ne.mpr c68
                      obtain rfl := Option.some.inj H
                      exact absurd hT_.out (by decide)
                  · rw [if_neg c66] at H
                    have c66b0 : (t337 == (-1)) = false := beq_eq_false_iff_ne.mpr c66
                    have c66b1 : (t337 != (-1)) = true := bne_iff_ne.mpr c66
                    obtain rfl := Option.some.inj H
                    exact absurd hT_.out (by decide)
                · rw [if_neg c64] at H
                  have c64b0 : ((t308 == 0) == (t297 == t298)) = false := by simpa using c64
                  (try (have c64b1 : decide ((t308 == 0) = (t297 == t298)) = false := by simpa using c64))
                  (try (have c64b2 : ((t308 == 0) == (t297 == t298)) = false := by simpa using c64))
                  (try (have c64b3 : ¬ ((t308 == 0) = (t297 == t298)) := by simpa using c64))
                  clear c64
                  obtain rfl := Option.some.inj H
                  exact absurd hT_.out (by decide)
              · rw [if_neg c63] at H
                have c63b0 : ((decide (t308 < 0)) == false) = false := by simpa using c63
                (try (have c63b1 : decide ((decide (t308 < 0)) = false) = false := by simpa using c63))
                (try (have c63b2 : ((decide (t308 < 0)) == false) = false := by simpa using c63))
                (try (have c63b3 : ¬ ((decide (t308 < 0)) = false) := by simpa using c63))
                clear c63
                obtain rfl := Option.some.inj H
                exact absurd hT_.out (by decide)

/-- THE ONE PURE STATEMENT of orthoepylaw03_Utf16Scalars: yours. -/
def orthoepylaw03_Utf16Scalars.Pure : Prop := ∀ (a0 : Int) (a1 : Int) (a2 : Int), (Lit.int .i64 a0).wf = true → (Lit.int .i64 a1).wf = true → (Lit.int .i64 a2).wf = true → ∃ k, orthoepylaw03_Utf16Scalars.f k a0 a1 a2 = some true
theorem orthoepylaw03_Utf16Scalars.walk (P : orthoepylaw03_Utf16Scalars.Pure) (a0 : Int) (a1 : Int) (a2 : Int) (w : World) (w0 : (Lit.int .i64 a0).wf = true) (w1 : (Lit.int .i64 a1).wf = true) (w2 : (Lit.int .i64 a2).wf = true) :
    Calls Try.prog 6 #[.int .i64 a0, .int .i64 a1, .int .i64 a2] w fun e w' => e = .returned (.bool true) ∧ Below w.heap.size w w' := by
  obtain ⟨k, h⟩ := P a0 a1 a2 w0 w1 w2
  refine (orthoepylaw03_Utf16Scalars.calls k a0 a1 a2 true w h ⟨rfl⟩).mono ?_
  rintro e w' ⟨rfl, hd⟩
  exact ⟨rfl, hd⟩

end Go.Proofs.Ythgloaihgpcjjaa.PAll
