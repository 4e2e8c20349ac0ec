-- The machine's side of laws, written by a program of this session (wip/gen/pp.sh). Lean checks it.
import Derived.Test.YtoalfgmnikbpaaaPAllx0
import Derived.Test.YtoalfgmnikbpaaaPAllx3
import Derived.Test.YtoalfgmnikbpaaaPAllx4
import Derived.Test.YtoalfgmnikbpaaaPAllx6
namespace Go.Proofs.Ytoalfgmnikbpaaa.PAll
open Go.RowKit Go.Proofs.YtoalfgmnikbpaaaW.PrintWords Go.Proofs.YtoalfgmnikbpaaaW.PrintLast Go.Proofs.YtoalfgmnikbpaaaW.PrintMore
attribute [local go_sem] max2_int min2_int max_two min_two max_three min_three max_four min_four   -- for this text's walks alone
set_option linter.unusedVariables false
set_option linter.unusedSimpArgs false

/-! ### orthoepylaw02_Utf8All: function 3 -/
def orthoepylaw02_Utf8All.j0 : Nat → List Int → List Int → Int → Bool → Option (Bool)
  | 0, _, _, _, _ => none
  | k + 1, x0, x1, x2, x26 => if x26 = true then ((orthoepylaw02_awake.f).bind fun t260 => (some t260)) else ((utf8_First.f k x0).bind fun bt261 => ((orthoepyref02_First.f k x0).bind fun bt264 => ((utf8_All.f k x0).bind fun bt267 => ((orthoepyref02_All.f k x0).bind fun bt272 => (if bt261.1 = bt264.1 then (if bt261.2.1 = bt264.2.1 then (if (bt261.2.2 == bt264.2.2) = true then ((orthoepyref07_Same.f k bt267.1 bt272.1).bind fun t277 => (if t277 = true then (if bt267.2.1 = bt272.2.1 then (if (bt267.2.2 == bt272.2.2) = true then ((utf8_Text.f k x1).bind fun t278 => ((orthoepyref02_Text.f k x1).bind fun t281 => (if (strOfNums t278).toList = (strOfNums t281).toList then ((utf8_Bytes.f x2).bind fun t284 => ((orthoepyref02_Bytes.f x2).bind fun t287 => (if (strOfNums t284).toList = (strOfNums t287).toList then ((orthoepylaw02_awake.f).bind fun t290 => (some t290)) else (some false)))) else (some false)))) else (some false)) else (some false)) else (some false))) else (some false)) else (some false)) else (some false))))))
def orthoepylaw02_Utf8All.f (k : Nat) (l0 : List Int) (l1 : List Int) (a2 : Int) : Option (Bool) := if (l0.length : Int) > 400 then (orthoepylaw02_Utf8All.j0 k l0 l1 a2 true) else (orthoepylaw02_Utf8All.j0 k l0 l1 a2 (decide ((l1.length : Int) > 200)))
theorem orthoepylaw02_Utf8All.mono_l : ∀ k, (∀ y0 y1 y2 y3, LeO (orthoepylaw02_Utf8All.j0 k y0 y1 y2 y3) (orthoepylaw02_Utf8All.j0 (k + 1) y0 y1 y2 y3))
  | 0 => fun _ _ _ _ r h => by simp [orthoepylaw02_Utf8All.j0] at h
  | k + 1 => by
    have ih0 := orthoepylaw02_Utf8All.mono_l k
    · intro y0 y1 y2 y3
      unfold orthoepylaw02_Utf8All.j0
      repeat' first
      | (with_reducible exact ih0 _ _ _ _)
      | (with_reducible exact orthoepyref02_All.mono _ _)
      | (with_reducible exact orthoepyref02_First.mono _ _)
      | (with_reducible exact orthoepyref02_Text.mono _ _)
      | (with_reducible exact orthoepyref07_Same.mono _ _ _)
      | (with_reducible exact utf8_All.mono _ _)
      | (with_reducible exact utf8_First.mono _ _)
      | (with_reducible exact utf8_Text.mono _ _)
      | (with_reducible exact LeO.refl _)
      | (with_reducible exact LeO.none _)
      | (with_reducible refine LeO.ite ?_ ?_)
      | (with_reducible refine LeO.bind ?_ (fun _ => ?_))
      | exact ih0 _ _ _ _
      | exact orthoepyref02_All.mono _ _
      | exact orthoepyref02_First.mono _ _
      | exact orthoepyref02_Text.mono _ _
      | exact orthoepyref07_Same.mono _ _ _
      | exact utf8_All.mono _ _
      | exact utf8_First.mono _ _
      | exact utf8_Text.mono _ _
      | exact LeO.none _
      | refine LeO.ite ?_ ?_
      | refine LeO.bind ?_ (fun _ => ?_)
theorem orthoepylaw02_Utf8All.mono : ∀ a0 a1 a2 k, LeO (orthoepylaw02_Utf8All.f k a0 a1 a2) (orthoepylaw02_Utf8All.f (k + 1) a0 a1 a2) := by
  intro a0 a1 a2 k
  have ih0 := orthoepylaw02_Utf8All.mono_l k
  unfold orthoepylaw02_Utf8All.f
  repeat' first
      | (with_reducible exact ih0 _ _ _ _)
      | (with_reducible exact orthoepyref02_All.mono _ _)
      | (with_reducible exact orthoepyref02_First.mono _ _)
      | (with_reducible exact orthoepyref02_Text.mono _ _)
      | (with_reducible exact orthoepyref07_Same.mono _ _ _)
      | (with_reducible exact utf8_All.mono _ _)
      | (with_reducible exact utf8_First.mono _ _)
      | (with_reducible exact utf8_Text.mono _ _)
      | (with_reducible exact LeO.refl _)
      | (with_reducible exact LeO.none _)
      | (with_reducible refine LeO.ite ?_ ?_)
      | (with_reducible refine LeO.bind ?_ (fun _ => ?_))
      | exact ih0 _ _ _ _
      | exact orthoepyref02_All.mono _ _
      | exact orthoepyref02_First.mono _ _
      | exact orthoepyref02_Text.mono _ _
      | exact orthoepyref07_Same.mono _ _ _
      | exact utf8_All.mono _ _
      | exact utf8_First.mono _ _
      | exact utf8_Text.mono _ _
      | exact LeO.none _
      | refine LeO.ite ?_ ?_
      | refine LeO.bind ?_ (fun _ => ?_)
def orthoepylaw02_Utf8All.T7 : Bool × List (List Nat × List Nat) := (true, [([], []), ([], []), ([0, 1], [0, 1]), ([2], [2]), ([3], [3]), ([3], [3]), ([4, 5, 3], [3, 4, 5]), ([3, 6], [3, 6]), ([7, 3], [7]), ([8], [8]), ([8], [8]), ([9, 10, 8], [8, 9, 10]), ([8, 11], [8, 11]), ([12, 8], [12]), ([13], [13]), ([13], [13]), ([14, 15, 13, 13], [13, 14, 15]), ([13, 16], [13, 16]), ([17, 16], [17]), ([18], [18]), ([18], [18]), ([19, 20, 18], [18, 19, 20]), ([18, 21], [18, 21]), ([22, 18], [22]), ([23], [23]), ([23], [23]), ([24, 25, 23], [23, 24, 25]), ([23, 26], [23, 26]), ([27, 23], [27]), ([28], [28]), ([29, 28, 28], [28, 29]), ([30, 28], [28, 30]), ([28], [28]), ([32, 30, 28], [28, 32]), ([33, 28], [28, 33]), ([31, 34, 28], [28, 31, 34]), ([28, 35], [28, 35]), ([36, 33], [36]), ([37], [37]), ([38, 37, 37], [37, 38]), ([39, 37], [37, 39]), ([37], [37]), ([41, 39, 37], [37, 41]), ([42, 37], [37, 42]), ([40, 43, 37], [37, 40, 43]), ([37, 44], [37, 44]), ([45, 42], [45]), ([46, 46], [46]), ([46, 47], [46, 47]), ([48, 47, 0, 1, 2, 3, 4, 5, 6, 7, 8, 9, 10, 11, 12, 13, 14, 15, 16, 17, 18, 19, 20, 21, 22, 23, 24, 25, 26, 27, 28, 29, 30, 31, 32, 33, 34, 35, 36, 37, 38, 39, 40, 41, 42, 43, 44, 45, 46, 47, 48], [48])])
def orthoepylaw02_Utf8All.B7 : List Nat := [0, 0, 3, 7, 15, 15, 63, 127, 255, 511, 511, 2047, 4095, 8191, 16383, 16383, 65535, 131071, 262143, 524287, 524287, 2097151, 4194303, 8388607, 16777215, 16777215, 67108863, 134217727, 268435455, 536870911, 1073741823, 2147483647, 536870911, 6442450943, 15032385535, 34359738367, 68719476735, 137438953471, 274877906943, 549755813887, 1099511627775, 274877906943, 3298534883327, 7696581394431, 17592186044415, 35184372088831, 70368744177663, 140737488355327, 281474976710655, 562949953421311]
theorem orthoepylaw02_Utf8All.tab7 : rtab .any (opsOf Try.f3 7) = orthoepylaw02_Utf8All.T7 := by kernel_rfl
theorem orthoepylaw02_Utf8All.bits7 : waitsOk orthoepylaw02_Utf8All.T7.2 orthoepylaw02_Utf8All.B7 = true := by kernel_rfl
set_option maxHeartbeats 8000000 in
set_option maxRecDepth 100000 in
theorem orthoepylaw02_Utf8All.calls (k : Nat) (A0 : Option Addr) (c0 : Nat) (l0 : List Int) (A1 : Option Addr) (c1 : Nat) (l1 : List Int) (a2 : Int) (r : Bool) (w : World) (hr0 : Kd.C (Kd.int .u8) w A0 l0.length l0) (hc0 : l0.length ≤ c0) (hr1 : Kd.C (Kd.int .i32) w A1 l1.length l1) (hc1 : l1.length ≤ c1) (h : orthoepylaw02_Utf8All.f k l0 l1 a2 = some r) (hT_ : Aside0 (r = true)) :
    Calls Try.prog 3 #[.slice A0 l0.length c0, .slice A1 l1.length c1, .int .i32 a2] w fun e w' => e = .returned (.bool r) ∧ Below w.heap.size w w' := by
  have HR0 := Aside0.mk hr0
  have HC0 := Aside0.mk hc0
  clear hr0 hc0
  have HR1 := Aside0.mk hr1
  have HC1 := Aside0.mk hc1
  clear hr1 hc1
  have HB := Aside0.mk (Below.refl w.heap.size w)
  have H : (if (l0.length : Int) > 400 then (orthoepylaw02_Utf8All.j0 k l0 l1 a2 true) else (orthoepylaw02_Utf8All.j0 k l0 l1 a2 (decide ((l1.length : Int) > 200)))) = some r := h
  clear h
  have HC4 := Aside0.mk H
  clear H
  go_enter Try.func3, Try.ntmps3
  go_upto_region 1 with (fail)
  go_cut [26] (fun v26 wc => ∃ (kq : Nat) (x26_3 : Bool), v26 = .bool x26_3 ∧ Aside0 (orthoepylaw02_Utf8All.j0 kq l0 l1 a2 x26_3 = some r) ∧ Aside0 (kq ≤ k) ∧ Aside0 (Below w.heap.size w wc))
  case first =>
    have H := HC4.out
    clear HC4
    by_cases c5 : (l0.length : Int) > 400
    · rw [if_pos c5] at H
      have c5b0 : decide (400 < (l0.length : Int)) = true := decide_eq_true c5
      have c5b1 : decide (400 < l0.length) = true := decide_eq_true (by omega)
      clear c5
      (first | rw [c5b0] | (simp only [i64_w, i32_w]; rw [c5b0]) | skip)
      have H' := Aside0.mk H
      clear H
      go_wp2
      go_meet
      case rel => exact ⟨_, (true), (by first | rfl | (simp; done) | (simp [*]; done)), H', ⟨by first | omega | exact Nat.le_refl _⟩, ⟨by repeat (first | (with_reducible first | exact HB.out | apply below_alloc | apply pw_below_drewN | apply below_drew1) | exact HB.out)⟩⟩
    · rw [if_neg c5] at H
      have c5b0 : decide (400 < (l0.length : Int)) = false := decide_eq_false c5
      have c5b1 : decide (400 < l0.length) = false := decide_eq_false (by omega)
      clear c5
      (first | rw [c5b0] | (simp only [i64_w, i32_w]; rw [c5b0]) | skip)
      have H' := Aside0.mk H
      clear H
      go_wp2
      go_meet
      case rel => exact ⟨_, (decide ((l1.length : Int) > 200)), (by first | rfl | (simp; done) | (simp [*]; done)), H', ⟨by first | omega | exact Nat.le_refl _⟩, ⟨by repeat (first | (with_reducible first | exact HB.out | apply below_alloc | apply pw_below_drewN | apply below_drew1) | exact HB.out)⟩⟩
  case rest =>
    clear HC4
    try clear c1
    try clear p2
    try clear c3
    try clear c5
    try clear c5b0
    try clear c5b1
    obtain ⟨kq, x26_3, rfl, HA, HJ3, HB⟩ := hcut
    cases kq with
    | zero => exact absurd HA.out (by simp [orthoepylaw02_Utf8All.j0])
    | succ kj3 =>
      have H := HA.out
      clear HA
      simp only [orthoepylaw02_Utf8All.j0] at H
      by_cases c6 : x26_3 = true
      · subst c6
        have H1 : ((orthoepylaw02_awake.f).bind fun t260 => (some t260)) = some r := by rw [if_pos rfl] at H; exact H
        clear H
        have H := H1
        clear H1
        replace H := Option.bind_eq_some_iff.mp H
        obtain ⟨t260, A70, H⟩ := H
        replace H : (some t260) = some r := H
        have A7 := Aside0.mk A70
        clear A70
        obtain rfl := Option.some.inj H
        go_wp2_with (first | ((with_reducible refine gate_callee (f := 8) rfl ?_); refine goesL_ (some 27) rfl rfl Try.func8 (by kernel_rfl) rfl #[] rfl (by (try simp only [List.map_toArray, List.map_cons, List.map_nil]); first | done | rfl | (simp only [List.length_drop, List.length_take]; rfl)) ?_; (with_reducible refine (orthoepylaw02_awake.calls  t260 _ A7.out).mono ?_); rintro e w8 ⟨rfl, hb⟩; refine ⟨_, rfl, ?_⟩; have n0_ := Aside0.mk (below_step (by repeat (first | (with_reducible first | exact HB.out | apply below_alloc | apply pw_below_drewN | apply below_drew1) | exact HB.out)) hb); clear HB; have HB := n0_; clear n0_; (try clear hb); (try clear hb2); (try clear hk); (try clear hi)))
        go_ret
        exact ⟨by first | rfl | (simp [errW_none, errW_some] <;> rfl) | (simp [*, errW_none, errW_some] <;> rfl), by repeat (first | (with_reducible first | exact HB.out | apply below_alloc | apply pw_below_drewN | apply below_drew1) | exact HB.out)⟩
      · replace c6 := Bool.eq_false_iff.mpr c6
        subst c6
        have H1 : ((utf8_First.f kj3 l0).bind fun bt261 => ((orthoepyref02_First.f kj3 l0).bind fun bt264 => ((utf8_All.f kj3 l0).bind fun bt267 => ((orthoepyref02_All.f kj3 l0).bind fun bt272 => (if bt261.1 = bt264.1 then (if bt261.2.1 = bt264.2.1 then (if (bt261.2.2 == bt264.2.2) = true then ((orthoepyref07_Same.f kj3 bt267.1 bt272.1).bind fun t277 => (if t277 = true then (if bt267.2.1 = bt272.2.1 then (if (bt267.2.2 == bt272.2.2) = true then ((utf8_Text.f kj3 l1).bind fun t278 => ((orthoepyref02_Text.f kj3 l1).bind fun t281 => (if (strOfNums t278).toList = (strOfNums t281).toList then ((utf8_Bytes.f a2).bind fun t284 => ((orthoepyref02_Bytes.f a2).bind fun t287 => (if (strOfNums t284).toList = (strOfNums t287).toList then ((orthoepylaw02_awake.f).bind fun t290 => (some t290)) else (some false)))) else (some false)))) else (some false)) else (some false)) else (some false))) else (some false)) else (some false)) else (some false)))))) = some r := by rw [if_neg (show ¬ (false = true) by decide)] at H; exact H
        clear H
        have H := H1
        clear H1
        replace H := Option.bind_eq_some_iff.mp H
        obtain ⟨⟨t261, t262, t263⟩, A90, H⟩ := H
        replace H : ((orthoepyref02_First.f kj3 l0).bind fun bt264 => ((utf8_All.f kj3 l0).bind fun bt267 => ((orthoepyref02_All.f kj3 l0).bind fun bt272 => (if t261 = bt264.1 then (if t262 = bt264.2.1 then (if (t263 == bt264.2.2) = true then ((orthoepyref07_Same.f kj3 bt267.1 bt272.1).bind fun t277 => (if t277 = true then (if bt267.2.1 = bt272.2.1 then (if (bt267.2.2 == bt272.2.2) = true then ((utf8_Text.f kj3 l1).bind fun t278 => ((orthoepyref02_Text.f kj3 l1).bind fun t281 => (if (strOfNums t278).toList = (strOfNums t281).toList then ((utf8_Bytes.f a2).bind fun t284 => ((orthoepyref02_Bytes.f a2).bind fun t287 => (if (strOfNums t284).toList = (strOfNums t287).toList then ((orthoepylaw02_awake.f).bind fun t290 => (some t290)) else (some false)))) else (some false)))) else (some false)) else (some false)) else (some false))) else (some false)) else (some false)) else (some false))))) = some r := H
        have A9 := Aside0.mk A90
        clear A90
        replace H := Option.bind_eq_some_iff.mp H
        obtain ⟨⟨t264, t265, t266⟩, A100, H⟩ := H
        replace H : ((utf8_All.f kj3 l0).bind fun bt267 => ((orthoepyref02_All.f kj3 l0).bind fun bt272 => (if t261 = t264 then (if t262 = t265 then (if (t263 == t266) = true then ((orthoepyref07_Same.f kj3 bt267.1 bt272.1).bind fun t277 => (if t277 = true then (if bt267.2.1 = bt272.2.1 then (if (bt267.2.2 == bt272.2.2) = true then ((utf8_Text.f kj3 l1).bind fun t278 => ((orthoepyref02_Text.f kj3 l1).bind fun t281 => (if (strOfNums t278).toList = (strOfNums t281).toList then ((utf8_Bytes.f a2).bind fun t284 => ((orthoepyref02_Bytes.f a2).bind fun t287 => (if (strOfNums t284).toList = (strOfNums t287).toList then ((orthoepylaw02_awake.f).bind fun t290 => (some t290)) else (some false)))) else (some false)))) else (some false)) else (some false)) else (some false))) else (some false)) else (some false)) else (some false)))) = some r := H
        have A10 := Aside0.mk A100
        clear A100
        replace H := Option.bind_eq_some_iff.mp H
        obtain ⟨⟨t267, t268, t269⟩, A110, H⟩ := H
        replace H : ((orthoepyref02_All.f kj3 l0).bind fun bt272 => (if t261 = t264 then (if t262 = t265 then (if (t263 == t266) = true then ((orthoepyref07_Same.f kj3 t267 bt272.1).bind fun t277 => (if t277 = true then (if t268 = bt272.2.1 then (if (t269 == bt272.2.2) = true then ((utf8_Text.f kj3 l1).bind fun t278 => ((orthoepyref02_Text.f kj3 l1).bind fun t281 => (if (strOfNums t278).toList = (strOfNums t281).toList then ((utf8_Bytes.f a2).bind fun t284 => ((orthoepyref02_Bytes.f a2).bind fun t287 => (if (strOfNums t284).toList = (strOfNums t287).toList then ((orthoepylaw02_awake.f).bind fun t290 => (some t290)) else (some false)))) else (some false)))) else (some false)) else (some false)) else (some false))) else (some false)) else (some false)) else (some false))) = some r := H
        have A11 := Aside0.mk A110
        clear A110
        replace H := Option.bind_eq_some_iff.mp H
        obtain ⟨⟨t272, t273, t274⟩, A120, H⟩ := H
        replace H : (if t261 = t264 then (if t262 = t265 then (if (t263 == t266) = true then ((orthoepyref07_Same.f kj3 t267 t272).bind fun t277 => (if t277 = true then (if t268 = t273 then (if (t269 == t274) = true then ((utf8_Text.f kj3 l1).bind fun t278 => ((orthoepyref02_Text.f kj3 l1).bind fun t281 => (if (strOfNums t278).toList = (strOfNums t281).toList then ((utf8_Bytes.f a2).bind fun t284 => ((orthoepyref02_Bytes.f a2).bind fun t287 => (if (strOfNums t284).toList = (strOfNums t287).toList then ((orthoepylaw02_awake.f).bind fun t290 => (some t290)) else (some false)))) else (some false)))) else (some false)) else (some false)) else (some false))) else (some false)) else (some false)) else (some false)) = some r := H
        have A12 := Aside0.mk A120
        clear A120
        by_cases c13 : t261 = t264
        · rw [if_pos c13] at H
          have c13b0 : (t261 == t264) = true := beq_iff_eq.mpr c13
          have c13b1 : (t261 != t264) = false := bne_eq_false_iff_eq.mpr c13
          clear c13
          by_cases c14 : t262 = t265
          · rw [if_pos c14] at H
            have c14b0 : (t262 == t265) = true := beq_iff_eq.mpr c14
            have c14b1 : (t262 != t265) = false := bne_eq_false_iff_eq.mpr c14
            clear c14
            by_cases c15 : (t263 == t266) = true
            · rw [if_pos c15] at H
              have c15b0 : (t263 == t266) = true := c15
              (try (have c15b1 : decide (t263 = t266) = true := by simpa using c15))
              (try (have c15b2 : (t263 == t266) = true := by simpa using c15))
              clear c15
              replace H := Option.bind_eq_some_iff.mp H
              obtain ⟨t277, A160, H⟩ := H
              replace H : (if t277 = true then (if t268 = t273 then (if (t269 == t274) = true then ((utf8_Text.f kj3 l1).bind fun t278 => ((orthoepyref02_Text.f kj3 l1).bind fun t281 => (if (strOfNums t278).toList = (strOfNums t281).toList then ((utf8_Bytes.f a2).bind fun t284 => ((orthoepyref02_Bytes.f a2).bind fun t287 => (if (strOfNums t284).toList = (strOfNums t287).toList then ((orthoepylaw02_awake.f).bind fun t290 => (some t290)) else (some false)))) else (some false)))) else (some false)) else (some false)) else (some false)) = some r := H
              have A16 := Aside0.mk A160
              clear A160
              by_cases c17 : t277 = true
              · subst c17
                have H1 : (if t268 = t273 then (if (t269 == t274) = true then ((utf8_Text.f kj3 l1).bind fun t278 => ((orthoepyref02_Text.f kj3 l1).bind fun t281 => (if (strOfNums t278).toList = (strOfNums t281).toList then ((utf8_Bytes.f a2).bind fun t284 => ((orthoepyref02_Bytes.f a2).bind fun t287 => (if (strOfNums t284).toList = (strOfNums t287).toList then ((orthoepylaw02_awake.f).bind fun t290 => (some t290)) else (some false)))) else (some false)))) else (some false)) else (some false)) = some r := by rw [if_pos rfl] at H; exact H
                clear H
                have H := H1
                clear H1
                by_cases c18 : t268 = t273
                · rw [if_pos c18] at H
                  have c18b0 : (t268 == t273) = true := beq_iff_eq.mpr c18
                  have c18b1 : (t268 != t273) = false := bne_eq_false_iff_eq.mpr c18
                  clear c18
                  by_cases c19 : (t269 == t274) = true
                  · rw [if_pos c19] at H
                    have c19b0 : (t269 == t274) = true := c19
                    (try (have c19b1 : decide (t269 = t274) = true := by simpa using c19))
                    (try (have c19b2 : (t269 == t274) = true := by simpa using c19))
                    clear c19
                    replace H := Option.bind_eq_some_iff.mp H
                    obtain ⟨t278, A200, H⟩ := H
                    replace H : ((orthoepyref02_Text.f kj3 l1).bind fun t281 => (if (strOfNums t278).toList = (strOfNums t281).toList then ((utf8_Bytes.f a2).bind fun t284 => ((orthoepyref02_Bytes.f a2).bind fun t287 => (if (strOfNums t284).toList = (strOfNums t287).toList then ((orthoepylaw02_awake.f).bind fun t290 => (some t290)) else (some false)))) else (some false))) = some r := H
                    have A20 := Aside0.mk A200
                    clear A200
                    replace H := Option.bind_eq_some_iff.mp H
                    obtain ⟨t281, A210, H⟩ := H
                    replace H : (if (strOfNums t278).toList = (strOfNums t281).toList then ((utf8_Bytes.f a2).bind fun t284 => ((orthoepyref02_Bytes.f a2).bind fun t287 => (if (strOfNums t284).toList = (strOfNums t287).toList then ((orthoepylaw02_awake.f).bind fun t290 => (some t290)) else (some false)))) else (some false)) = some r := H
                    have A21 := Aside0.mk A210
                    clear A210
                    by_cases c22 : (strOfNums t278).toList = (strOfNums t281).toList
                    · rw [if_pos c22] at H
                      have c22b0 : ((strOfNums t278).toList == (strOfNums t281).toList) = true := beq_iff_eq.mpr c22
                      have c22b1 : ((strOfNums t278).toList != (strOfNums t281).toList) = false := bne_eq_false_iff_eq.mpr c22
                      clear c22
                      replace H := Option.bind_eq_some_iff.mp H
                      obtain ⟨t284, A230, H⟩ := H
                      replace H : ((orthoepyref02_Bytes.f a2).bind fun t287 => (if (strOfNums t284).toList = (strOfNums t287).toList then ((orthoepylaw02_awake.f).bind fun t290 => (some t290)) else (some false))) = some r := H
                      have A23 := Aside0.mk A230
                      clear A230
                      replace H := Option.bind_eq_some_iff.mp H
                      obtain ⟨t287, A240, H⟩ := H
                      replace H : (if (strOfNums t284).toList = (strOfNums t287).toList then ((orthoepylaw02_awake.f).bind fun t290 => (some t290)) else (some false)) = some r := H
                      have A24 := Aside0.mk A240
                      clear A240
                      by_cases c25 : (strOfNums t284).toList = (strOfNums t287).toList
                      · rw [if_pos c25] at H
                        have c25b0 : ((strOfNums t284).toList == (strOfNums t287).toList) = true := beq_iff_eq.mpr c25
                        have c25b1 : ((strOfNums t284).toList != (strOfNums t287).toList) = false := bne_eq_false_iff_eq.mpr c25
                        clear c25
                        replace H := Option.bind_eq_some_iff.mp H
                        obtain ⟨t290, A260, H⟩ := H
                        replace H : (some t290) = some r := H
                        have A26 := Aside0.mk A260
                        clear A260
                        obtain rfl := Option.some.inj H
                        try go_wp2_with (first | ((with_reducible refine gate_callee (f := 9) rfl ?_); refine goesL_ (some 30) rfl rfl Try.func9 (by kernel_rfl) rfl #[.slice A0 l0.length c0] rfl (by (try simp only [List.map_toArray, List.map_cons, List.map_nil]); first | done | rfl | (simp only [List.length_drop, List.length_take]; rfl)) ?_; (with_reducible refine (utf8_First.calls kj3 _ _ l0 t261 t262 t263 _ ?side1 ?side2 A9.out).mono ?_); (case side1 => repeat (first | exact (Kd.C_below HR0.out HB.out) | (with_reducible refine Kd.C_alloc ?_ _) | (with_reducible refine Kd.C_drewN ?_ _) | (with_reducible refine Kd.C_drew ?_))); (case side2 => exact HC0.out); rintro e w27 ⟨rfl, hb⟩; refine ⟨_, rfl, ?_⟩; have n0_ := Aside0.mk (below_step (by repeat (first | (with_reducible first | exact HB.out | apply below_alloc | apply pw_below_drewN | apply below_drew1) | exact HB.out)) hb); clear HB; have HB := n0_; clear n0_; (try clear hb); (try clear hb2); (try clear hk); (try clear hi)) | ((with_reducible refine gate_callee (f := 10) rfl ?_); refine goesL_ (some 36) rfl rfl Try.func10 (by kernel_rfl) rfl #[.slice A0 l0.length c0] rfl (by (try simp only [List.map_toArray, List.map_cons, List.map_nil]); first | done | rfl | (simp only [List.length_drop, List.length_take]; rfl)) ?_; (with_reducible refine (orthoepyref02_First.calls kj3 _ _ l0 t264 t265 t266 _ ?side1 ?side2 A10.out).mono ?_); (case side1 => repeat (first | exact (Kd.C_below HR0.out HB.out) | (with_reducible refine Kd.C_alloc ?_ _) | (with_reducible refine Kd.C_drewN ?_ _) | (with_reducible refine Kd.C_drew ?_))); (case side2 => exact HC0.out); rintro e w' ⟨rfl, ⟨nd, rfl⟩⟩; refine ⟨_, rfl, ?_⟩) | ((with_reducible refine gate_callee (f := 11) rfl ?_); refine goesL_ (some 42) rfl rfl Try.func11 (by kernel_rfl) rfl #[.slice A0 l0.length c0] rfl (by (try simp only [List.map_toArray, List.map_cons, List.map_nil]); first | done | rfl | (simp only [List.length_drop, List.length_take]; rfl)) ?_; (with_reducible refine (utf8_All.calls kj3 _ _ l0 t267 t268 t269 _ ?side1 ?side2 A11.out).mono ?_); (case side1 => repeat (first | exact (Kd.C_below HR0.out (by repeat (first | (with_reducible first | exact HB.out | apply below_alloc | apply pw_below_drewN | apply below_drew1) | exact HB.out))) | (with_reducible refine Kd.C_alloc ?_ _) | (with_reducible refine Kd.C_drewN ?_ _) | (with_reducible refine Kd.C_drew ?_))); (case side2 => exact HC0.out); rintro e w28 ⟨v270, rfl, ho0, hb⟩; refine ⟨_, rfl, ?_⟩; have n0_ := Aside0.mk (Kd.R_lower ho0 (below_size (by repeat (first | (with_reducible first | exact HB.out | apply below_alloc | apply pw_below_drewN | apply below_drew1) | exact HB.out)))); have n1_ := Aside0.mk (below_step (by repeat (first | (with_reducible first | exact HB.out | apply below_alloc | apply pw_below_drewN | apply below_drew1) | exact HB.out)) hb); clear HB; have HO271 := n0_; have HB := n1_; clear n0_ n1_; (try clear hb); (try clear hb2); (try clear hk); (try clear hi); (try clear ho0)) | ((with_reducible refine gate_callee (f := 12) rfl ?_); refine goesL_ (some 48) rfl rfl Try.func12 (by kernel_rfl) rfl #[.slice A0 l0.length c0] rfl (by (try simp only [List.map_toArray, List.map_cons, List.map_nil]); first | done | rfl | (simp only [List.length_drop, List.length_take]; rfl)) ?_; (with_reducible refine (orthoepyref02_All.calls kj3 _ _ l0 t272 t273 t274 _ ?side1 ?side2 A12.out).mono ?_); (case side1 => repeat (first | exact (Kd.C_below HR0.out HB.out) | (with_reducible refine Kd.C_alloc ?_ _) | (with_reducible refine Kd.C_drewN ?_ _) | (with_reducible refine Kd.C_drew ?_))); (case side2 => exact HC0.out); rintro e w29 ⟨v275, rfl, ho0, hb⟩; refine ⟨_, rfl, ?_⟩; have n0_ := Aside0.mk (Kd.R_elder' (by (with_reducible repeat (first | apply Kd.R_alloc | apply Kd.R_drewN | apply Kd.R_drew)); exact HO271.out) (Kd.R_base ho0) hb); have n1_ := Aside0.mk (Kd.R_lower (Kd.R_new' ho0 (Kd.R_lt (by (with_reducible repeat (first | apply Kd.R_alloc | apply Kd.R_drewN | apply Kd.R_drew)); exact HO271.out))) (below_size (by repeat (first | (with_reducible first | exact HB.out | apply below_alloc | apply pw_below_drewN | apply below_drew1) | exact HB.out)))); have n2_ := Aside0.mk (below_step (by repeat (first | (with_reducible first | exact HB.out | apply below_alloc | apply pw_below_drewN | apply below_drew1) | exact HB.out)) hb); clear HO271; clear HB; have HO271 := n0_; have HO276 := n1_; have HB := n2_; clear n0_ n1_ n2_; (try clear hb); (try clear hb2); (try clear hk); (try clear hi); (try clear ho0); obtain ⟨Ao30, co30, eo30⟩ := Kd.R_slice HO271.out; subst eo30; obtain ⟨Ao31, co31, eo31⟩ := Kd.R_slice HO276.out; subst eo31))
                        have n0_ := Aside0.mk (Kd.R_drew HO271.out)
                        have n1_ := Aside0.mk (Kd.R_drew HO276.out)
                        have n2_ := Aside0.mk (below_drew1 HB.out)
                        clear HO271
                        clear HO276
                        clear HB
                        have HO271 := n0_
                        have HO276 := n1_
                        have HB := n2_
                        clear n0_ n1_ n2_
                        refine start_ (n := 50) (S := fun w' => True) (ds := []) #[false, false, false, false, false, false, false, false, false, false, false, false, false, false, false, false, false, false, false, false, false, false, false, false, false, false, false, false, false, false, false, false, false, false, false, false, false, false, false, false, false, false, false, false, false, false, false, false, false, false] (by kernel_rfl) rfl rfl trivial (fun hHeld => ?_); refine with_tabW orthoepylaw02_Utf8All.tab7 orthoepylaw02_Utf8All.bits7 (fun HT_ HW_ => ?_)
                        generalize w29.drew = w32 at HO271 HO276 HB hHeld ⊢
                        refine pure_ (i := 0) (N := some 52) (v := ?_) (a' := ?_) #[true, false, false, false, false, false, false, false, false, false, false, false, false, false, false, false, false, false, false, false, false, false, false, false, false, false, false, false, false, false, false, false, false, false, false, false, false, false, false, false, false, false, false, false, false, false, false, false, false, false] rfl rfl (any_of HT_.out (by kernel_rfl)) (fun _ _ _ h => h) (Or.inl ⟨by rfl, ?_⟩) ?_ ?_
                        rotate_left
                        · intro w'
                          go_simp
                          with_reducible rfl
                        rotate_left
                        · simp only [Act.put, List.setIfInBounds_toArray, List.set_cons_zero, List.set_cons_succ, i64_w, i32_w]
                          rfl
                        refine pure_ (i := 1) (N := some 53) (v := ?_) (a' := ?_) #[true, true, false, false, false, false, false, false, false, false, false, false, false, false, false, false, false, false, false, false, false, false, false, false, false, false, false, false, false, false, false, false, false, false, false, false, false, false, false, false, false, false, false, false, false, false, false, false, false, false] rfl rfl (any_of HT_.out (by kernel_rfl)) (fun _ _ _ h => h) (Or.inl ⟨by rfl, ?_⟩) ?_ ?_
                        rotate_left
                        · intro w'
                          go_simp
                          with_reducible rfl
                        rotate_left
                        · simp only [Act.put, List.setIfInBounds_toArray, List.set_cons_zero, List.set_cons_succ, i64_w, i32_w]
                          rfl
                        refine pure_ (i := 2) (N := some 54) (v := ?_) (a' := ?_) #[true, true, true, false, false, false, false, false, false, false, false, false, false, false, false, false, false, false, false, false, false, false, false, false, false, false, false, false, false, false, false, false, false, false, false, false, false, false, false, false, false, false, false, false, false, false, false, false, false, false] rfl rfl (any_of HT_.out (by kernel_rfl)) (fun _ _ _ h => h) (Or.inl ⟨by rfl, ?_⟩) ?_ ?_
                        rotate_left
                        · intro w'
                          go_simp
                          with_reducible rfl
                        rotate_left
                        · simp only [Act.put, List.setIfInBounds_toArray, List.set_cons_zero, List.set_cons_succ, i64_w, i32_w]
                          rfl
                        refine pure_ (i := 3) (N := some 55) (v := ?_) (a' := ?_) #[true, true, true, true, false, false, false, false, false, false, false, false, false, false, false, false, false, false, false, false, false, false, false, false, false, false, false, false, false, false, false, false, false, false, false, false, false, false, false, false, false, false, false, false, false, false, false, false, false, false] rfl rfl (any_of HT_.out (by kernel_rfl)) (fun _ _ _ h => h) (Or.inl ⟨by rfl, ?_⟩) ?_ ?_
                        rotate_left
                        · intro w'
                          go_simp
                          with_reducible rfl
                        rotate_left
                        · simp only [Act.put, List.setIfInBounds_toArray, List.set_cons_zero, List.set_cons_succ, i64_w, i32_w]
                          rfl
                        refine pure_ (i := 4) (N := some 56) (v := ?_) (a' := ?_) #[true, true, true, true, true, false, false, false, false, false, false, false, false, false, false, false, false, false, false, false, false, false, false, false, false, false, false, false, false, false, false, false, false, false, false, false, false, false, false, false, false, false, false, false, false, false, false, false, false, false] rfl rfl (any_of HT_.out (by kernel_rfl)) (fun _ _ _ h => h) (Or.inl ⟨by rfl, ?_⟩) ?_ ?_
                        rotate_left
                        · intro w'
                          go_simp
                          with_reducible rfl
                        rotate_left
                        · simp only [Act.put, List.setIfInBounds_toArray, List.set_cons_zero, List.set_cons_succ, i64_w, i32_w]
                          rfl
                        refine pure_ (i := 5) (N := some 57) (v := ?_) (a' := ?_) #[true, true, true, true, true, true, false, false, false, false, false, false, false, false, false, false, false, false, false, false, false, false, false, false, false, false, false, false, false, false, false, false, false, false, false, false, false, false, false, false, false, false, false, false, false, false, false, false, false, false] rfl rfl (any_of HT_.out (by kernel_rfl)) (fun _ _ _ h => h) (Or.inl ⟨by rfl, ?_⟩) ?_ ?_
                        rotate_left
                        · intro w'
                          go_simp
                          with_reducible rfl
                        rotate_left
                        · simp only [Act.put, List.setIfInBounds_toArray, List.set_cons_zero, List.set_cons_succ, i64_w, i32_w]
                          rfl
                        refine pure_ (i := 6) (N := some 58) (v := ?_) (a' := ?_) #[true, true, true, true, true, true, true, false, false, false, false, false, false, false, false, false, false, false, false, false, false, false, false, false, false, false, false, false, false, false, false, false, false, false, false, false, false, false, false, false, false, false, false, false, false, false, false, false, false, false] rfl rfl (any_of HT_.out (by kernel_rfl)) (fun _ _ _ h => h) (Or.inl ⟨by rfl, ?_⟩) ?_ ?_
                        rotate_left
                        · intro w'
                          go_simp
                          with_reducible rfl
                        rotate_left
                        · simp only [Act.put, List.setIfInBounds_toArray, List.set_cons_zero, List.set_cons_succ, i64_w, i32_w]
                          rfl
                        refine pure_ (i := 7) (N := some 59) (v := ?_) (a' := ?_) #[true, true, true, true, true, true, true, true, false, false, false, false, false, false, false, false, false, false, false, false, false, false, false, false, false, false, false, false, false, false, false, false, false, false, false, false, false, false, false, false, false, false, false, false, false, false, false, false, false, false] rfl rfl (any_of HT_.out (by kernel_rfl)) (fun _ _ _ h => h) (Or.inl ⟨by rfl, ?_⟩) ?_ ?_
                        rotate_left
                        · intro w'
                          go_simp
                          with_reducible rfl
                        rotate_left
                        · simp only [Act.put, List.setIfInBounds_toArray, List.set_cons_zero, List.set_cons_succ, i64_w, i32_w]
                          rfl
                        refine pure_ (i := 8) (N := some 60) (v := ?_) (a' := ?_) #[true, true, true, true, true, true, true, true, true, false, false, false, false, false, false, false, false, false, false, false, false, false, false, false, false, false, false, false, false, false, false, false, false, false, false, false, false, false, false, false, false, false, false, false, false, false, false, false, false, false] rfl rfl (any_of HT_.out (by kernel_rfl)) (fun _ _ _ h => h) (Or.inl ⟨by rfl, ?_⟩) ?_ ?_
                        rotate_left
                        · intro w'
                          go_simp
                          with_reducible rfl
                        rotate_left
                        · simp only [Act.put, List.setIfInBounds_toArray, List.set_cons_zero, List.set_cons_succ, i64_w, i32_w]
                          rfl
                        refine pure_ (i := 9) (N := some 61) (v := ?_) (a' := ?_) #[true, true, true, true, true, true, true, true, true, true, false, false, false, false, false, false, false, false, false, false, false, false, false, false, false, false, false, false, false, false, false, false, false, false, false, false, false, false, false, false, false, false, false, false, false, false, false, false, false, false] rfl rfl (any_of HT_.out (by kernel_rfl)) (fun _ _ _ h => h) (Or.inl ⟨by rfl, ?_⟩) ?_ ?_
                        rotate_left
                        · intro w'
                          go_simp
                          with_reducible rfl
                        rotate_left
                        · simp only [Act.put, List.setIfInBounds_toArray, List.set_cons_zero, List.set_cons_succ, i64_w, i32_w]
                          rfl
                        refine pure_ (i := 10) (N := some 62) (v := ?_) (a' := ?_) #[true, true, true, true, true, true, true, true, true, true, true, false, false, false, false, false, false, false, false, false, false, false, false, false, false, false, false, false, false, false, false, false, false, false, false, false, false, false, false, false, false, false, false, false, false, false, false, false, false, false] rfl rfl (any_of HT_.out (by kernel_rfl)) (fun _ _ _ h => h) (Or.inl ⟨by rfl, ?_⟩) ?_ ?_
                        rotate_left
                        · intro w'
                          go_simp
                          with_reducible rfl
                        rotate_left
                        · simp only [Act.put, List.setIfInBounds_toArray, List.set_cons_zero, List.set_cons_succ, i64_w, i32_w]
                          rfl
                        refine pure_ (i := 11) (N := some 63) (v := ?_) (a' := ?_) #[true, true, true, true, true, true, true, true, true, true, true, true, false, false, false, false, false, false, false, false, false, false, false, false, false, false, false, false, false, false, false, false, false, false, false, false, false, false, false, false, false, false, false, false, false, false, false, false, false, false] rfl rfl (any_of HT_.out (by kernel_rfl)) (fun _ _ _ h => h) (Or.inl ⟨by rfl, ?_⟩) ?_ ?_
                        rotate_left
                        · intro w'
                          go_simp
                          with_reducible rfl
                        rotate_left
                        · simp only [Act.put, List.setIfInBounds_toArray, List.set_cons_zero, List.set_cons_succ, i64_w, i32_w]
                          rfl
                        refine pure_ (i := 12) (N := some 64) (v := ?_) (a' := ?_) #[true, true, true, true, true, true, true, true, true, true, true, true, true, false, false, false, false, false, false, false, false, false, false, false, false, false, false, false, false, false, false, false, false, false, false, false, false, false, false, false, false, false, false, false, false, false, false, false, false, false] rfl rfl (any_of HT_.out (by kernel_rfl)) (fun _ _ _ h => h) (Or.inl ⟨by rfl, ?_⟩) ?_ ?_
                        rotate_left
                        · intro w'
                          go_simp
                          with_reducible rfl
                        rotate_left
                        · simp only [Act.put, List.setIfInBounds_toArray, List.set_cons_zero, List.set_cons_succ, i64_w, i32_w]
                          rfl
                        refine pure_ (i := 13) (N := some 65) (v := ?_) (a' := ?_) #[true, true, true, true, true, true, true, true, true, true, true, true, true, true, false, false, false, false, false, false, false, false, false, false, false, false, false, false, false, false, false, false, false, false, false, false, false, false, false, false, false, false, false, false, false, false, false, false, false, false] rfl rfl (any_of HT_.out (by kernel_rfl)) (fun _ _ _ h => h) (Or.inl ⟨by rfl, ?_⟩) ?_ ?_
                        rotate_left
                        · intro w'
                          go_simp
                          with_reducible rfl
                        rotate_left
                        · simp only [Act.put, List.setIfInBounds_toArray, List.set_cons_zero, List.set_cons_succ, i64_w, i32_w]
                          rfl
                        refine pure_ (i := 14) (N := some 66) (v := ?_) (a' := ?_) #[true, true, true, true, true, true, true, true, true, true, true, true, true, true, true, false, false, false, false, false, false, false, false, false, false, false, false, false, false, false, false, false, false, false, false, false, false, false, false, false, false, false, false, false, false, false, false, false, false, false] rfl rfl (any_of HT_.out (by kernel_rfl)) (fun _ _ _ h => h) (Or.inl ⟨by rfl, ?_⟩) ?_ ?_
                        rotate_left
                        · intro w'
                          go_simp
                          with_reducible rfl
                        rotate_left
                        · simp only [Act.put, List.setIfInBounds_toArray, List.set_cons_zero, List.set_cons_succ, i64_w, i32_w]
                          rfl
                        refine pure_ (i := 15) (N := some 67) (v := ?_) (a' := ?_) #[true, true, true, true, true, true, true, true, true, true, true, true, true, true, true, true, false, false, false, false, false, false, false, false, false, false, false, false, false, false, false, false, false, false, false, false, false, false, false, false, false, false, false, false, false, false, false, false, false, false] rfl rfl (any_of HT_.out (by kernel_rfl)) (fun _ _ _ h => h) (Or.inl ⟨by rfl, ?_⟩) ?_ ?_
                        rotate_left
                        · intro w'
                          go_simp
                          with_reducible rfl
                        rotate_left
                        · simp only [Act.put, List.setIfInBounds_toArray, List.set_cons_zero, List.set_cons_succ, i64_w, i32_w]
                          rfl
                        refine one_ (i := 16) (N := some 68) #[true, true, true, true, true, true, true, true, true, true, true, true, true, true, true, true, true, false, false, false, false, false, false, false, false, false, false, false, false, false, false, false, false, false, false, false, false, false, false, false, false, false, false, false, false, false, false, false, false, false] rfl rfl (one_of HT_.out (by kernel_rfl)) (by decide) (fun K hK => ?_)
                        refine goes_ Try.func13 (by kernel_rfl) rfl #[.slice Ao30 t267.length co30, .slice Ao31 t272.length co31] (by rfl) rfl rfl (by (try simp only [List.map_toArray, List.map_cons, List.map_nil]); first | done | rfl | (simp only [List.length_drop, List.length_take]; rfl)) ?_
                        with_reducible refine (orthoepyref07_Same.calls kj3 _ _ t267 _ _ t272 true _ ?side1 ?side2 ?side3 ?side4 A16.out).mono ?_
                        (case side1 => repeat (first | exact (Kd.R_reads' HO271.out).2.2 | (with_reducible refine Kd.C_alloc ?_ _) | (with_reducible refine Kd.C_drewN ?_ _) | (with_reducible refine Kd.C_drew ?_)))
                        (case side2 => exact (Kd.R_reads' HO271.out).2.1)
                        (case side3 => repeat (first | exact (Kd.R_reads' HO276.out).2.2 | (with_reducible refine Kd.C_alloc ?_ _) | (with_reducible refine Kd.C_drewN ?_ _) | (with_reducible refine Kd.C_drew ?_)))
                        (case side4 => exact (Kd.R_reads' HO276.out).2.1)
                        rintro e w' ⟨rfl, ⟨nd, rfl⟩⟩
                        refine ⟨_, rfl, ?_⟩
                        refine hK.out _ _ trivial (fun hHeld => ?_)
                        clear hK K
                        refine norm_ (a' := ?_) ?_ ?_
                        rotate_left
                        · show Act.put _ (some 68) _ = _
                          simp only [Act.put, List.setIfInBounds_toArray, List.set_cons_zero, List.set_cons_succ, i64_w, i32_w]
                          rfl
                        refine pure_ (i := 17) (N := some 69) (v := ?_) (a' := ?_) #[true, true, true, true, true, true, true, true, true, true, true, true, true, true, true, true, true, true, false, false, false, false, false, false, false, false, false, false, false, false, false, false, false, false, false, false, false, false, false, false, false, false, false, false, false, false, false, false, false, false] rfl rfl (any_of HT_.out (by kernel_rfl)) (fun _ _ _ h => h) (Or.inl ⟨by rfl, ?_⟩) ?_ ?_
                        rotate_left
                        · intro w'
                          go_simp
                          with_reducible rfl
                        rotate_left
                        · simp only [Act.put, List.setIfInBounds_toArray, List.set_cons_zero, List.set_cons_succ, i64_w, i32_w]
                          rfl
                        refine pure_ (i := 18) (N := some 70) (v := ?_) (a' := ?_) #[true, true, true, true, true, true, true, true, true, true, true, true, true, true, true, true, true, true, true, false, false, false, false, false, false, false, false, false, false, false, false, false, false, false, false, false, false, false, false, false, false, false, false, false, false, false, false, false, false, false] rfl rfl (any_of HT_.out (by kernel_rfl)) (fun _ _ _ h => h) (Or.inl ⟨by rfl, ?_⟩) ?_ ?_
                        rotate_left
                        · intro w'
                          go_simp
                          with_reducible rfl
                        rotate_left
                        · simp only [Act.put, List.setIfInBounds_toArray, List.set_cons_zero, List.set_cons_succ, i64_w, i32_w]
                          rfl
                        refine pure_ (i := 19) (N := some 71) (v := ?_) (a' := ?_) #[true, true, true, true, true, true, true, true, true, true, true, true, true, true, true, true, true, true, true, true, false, false, false, false, false, false, false, false, false, false, false, false, false, false, false, false, false, false, false, false, false, false, false, false, false, false, false, false, false, false] rfl rfl (any_of HT_.out (by kernel_rfl)) (fun _ _ _ h => h) (Or.inl ⟨by rfl, ?_⟩) ?_ ?_
                        rotate_left
                        · intro w'
                          go_simp
                          with_reducible rfl
                        rotate_left
                        · simp only [Act.put, List.setIfInBounds_toArray, List.set_cons_zero, List.set_cons_succ, i64_w, i32_w]
                          rfl
                        refine pure_ (i := 20) (N := some 72) (v := ?_) (a' := ?_) #[true, true, true, true, true, true, true, true, true, true, true, true, true, true, true, true, true, true, true, true, true, false, false, false, false, false, false, false, false, false, false, false, false, false, false, false, false, false, false, false, false, false, false, false, false, false, false, false, false, false] rfl rfl (any_of HT_.out (by kernel_rfl)) (fun _ _ _ h => h) (Or.inl ⟨by rfl, ?_⟩) ?_ ?_
                        rotate_left
                        · intro w'
                          go_simp
                          with_reducible rfl
                        rotate_left
                        · simp only [Act.put, List.setIfInBounds_toArray, List.set_cons_zero, List.set_cons_succ, i64_w, i32_w]
                          rfl
                        refine pure_ (i := 21) (N := some 73) (v := ?_) (a' := ?_) #[true, true, true, true, true, true, true, true, true, true, true, true, true, true, true, true, true, true, true, true, true, true, false, false, false, false, false, false, false, false, false, false, false, false, false, false, false, false, false, false, false, false, false, false, false, false, false, false, false, false] rfl rfl (any_of HT_.out (by kernel_rfl)) (fun _ _ _ h => h) (Or.inl ⟨by rfl, ?_⟩) ?_ ?_
                        rotate_left
                        · intro w'
                          go_simp
                          with_reducible rfl
                        rotate_left
                        · simp only [Act.put, List.setIfInBounds_toArray, List.set_cons_zero, List.set_cons_succ, i64_w, i32_w]
                          rfl
                        refine pure_ (i := 22) (N := some 74) (v := ?_) (a' := ?_) #[true, true, true, true, true, true, true, true, true, true, true, true, true, true, true, true, true, true, true, true, true, true, true, false, false, false, false, false, false, false, false, false, false, false, false, false, false, false, false, false, false, false, false, false, false, false, false, false, false, false] rfl rfl (any_of HT_.out (by kernel_rfl)) (fun _ _ _ h => h) (Or.inl ⟨by rfl, ?_⟩) ?_ ?_
                        rotate_left
                        · intro w'
                          go_simp
                          with_reducible rfl
                        rotate_left
                        · simp only [Act.put, List.setIfInBounds_toArray, List.set_cons_zero, List.set_cons_succ, i64_w, i32_w]
                          rfl
                        refine pure_ (i := 23) (N := some 75) (v := ?_) (a' := ?_) #[true, true, true, true, true, true, true, true, true, true, true, true, true, true, true, true, true, true, true, true, true, true, true, true, false, false, false, false, false, false, false, false, false, false, false, false, false, false, false, false, false, false, false, false, false, false, false, false, false, false] rfl rfl (any_of HT_.out (by kernel_rfl)) (fun _ _ _ h => h) (Or.inl ⟨by rfl, ?_⟩) ?_ ?_
                        rotate_left
                        · intro w'
                          go_simp
                          with_reducible rfl
                        rotate_left
                        · simp only [Act.put, List.setIfInBounds_toArray, List.set_cons_zero, List.set_cons_succ, i64_w, i32_w]
                          rfl
                        refine pure_ (i := 24) (N := some 76) (v := ?_) (a' := ?_) #[true, true, true, true, true, true, true, true, true, true, true, true, true, true, true, true, true, true, true, true, true, true, true, true, true, false, false, false, false, false, false, false, false, false, false, false, false, false, false, false, false, false, false, false, false, false, false, false, false, false] rfl rfl (any_of HT_.out (by kernel_rfl)) (fun _ _ _ h => h) (Or.inl ⟨by rfl, ?_⟩) ?_ ?_
                        rotate_left
                        · intro w'
                          go_simp
                          with_reducible rfl
                        rotate_left
                        · simp only [Act.put, List.setIfInBounds_toArray, List.set_cons_zero, List.set_cons_succ, i64_w, i32_w]
                          rfl
                        refine pure_ (i := 25) (N := some 77) (v := ?_) (a' := ?_) #[true, true, true, true, true, true, true, true, true, true, true, true, true, true, true, true, true, true, true, true, true, true, true, true, true, true, false, false, false, false, false, false, false, false, false, false, false, false, false, false, false, false, false, false, false, false, false, false, false, false] rfl rfl (any_of HT_.out (by kernel_rfl)) (fun _ _ _ h => h) (Or.inl ⟨by rfl, ?_⟩) ?_ ?_
                        rotate_left
                        · intro w'
                          go_simp
                          with_reducible rfl
                        rotate_left
                        · simp only [Act.put, List.setIfInBounds_toArray, List.set_cons_zero, List.set_cons_succ, i64_w, i32_w]
                          rfl
                        refine pure_ (i := 26) (N := some 78) (v := ?_) (a' := ?_) #[true, true, true, true, true, true, true, true, true, true, true, true, true, true, true, true, true, true, true, true, true, true, true, true, true, true, true, false, false, false, false, false, false, false, false, false, false, false, false, false, false, false, false, false, false, false, false, false, false, false] rfl rfl (any_of HT_.out (by kernel_rfl)) (fun _ _ _ h => h) (Or.inl ⟨by rfl, ?_⟩) ?_ ?_
                        rotate_left
                        · intro w'
                          go_simp
                          with_reducible rfl
                        rotate_left
                        · simp only [Act.put, List.setIfInBounds_toArray, List.set_cons_zero, List.set_cons_succ, i64_w, i32_w]
                          rfl
                        refine pure_ (i := 27) (N := some 79) (v := ?_) (a' := ?_) #[true, true, true, true, true, true, true, true, true, true, true, true, true, true, true, true, true, true, true, true, true, true, true, true, true, true, true, true, false, false, false, false, false, false, false, false, false, false, false, false, false, false, false, false, false, false, false, false, false, false] rfl rfl (any_of HT_.out (by kernel_rfl)) (fun _ _ _ h => h) (Or.inl ⟨by rfl, ?_⟩) ?_ ?_
                        rotate_left
                        · intro w'
                          go_simp
                          with_reducible rfl
                        rotate_left
                        · simp only [Act.put, List.setIfInBounds_toArray, List.set_cons_zero, List.set_cons_succ, i64_w, i32_w]
                          rfl
                        refine pure_ (i := 28) (N := some 80) (v := ?_) (a' := ?_) #[true, true, true, true, true, true, true, true, true, true, true, true, true, true, true, true, true, true, true, true, true, true, true, true, true, true, true, true, true, false, false, false, false, false, false, false, false, false, false, false, false, false, false, false, false, false, false, false, false, false] rfl rfl (any_of HT_.out (by kernel_rfl)) (fun _ _ _ h => h) (Or.inl ⟨by rfl, ?_⟩) ?_ ?_
                        rotate_left
                        · intro w'
                          go_simp
                          with_reducible rfl
                        rotate_left
                        · simp only [Act.put, List.setIfInBounds_toArray, List.set_cons_zero, List.set_cons_succ, i64_w, i32_w]
                          rfl
                        refine pure_ (i := 29) (N := some 81) (v := ?_) (a' := ?_) #[true, true, true, true, true, true, true, true, true, true, true, true, true, true, true, true, true, true, true, true, true, true, true, true, true, true, true, true, true, true, false, false, false, false, false, false, false, false, false, false, false, false, false, false, false, false, false, false, false, false] rfl rfl (any_of HT_.out (by kernel_rfl)) (fun _ _ _ h => h) (Or.inl ⟨by rfl, ?_⟩) ?_ ?_
                        rotate_left
                        · intro w'
                          go_simp
                          with_reducible rfl
                        rotate_left
                        · simp only [Act.put, List.setIfInBounds_toArray, List.set_cons_zero, List.set_cons_succ, i64_w, i32_w]
                          rfl
                        refine pure_ (i := 32) (N := some 84) (v := ?_) (a' := ?_) #[true, true, true, true, true, true, true, true, true, true, true, true, true, true, true, true, true, true, true, true, true, true, true, true, true, true, true, true, true, true, false, false, true, false, false, false, false, false, false, false, false, false, false, false, false, false, false, false, false, false] rfl rfl (any_of HT_.out (by kernel_rfl)) (fun _ _ _ h => h) (Or.inl ⟨by rfl, ?_⟩) ?_ ?_
                        rotate_left
                        · intro w'
                          go_simp
                          with_reducible rfl
                        rotate_left
                        · simp only [Act.put, List.setIfInBounds_toArray, List.set_cons_zero, List.set_cons_succ, i64_w, i32_w]
                          rfl
                        refine one_ (i := 30) (N := some 82) #[true, true, true, true, true, true, true, true, true, true, true, true, true, true, true, true, true, true, true, true, true, true, true, true, true, true, true, true, true, true, true, false, true, false, false, false, false, false, false, false, false, false, false, false, false, false, false, false, false, false] rfl rfl (one_of HT_.out (by kernel_rfl)) (by decide) (fun K hK => ?_)
                        refine goes_ Try.func14 (by kernel_rfl) rfl #[.slice A1 l1.length c1] (by rfl) rfl rfl (by (try simp only [List.map_toArray, List.map_cons, List.map_nil]); first | done | rfl | (simp only [List.length_drop, List.length_take]; rfl)) ?_
                        with_reducible refine (utf8_Text.calls kj3 _ _ l1 t278 _ ?side1 ?side2 A20.out).mono ?_
                        (case side1 => repeat (first | exact (Kd.C_below HR1.out (by repeat (first | (with_reducible first | exact HB.out | apply below_alloc | apply pw_below_drewN | apply below_drew1) | exact HB.out))) | (with_reducible refine Kd.C_alloc ?_ _) | (with_reducible refine Kd.C_drewN ?_ _) | (with_reducible refine Kd.C_drew ?_)))
                        (case side2 => exact HC1.out)
                        rintro e w33 ⟨v279, rfl, ho0, hb⟩
                        refine ⟨_, rfl, ?_⟩
                        have n0_ := Aside0.mk (Kd.R_below (by (with_reducible repeat (first | apply Kd.R_alloc | apply Kd.R_drewN | apply Kd.R_drew)); exact HO271.out) hb)
                        have n1_ := Aside0.mk (Kd.R_below (by (with_reducible repeat (first | apply Kd.R_alloc | apply Kd.R_drewN | apply Kd.R_drew)); exact HO276.out) hb)
                        have n2_ := Aside0.mk (Kd.R_lower ho0 (below_size (by repeat (first | (with_reducible first | exact HB.out | apply below_alloc | apply pw_below_drewN | apply below_drew1) | exact HB.out))))
                        have n3_ := Aside0.mk (below_step (by repeat (first | (with_reducible first | exact HB.out | apply below_alloc | apply pw_below_drewN | apply below_drew1) | exact HB.out)) hb)
                        clear HO271
                        clear HO276
                        clear HB
                        have HO271 := n0_
                        have HO276 := n1_
                        have HO280 := n2_
                        have HB := n3_
                        clear n0_ n1_ n2_ n3_
                        (try clear hb)
                        (try clear hb2)
                        (try clear hk)
                        (try clear hi)
                        (try clear ho0)
                        refine hK.out _ _ trivial (fun hHeld => ?_)
                        clear hK K
                        refine norm_ (a' := ?_) ?_ ?_
                        rotate_left
                        · show Act.put _ (some 82) _ = _
                          simp only [Act.put, List.setIfInBounds_toArray, List.set_cons_zero, List.set_cons_succ, i64_w, i32_w]
                          rfl
                        refine join_ (σ := Value × Value × Value) 6 #[true, true, true, true, true, true, true, true, true, true, true, true, true, true, true, true, true, true, true, true, true, true, true, true, true, true, true, true, true, true, true, true, true, true, true, true, true, true, true, true, true, true, true, true, false, false, false, false, false, false] (fun s_ => [(83, .string (strOfNums t278)), (85, s_.1), (86, .string (strOfNums t281)), (91, s_.2.1), (92, .string (strOfNums t284)), (94, s_.2.2), (95, .string (strOfNums t287)), (87, .bool true), (88, .bool true), (89, .bool true), (90, .int .i32 a2), (93, .int .i32 a2)]) (fun s_ w' => (Kd.R (Kd.int .i32) 21 w' w.heap.size (fun k_ => some k_ ≠ (.slice Ao31 t272.length co31 : Value).ownBlock) (.slice Ao30 t267.length co30) t267) ∧ (Kd.R (Kd.int .i32) 21 w' w.heap.size (fun k_ => some k_ ≠ (.slice Ao30 t267.length co30 : Value).ownBlock) (.slice Ao31 t272.length co31) t272) ∧ (Kd.R (Kd.int .u8) 5 w' w.heap.size (fun k_ => some k_ ≠ (s_.1 : Value).ownBlock ∧ some k_ ≠ (s_.2.1 : Value).ownBlock ∧ some k_ ≠ (s_.2.2 : Value).ownBlock) v279 t278) ∧ (Kd.R (Kd.int .u8) 5 w' w.heap.size (fun k_ => some k_ ≠ (v279 : Value).ownBlock ∧ some k_ ≠ (s_.2.1 : Value).ownBlock ∧ some k_ ≠ (s_.2.2 : Value).ownBlock) s_.1 t281) ∧ (Kd.R (Kd.int .u8) 5 w' w.heap.size (fun k_ => some k_ ≠ (v279 : Value).ownBlock ∧ some k_ ≠ (s_.1 : Value).ownBlock ∧ some k_ ≠ (s_.2.2 : Value).ownBlock) s_.2.1 t284) ∧ (Kd.R (Kd.int .u8) 5 w' w.heap.size (fun k_ => some k_ ≠ (v279 : Value).ownBlock ∧ some k_ ≠ (s_.1 : Value).ownBlock ∧ some k_ ≠ (s_.2.1 : Value).ownBlock) s_.2.2 t287) ∧ (Below w.heap.size w w')) ?_ ?_
                        rotate_left
                        · intro hJ31_33_34_39_40_42_43
                          refine join_ (σ := Value × Value × Value) 7 #[true, true, true, true, true, true, true, true, true, true, true, true, true, true, true, true, true, true, true, true, true, true, true, true, true, true, true, true, true, true, true, true, true, true, true, true, true, true, true, true, true, true, true, false, false, false, false, false, false, false] (fun s_ => [(83, .string (strOfNums t278)), (85, s_.1), (86, .string (strOfNums t281)), (91, s_.2.1), (92, .string (strOfNums t284)), (94, s_.2.2), (87, .bool true), (88, .bool true), (89, .bool true), (90, .int .i32 a2), (93, .int .i32 a2)]) (fun s_ w' => (Kd.R (Kd.int .i32) 21 w' w.heap.size (fun k_ => some k_ ≠ (.slice Ao31 t272.length co31 : Value).ownBlock) (.slice Ao30 t267.length co30) t267) ∧ (Kd.R (Kd.int .i32) 21 w' w.heap.size (fun k_ => some k_ ≠ (.slice Ao30 t267.length co30 : Value).ownBlock) (.slice Ao31 t272.length co31) t272) ∧ (Kd.R (Kd.int .u8) 5 w' w.heap.size (fun k_ => some k_ ≠ (s_.1 : Value).ownBlock ∧ some k_ ≠ (s_.2.1 : Value).ownBlock ∧ some k_ ≠ (s_.2.2 : Value).ownBlock) v279 t278) ∧ (Kd.R (Kd.int .u8) 5 w' w.heap.size (fun k_ => some k_ ≠ (v279 : Value).ownBlock ∧ some k_ ≠ (s_.2.1 : Value).ownBlock ∧ some k_ ≠ (s_.2.2 : Value).ownBlock) s_.1 t281) ∧ (Kd.R (Kd.int .u8) 5 w' w.heap.size (fun k_ => some k_ ≠ (v279 : Value).ownBlock ∧ some k_ ≠ (s_.1 : Value).ownBlock ∧ some k_ ≠ (s_.2.2 : Value).ownBlock) s_.2.1 t284) ∧ (Kd.R (Kd.int .u8) 5 w' w.heap.size (fun k_ => some k_ ≠ (v279 : Value).ownBlock ∧ some k_ ≠ (s_.1 : Value).ownBlock ∧ some k_ ≠ (s_.2.1 : Value).ownBlock) s_.2.2 t287) ∧ (Below w.heap.size w w')) ?_ ?_
                          rotate_left
                          · intro hJ31_33_34_39_40_42
                            refine join_ (σ := Value × Value × Value) 7 #[true, true, true, true, true, true, true, true, true, true, true, true, true, true, true, true, true, true, true, true, true, true, true, true, true, true, true, true, true, true, true, true, true, true, true, true, true, true, true, true, false, true, true, true, false, false, false, false, false, false] (fun s_ => [(83, .string (strOfNums t278)), (85, s_.1), (86, .string (strOfNums t281)), (91, s_.2.1), (94, s_.2.2), (95, .string (strOfNums t287)), (87, .bool true), (88, .bool true), (89, .bool true), (90, .int .i32 a2), (93, .int .i32 a2)]) (fun s_ w' => (Kd.R (Kd.int .i32) 21 w' w.heap.size (fun k_ => some k_ ≠ (.slice Ao31 t272.length co31 : Value).ownBlock) (.slice Ao30 t267.length co30) t267) ∧ (Kd.R (Kd.int .i32) 21 w' w.heap.size (fun k_ => some k_ ≠ (.slice Ao30 t267.length co30 : Value).ownBlock) (.slice Ao31 t272.length co31) t272) ∧ (Kd.R (Kd.int .u8) 5 w' w.heap.size (fun k_ => some k_ ≠ (s_.1 : Value).ownBlock ∧ some k_ ≠ (s_.2.1 : Value).ownBlock ∧ some k_ ≠ (s_.2.2 : Value).ownBlock) v279 t278) ∧ (Kd.R (Kd.int .u8) 5 w' w.heap.size (fun k_ => some k_ ≠ (v279 : Value).ownBlock ∧ some k_ ≠ (s_.2.1 : Value).ownBlock ∧ some k_ ≠ (s_.2.2 : Value).ownBlock) s_.1 t281) ∧ (Kd.R (Kd.int .u8) 5 w' w.heap.size (fun k_ => some k_ ≠ (v279 : Value).ownBlock ∧ some k_ ≠ (s_.1 : Value).ownBlock ∧ some k_ ≠ (s_.2.2 : Value).ownBlock) s_.2.1 t284) ∧ (Kd.R (Kd.int .u8) 5 w' w.heap.size (fun k_ => some k_ ≠ (v279 : Value).ownBlock ∧ some k_ ≠ (s_.1 : Value).ownBlock ∧ some k_ ≠ (s_.2.1 : Value).ownBlock) s_.2.2 t287) ∧ (Below w.heap.size w w')) ?_ ?_
                            rotate_left
                            · intro hJ31_33_34_39_42_43
                              refine join_ (σ := Value × Value) 8 #[true, true, true, true, true, true, true, true, true, true, true, true, true, true, true, true, true, true, true, true, true, true, true, true, true, true, true, true, true, true, true, true, true, true, true, true, true, true, true, true, true, true, false, false, false, false, false, false, false, false] (fun s_ => [(83, .string (strOfNums t278)), (85, s_.1), (86, .string (strOfNums t281)), (91, s_.2), (92, .string (strOfNums t284)), (87, .bool true), (88, .bool true), (89, .bool true), (90, .int .i32 a2), (93, .int .i32 a2)]) (fun s_ w' => (Kd.R (Kd.int .i32) 21 w' w.heap.size (fun k_ => some k_ ≠ (.slice Ao31 t272.length co31 : Value).ownBlock) (.slice Ao30 t267.length co30) t267) ∧ (Kd.R (Kd.int .i32) 21 w' w.heap.size (fun k_ => some k_ ≠ (.slice Ao30 t267.length co30 : Value).ownBlock) (.slice Ao31 t272.length co31) t272) ∧ (Kd.R (Kd.int .u8) 5 w' w.heap.size (fun k_ => some k_ ≠ (s_.1 : Value).ownBlock ∧ some k_ ≠ (s_.2 : Value).ownBlock) v279 t278) ∧ (Kd.R (Kd.int .u8) 5 w' w.heap.size (fun k_ => some k_ ≠ (v279 : Value).ownBlock ∧ some k_ ≠ (s_.2 : Value).ownBlock) s_.1 t281) ∧ (Kd.R (Kd.int .u8) 5 w' w.heap.size (fun k_ => some k_ ≠ (v279 : Value).ownBlock ∧ some k_ ≠ (s_.1 : Value).ownBlock) s_.2 t284) ∧ (Below w.heap.size w w')) ?_ ?_
                              rotate_left
                              · intro hJ31_33_34_39_40
                                refine join_ (σ := Value × Value × Value) 8 #[true, true, true, true, true, true, true, true, true, true, true, true, true, true, true, true, true, true, true, true, true, true, true, true, true, true, true, true, true, true, true, true, true, true, true, true, true, true, true, true, false, true, true, false, false, false, false, false, false, false] (fun s_ => [(83, .string (strOfNums t278)), (85, s_.1), (86, .string (strOfNums t281)), (91, s_.2.1), (94, s_.2.2), (87, .bool true), (88, .bool true), (89, .bool true), (90, .int .i32 a2), (93, .int .i32 a2)]) (fun s_ w' => (Kd.R (Kd.int .i32) 21 w' w.heap.size (fun k_ => some k_ ≠ (.slice Ao31 t272.length co31 : Value).ownBlock) (.slice Ao30 t267.length co30) t267) ∧ (Kd.R (Kd.int .i32) 21 w' w.heap.size (fun k_ => some k_ ≠ (.slice Ao30 t267.length co30 : Value).ownBlock) (.slice Ao31 t272.length co31) t272) ∧ (Kd.R (Kd.int .u8) 5 w' w.heap.size (fun k_ => some k_ ≠ (s_.1 : Value).ownBlock ∧ some k_ ≠ (s_.2.1 : Value).ownBlock ∧ some k_ ≠ (s_.2.2 : Value).ownBlock) v279 t278) ∧ (Kd.R (Kd.int .u8) 5 w' w.heap.size (fun k_ => some k_ ≠ (v279 : Value).ownBlock ∧ some k_ ≠ (s_.2.1 : Value).ownBlock ∧ some k_ ≠ (s_.2.2 : Value).ownBlock) s_.1 t281) ∧ (Kd.R (Kd.int .u8) 5 w' w.heap.size (fun k_ => some k_ ≠ (v279 : Value).ownBlock ∧ some k_ ≠ (s_.1 : Value).ownBlock ∧ some k_ ≠ (s_.2.2 : Value).ownBlock) s_.2.1 t284) ∧ (Kd.R (Kd.int .u8) 5 w' w.heap.size (fun k_ => some k_ ≠ (v279 : Value).ownBlock ∧ some k_ ≠ (s_.1 : Value).ownBlock ∧ some k_ ≠ (s_.2.1 : Value).ownBlock) s_.2.2 t287) ∧ (Below w.heap.size w w')) ?_ ?_
                                rotate_left
                                · intro hJ31_33_34_39_42
                                  refine join_ (σ := Value × Value) 9 #[true, true, true, true, true, true, true, true, true, true, true, true, true, true, true, true, true, true, true, true, true, true, true, true, true, true, true, true, true, true, true, true, true, true, true, true, true, true, true, true, false, true, false, false, false, false, false, false, false, false] (fun s_ => [(83, .string (strOfNums t278)), (85, s_.1), (86, .string (strOfNums t281)), (91, s_.2), (87, .bool true), (88, .bool true), (89, .bool true), (90, .int .i32 a2), (93, .int .i32 a2)]) (fun s_ w' => (Kd.R (Kd.int .i32) 21 w' w.heap.size (fun k_ => some k_ ≠ (.slice Ao31 t272.length co31 : Value).ownBlock) (.slice Ao30 t267.length co30) t267) ∧ (Kd.R (Kd.int .i32) 21 w' w.heap.size (fun k_ => some k_ ≠ (.slice Ao30 t267.length co30 : Value).ownBlock) (.slice Ao31 t272.length co31) t272) ∧ (Kd.R (Kd.int .u8) 5 w' w.heap.size (fun k_ => some k_ ≠ (s_.1 : Value).ownBlock ∧ some k_ ≠ (s_.2 : Value).ownBlock) v279 t278) ∧ (Kd.R (Kd.int .u8) 5 w' w.heap.size (fun k_ => some k_ ≠ (v279 : Value).ownBlock ∧ some k_ ≠ (s_.2 : Value).ownBlock) s_.1 t281) ∧ (Kd.R (Kd.int .u8) 5 w' w.heap.size (fun k_ => some k_ ≠ (v279 : Value).ownBlock ∧ some k_ ≠ (s_.1 : Value).ownBlock) s_.2 t284) ∧ (Below w.heap.size w w')) ?_ ?_
                                  rotate_left
                                  · intro hJ31_33_34_39
                                    refine join_ (σ := Value) 10 #[true, true, true, true, true, true, true, true, true, true, true, true, true, true, true, true, true, true, true, true, true, true, true, true, true, true, true, true, true, true, true, true, true, true, true, true, true, true, true, false, false, true, false, false, false, false, false, false, false, false] (fun s_ => [(83, .string (strOfNums t278)), (85, s_), (86, .string (strOfNums t281)), (87, .bool true), (88, .bool true), (89, .bool true), (90, .int .i32 a2), (93, .int .i32 a2)]) (fun s_ w' => (Kd.R (Kd.int .i32) 21 w' w.heap.size (fun k_ => some k_ ≠ (.slice Ao31 t272.length co31 : Value).ownBlock) (.slice Ao30 t267.length co30) t267) ∧ (Kd.R (Kd.int .i32) 21 w' w.heap.size (fun k_ => some k_ ≠ (.slice Ao30 t267.length co30 : Value).ownBlock) (.slice Ao31 t272.length co31) t272) ∧ (Kd.R (Kd.int .u8) 5 w' w.heap.size (fun k_ => some k_ ≠ (s_ : Value).ownBlock) v279 t278) ∧ (Kd.R (Kd.int .u8) 5 w' w.heap.size (fun k_ => some k_ ≠ (v279 : Value).ownBlock) s_ t281) ∧ (Below w.heap.size w w')) ?_ ?_
                                    rotate_left
                                    · intro hJ31_33_34
                                      refine join_ (σ := Value) 16 #[true, true, true, true, true, true, true, true, true, true, true, true, true, true, true, true, true, true, true, true, true, true, true, true, true, true, true, true, true, true, true, true, true, true, false, false, false, false, false, false, false, false, false, false, false, false, false, false, false, false] (fun s_ => [(83, .string (strOfNums t278)), (85, s_)]) (fun s_ w' => (Kd.R (Kd.int .i32) 21 w' w.heap.size (fun k_ => some k_ ≠ (.slice Ao31 t272.length co31 : Value).ownBlock) (.slice Ao30 t267.length co30) t267) ∧ (Kd.R (Kd.int .i32) 21 w' w.heap.size (fun k_ => some k_ ≠ (.slice Ao30 t267.length co30 : Value).ownBlock) (.slice Ao31 t272.length co31) t272) ∧ (Kd.R (Kd.int .u8) 5 w' w.heap.size (fun k_ => some k_ ≠ (s_ : Value).ownBlock) v279 t278) ∧ (Kd.R (Kd.int .u8) 5 w' w.heap.size (fun k_ => some k_ ≠ (v279 : Value).ownBlock) s_ t281) ∧ (Below w.heap.size w w')) ?_ ?_
                                      rotate_left
                                      · intro hJ31_33
                                        refine join_ (σ := Value) 16 #[true, true, true, true, true, true, true, true, true, true, true, true, true, true, true, true, true, true, true, true, true, true, true, true, true, true, true, true, true, true, true, false, true, true, true, false, false, false, false, false, false, false, false, false, false, false, false, false, false, false] (fun s_ => [(85, s_), (86, .string (strOfNums t281))]) (fun s_ w' => (Kd.R (Kd.int .i32) 21 w' w.heap.size (fun k_ => some k_ ≠ (.slice Ao31 t272.length co31 : Value).ownBlock) (.slice Ao30 t267.length co30) t267) ∧ (Kd.R (Kd.int .i32) 21 w' w.heap.size (fun k_ => some k_ ≠ (.slice Ao30 t267.length co30 : Value).ownBlock) (.slice Ao31 t272.length co31) t272) ∧ (Kd.R (Kd.int .u8) 5 w' w.heap.size (fun k_ => some k_ ≠ (s_ : Value).ownBlock) v279 t278) ∧ (Kd.R (Kd.int .u8) 5 w' w.heap.size (fun k_ => some k_ ≠ (v279 : Value).ownBlock) s_ t281) ∧ (Below w.heap.size w w')) ?_ ?_
                                        rotate_left
                                        · intro hJ33_34
                                          refine join_ (σ := Unit) 17 #[true, true, true, true, true, true, true, true, true, true, true, true, true, true, true, true, true, true, true, true, true, true, true, true, true, true, true, true, true, true, true, true, true, false, false, false, false, false, false, false, false, false, false, false, false, false, false, false, false, false] (fun s_ => [(83, .string (strOfNums t278))]) (fun s_ w' => (Kd.R (Kd.int .i32) 21 w' w.heap.size (fun k_ => some k_ ≠ (.slice Ao31 t272.length co31 : Value).ownBlock) (.slice Ao30 t267.length co30) t267) ∧ (Kd.R (Kd.int .i32) 21 w' w.heap.size (fun k_ => some k_ ≠ (.slice Ao30 t267.length co30 : Value).ownBlock) (.slice Ao31 t272.length co31) t272) ∧ (Kd.R (Kd.int .u8) 5 w' w.heap.size (fun _ => True) v279 t278) ∧ (Below w.heap.size w w')) ?_ ?_
                                          rotate_left
                                          · intro hJ31
                                            refine join_ (σ := Value) 17 #[true, true, true, true, true, true, true, true, true, true, true, true, true, true, true, true, true, true, true, true, true, true, true, true, true, true, true, true, true, true, true, false, true, true, false, false, false, false, false, false, false, false, false, false, false, false, false, false, false, false] (fun s_ => [(85, s_)]) (fun s_ w' => (Kd.R (Kd.int .i32) 21 w' w.heap.size (fun k_ => some k_ ≠ (.slice Ao31 t272.length co31 : Value).ownBlock) (.slice Ao30 t267.length co30) t267) ∧ (Kd.R (Kd.int .i32) 21 w' w.heap.size (fun k_ => some k_ ≠ (.slice Ao30 t267.length co30 : Value).ownBlock) (.slice Ao31 t272.length co31) t272) ∧ (Kd.R (Kd.int .u8) 5 w' w.heap.size (fun k_ => some k_ ≠ (s_ : Value).ownBlock) v279 t278) ∧ (Kd.R (Kd.int .u8) 5 w' w.heap.size (fun k_ => some k_ ≠ (v279 : Value).ownBlock) s_ t281) ∧ (Below w.heap.size w w')) ?_ ?_
                                            rotate_left
                                            · intro hJ33
                                              refine two_ (i := 31) (j := 33) (Ni := some 83) (Nj := some 85) #[true, true, true, true, true, true, true, true, true, true, true, true, true, true, true, true, true, true, true, true, true, true, true, true, true, true, true, true, true, true, true, true, true, false, false, false, false, false, false, false, false, false, false, false, false, false, false, false, false, false] #[true, true, true, true, true, true, true, true, true, true, true, true, true, true, true, true, true, true, true, true, true, true, true, true, true, true, true, true, true, true, true, false, true, true, false, false, false, false, false, false, false, false, false, false, false, false, false, false, false, false] rfl rfl rfl rfl (two_of HT_.out (by kernel_rfl)) (by decide) (by decide) (fun K hK => ?_) (fun K hK => ?_)
                                              · skip
                                                have hcv34 := own_string (P := Try.prog) Try.underlying22 Try.underlying5 Try.underlying9 (Kd.own_of_R HO280.out)
                                                refine value_ (w1 := ?_) (v := ?_) (by rfl) rfl ?_ ?_
                                                rotate_left 2
                                                · go_simp
                                                  constructor
                                                  · rfl
                                                  · rfl
                                                clear hcv34
                                                refine hK.out _ _ trivial (fun hHeld => ?_)
                                                clear hK K
                                                refine norm_ (a' := ?_) ?_ ?_
                                                rotate_left
                                                · show Act.put _ (some 83) _ = _
                                                  simp only [Act.put, List.setIfInBounds_toArray, List.set_cons_zero, List.set_cons_succ, i64_w, i32_w]
                                                  rfl
                                                exact norm_ (by first | (simp only [putAll, Act.put, List.setIfInBounds_toArray, List.set_cons_zero, List.set_cons_succ]; done) | (simp only [putAll, Act.put, List.setIfInBounds_toArray, List.set_cons_zero, List.set_cons_succ]; rfl)) (hJ31 () _ ⟨(by (with_reducible repeat (first | apply Kd.R_alloc | apply Kd.R_drewN | apply Kd.R_drew)); exact Kd.R_mono HO271.out (fun _ hk => hk.2)), (by (with_reducible repeat (first | apply Kd.R_alloc | apply Kd.R_drewN | apply Kd.R_drew)); exact Kd.R_mono HO276.out (fun _ hk => hk.2)), (by (with_reducible repeat (first | apply Kd.R_alloc | apply Kd.R_drewN | apply Kd.R_drew)); exact HO280.out), (by repeat (first | (with_reducible first | exact HB.out | apply below_alloc | apply pw_below_drewN | apply below_drew1) | exact HB.out))⟩)
                                              · skip
                                                refine goes_ Try.func15 (by kernel_rfl) rfl #[.slice A1 l1.length c1] (by rfl) rfl rfl (by (try simp only [List.map_toArray, List.map_cons, List.map_nil]); first | done | rfl | (simp only [List.length_drop, List.length_take]; rfl)) ?_
                                                with_reducible refine (orthoepyref02_Text.calls kj3 _ _ l1 t281 _ ?side1 ?side2 A21.out).mono ?_
                                                (case side1 => repeat (first | exact (Kd.C_below HR1.out HB.out) | (with_reducible refine Kd.C_alloc ?_ _) | (with_reducible refine Kd.C_drewN ?_ _) | (with_reducible refine Kd.C_drew ?_)))
                                                (case side2 => exact HC1.out)
                                                rintro e w34 ⟨v282, rfl, ho0, hb⟩
                                                refine ⟨_, rfl, ?_⟩
                                                have n0_ := Aside0.mk (Kd.R_below (by (with_reducible repeat (first | apply Kd.R_alloc | apply Kd.R_drewN | apply Kd.R_drew)); exact HO271.out) hb)
                                                have n1_ := Aside0.mk (Kd.R_below (by (with_reducible repeat (first | apply Kd.R_alloc | apply Kd.R_drewN | apply Kd.R_drew)); exact HO276.out) hb)
                                                have n2_ := Aside0.mk (Kd.R_elder' (by (with_reducible repeat (first | apply Kd.R_alloc | apply Kd.R_drewN | apply Kd.R_drew)); exact HO280.out) (Kd.R_base ho0) hb)
                                                have n3_ := Aside0.mk (Kd.R_lower (Kd.R_new' ho0 (Kd.R_lt (by (with_reducible repeat (first | apply Kd.R_alloc | apply Kd.R_drewN | apply Kd.R_drew)); exact HO280.out))) (below_size (by repeat (first | (with_reducible first | exact HB.out | apply below_alloc | apply pw_below_drewN | apply below_drew1) | exact HB.out))))
                                                have n4_ := Aside0.mk (below_step (by repeat (first | (with_reducible first | exact HB.out | apply below_alloc | apply pw_below_drewN | apply below_drew1) | exact HB.out)) hb)
                                                clear HO271
                                                clear HO276
                                                clear HO280
                                                clear HB
                                                have HO271 := n0_
                                                have HO276 := n1_
                                                have HO280 := n2_
                                                have HO283 := n3_
                                                have HB := n4_
                                                clear n0_ n1_ n2_ n3_ n4_
                                                (try clear hb)
                                                (try clear hb2)
                                                (try clear hk)
                                                (try clear hi)
                                                (try clear ho0)
                                                refine hK.out _ _ trivial (fun hHeld => ?_)
                                                clear hK K
                                                refine norm_ (a' := ?_) ?_ ?_
                                                rotate_left
                                                · show Act.put _ (some 85) _ = _
                                                  simp only [Act.put, List.setIfInBounds_toArray, List.set_cons_zero, List.set_cons_succ, i64_w, i32_w]
                                                  rfl
                                                exact norm_ (by first | (simp only [putAll, Act.put, List.setIfInBounds_toArray, List.set_cons_zero, List.set_cons_succ]; done) | (simp only [putAll, Act.put, List.setIfInBounds_toArray, List.set_cons_zero, List.set_cons_succ]; rfl)) (hJ33 (v282) _ ⟨(by (with_reducible repeat (first | apply Kd.R_alloc | apply Kd.R_drewN | apply Kd.R_drew)); exact Kd.R_mono HO271.out (fun _ hk => hk.2)), (by (with_reducible repeat (first | apply Kd.R_alloc | apply Kd.R_drewN | apply Kd.R_drew)); exact Kd.R_mono HO276.out (fun _ hk => hk.2)), (by (with_reducible repeat (first | apply Kd.R_alloc | apply Kd.R_drewN | apply Kd.R_drew)); exact Kd.R_mono HO280.out (fun _ hk => hk.2)), (by (with_reducible repeat (first | apply Kd.R_alloc | apply Kd.R_drewN | apply Kd.R_drew)); exact Kd.R_mono HO283.out (fun _ hk => hk.2)), (by repeat (first | (with_reducible first | exact HB.out | apply below_alloc | apply pw_below_drewN | apply below_drew1) | exact HB.out))⟩)
                                            · skip
                                              rintro v282 w35 ⟨h0_, h1_, h2_, h3_, h4_⟩
                                              have n0_ : Aside0 (Kd.R (Kd.int .i32) 21 w35 w.heap.size (fun k_ => some k_ ≠ (.slice Ao31 t272.length co31 : Value).ownBlock) (.slice Ao30 t267.length co30) t267) := ⟨h0_⟩
                                              have n1_ : Aside0 (Kd.R (Kd.int .i32) 21 w35 w.heap.size (fun k_ => some k_ ≠ (.slice Ao30 t267.length co30 : Value).ownBlock) (.slice Ao31 t272.length co31) t272) := ⟨h1_⟩
                                              have n2_ : Aside0 (Kd.R (Kd.int .u8) 5 w35 w.heap.size (fun k_ => some k_ ≠ (v282 : Value).ownBlock) v279 t278) := ⟨h2_⟩
                                              have n3_ : Aside0 (Kd.R (Kd.int .u8) 5 w35 w.heap.size (fun k_ => some k_ ≠ (v279 : Value).ownBlock) v282 t281) := ⟨h3_⟩
                                              have n4_ : Aside0 (Below w.heap.size w w35) := ⟨h4_⟩
                                              clear HO271
                                              clear HO276
                                              clear HB
                                              clear h0_ h1_ h2_ h3_ h4_
                                              have HO271 := n0_
                                              have HO276 := n1_
                                              have HO280 := n2_
                                              have HO283 := n3_
                                              have HB := n4_
                                              clear n0_ n1_ n2_ n3_ n4_
                                              have hHeld := trivial
                                              refine norm_ (a' := ?_) ?_ ?_
                                              rotate_left
                                              · simp only [putAll, Act.put, List.setIfInBounds_toArray, List.set_cons_zero, List.set_cons_succ]
                                                rfl
                                              refine two_ (i := 31) (j := 34) (Ni := some 83) (Nj := some 86) #[true, true, true, true, true, true, true, true, true, true, true, true, true, true, true, true, true, true, true, true, true, true, true, true, true, true, true, true, true, true, true, true, true, true, false, false, false, false, false, false, false, false, false, false, false, false, false, false, false, false] #[true, true, true, true, true, true, true, true, true, true, true, true, true, true, true, true, true, true, true, true, true, true, true, true, true, true, true, true, true, true, true, false, true, true, true, false, false, false, false, false, false, false, false, false, false, false, false, false, false, false] rfl rfl rfl rfl (two_of HT_.out (by kernel_rfl)) (by decide) (by decide) (fun K hK => ?_) (fun K hK => ?_)
                                              · skip
                                                have hcv36 := own_string (P := Try.prog) Try.underlying22 Try.underlying5 Try.underlying9 (Kd.own_of_R HO280.out)
                                                refine value_ (w1 := ?_) (v := ?_) (by rfl) rfl ?_ ?_
                                                rotate_left 2
                                                · go_simp
                                                  constructor
                                                  · rfl
                                                  · rfl
                                                clear hcv36
                                                refine hK.out _ _ trivial (fun hHeld => ?_)
                                                clear hK K
                                                refine norm_ (a' := ?_) ?_ ?_
                                                rotate_left
                                                · show Act.put _ (some 83) _ = _
                                                  simp only [Act.put, List.setIfInBounds_toArray, List.set_cons_zero, List.set_cons_succ, i64_w, i32_w]
                                                  rfl
                                                exact norm_ (by first | (simp only [putAll, Act.put, List.setIfInBounds_toArray, List.set_cons_zero, List.set_cons_succ]; done) | (simp only [putAll, Act.put, List.setIfInBounds_toArray, List.set_cons_zero, List.set_cons_succ]; rfl)) (hJ31_33 (v282) _ ⟨(by (with_reducible repeat (first | apply Kd.R_alloc | apply Kd.R_drewN | apply Kd.R_drew)); exact HO271.out), (by (with_reducible repeat (first | apply Kd.R_alloc | apply Kd.R_drewN | apply Kd.R_drew)); exact HO276.out), (by (with_reducible repeat (first | apply Kd.R_alloc | apply Kd.R_drewN | apply Kd.R_drew)); exact HO280.out), (by (with_reducible repeat (first | apply Kd.R_alloc | apply Kd.R_drewN | apply Kd.R_drew)); exact HO283.out), (by repeat (first | (with_reducible first | exact HB.out | apply below_alloc | apply pw_below_drewN | apply below_drew1) | exact HB.out))⟩)
                                              · skip
                                                have hcv36 := own_string (P := Try.prog) Try.underlying22 Try.underlying5 Try.underlying9 (Kd.own_of_R HO283.out)
                                                refine value_ (w1 := ?_) (v := ?_) (by rfl) rfl ?_ ?_
                                                rotate_left 2
                                                · go_simp
                                                  constructor
                                                  · rfl
                                                  · rfl
                                                clear hcv36
                                                refine hK.out _ _ trivial (fun hHeld => ?_)
                                                clear hK K
                                                refine norm_ (a' := ?_) ?_ ?_
                                                rotate_left
                                                · show Act.put _ (some 86) _ = _
                                                  simp only [Act.put, List.setIfInBounds_toArray, List.set_cons_zero, List.set_cons_succ, i64_w, i32_w]
                                                  rfl
                                                exact norm_ (by first | (simp only [putAll, Act.put, List.setIfInBounds_toArray, List.set_cons_zero, List.set_cons_succ]; done) | (simp only [putAll, Act.put, List.setIfInBounds_toArray, List.set_cons_zero, List.set_cons_succ]; rfl)) (hJ33_34 (v282) _ ⟨(by (with_reducible repeat (first | apply Kd.R_alloc | apply Kd.R_drewN | apply Kd.R_drew)); exact HO271.out), (by (with_reducible repeat (first | apply Kd.R_alloc | apply Kd.R_drewN | apply Kd.R_drew)); exact HO276.out), (by (with_reducible repeat (first | apply Kd.R_alloc | apply Kd.R_drewN | apply Kd.R_drew)); exact HO280.out), (by (with_reducible repeat (first | apply Kd.R_alloc | apply Kd.R_drewN | apply Kd.R_drew)); exact HO283.out), (by repeat (first | (with_reducible first | exact HB.out | apply below_alloc | apply pw_below_drewN | apply below_drew1) | exact HB.out))⟩)
                                          · skip
                                            rintro _ w35 ⟨h0_, h1_, h2_, h3_⟩
                                            have n0_ : Aside0 (Kd.R (Kd.int .i32) 21 w35 w.heap.size (fun k_ => some k_ ≠ (.slice Ao31 t272.length co31 : Value).ownBlock) (.slice Ao30 t267.length co30) t267) := ⟨h0_⟩
                                            have n1_ : Aside0 (Kd.R (Kd.int .i32) 21 w35 w.heap.size (fun k_ => some k_ ≠ (.slice Ao30 t267.length co30 : Value).ownBlock) (.slice Ao31 t272.length co31) t272) := ⟨h1_⟩
                                            have n2_ : Aside0 (Kd.R (Kd.int .u8) 5 w35 w.heap.size (fun _ => True) v279 t278) := ⟨h2_⟩
                                            have n3_ : Aside0 (Below w.heap.size w w35) := ⟨h3_⟩
                                            clear HO271
                                            clear HO276
                                            clear HB
                                            clear h0_ h1_ h2_ h3_
                                            have HO271 := n0_
                                            have HO276 := n1_
                                            have HO280 := n2_
                                            have HB := n3_
                                            clear n0_ n1_ n2_ n3_
                                            have hHeld := trivial
                                            refine norm_ (a' := ?_) ?_ ?_
                                            rotate_left
                                            · simp only [putAll, Act.put, List.setIfInBounds_toArray, List.set_cons_zero, List.set_cons_succ]
                                              rfl
                                            refine one_ (i := 33) (N := some 85) #[true, true, true, true, true, true, true, true, true, true, true, true, true, true, true, true, true, true, true, true, true, true, true, true, true, true, true, true, true, true, true, true, true, true, false, false, false, false, false, false, false, false, false, false, false, false, false, false, false, false] rfl rfl (one_of HT_.out (by kernel_rfl)) (by decide) (fun K hK => ?_)
                                            refine goes_ Try.func15 (by kernel_rfl) rfl #[.slice A1 l1.length c1] (by rfl) rfl rfl (by (try simp only [List.map_toArray, List.map_cons, List.map_nil]); first | done | rfl | (simp only [List.length_drop, List.length_take]; rfl)) ?_
                                            with_reducible refine (orthoepyref02_Text.calls kj3 _ _ l1 t281 _ ?side1 ?side2 A21.out).mono ?_
                                            (case side1 => repeat (first | exact (Kd.C_below HR1.out HB.out) | (with_reducible refine Kd.C_alloc ?_ _) | (with_reducible refine Kd.C_drewN ?_ _) | (with_reducible refine Kd.C_drew ?_)))
                                            (case side2 => exact HC1.out)
                                            rintro e w36 ⟨v282, rfl, ho0, hb⟩
                                            refine ⟨_, rfl, ?_⟩
                                            have n0_ := Aside0.mk (Kd.R_below (by (with_reducible repeat (first | apply Kd.R_alloc | apply Kd.R_drewN | apply Kd.R_drew)); exact HO271.out) hb)
                                            have n1_ := Aside0.mk (Kd.R_below (by (with_reducible repeat (first | apply Kd.R_alloc | apply Kd.R_drewN | apply Kd.R_drew)); exact HO276.out) hb)
                                            have n2_ := Aside0.mk (Kd.R_elder' (by (with_reducible repeat (first | apply Kd.R_alloc | apply Kd.R_drewN | apply Kd.R_drew)); exact HO280.out) (Kd.R_base ho0) hb)
                                            have n3_ := Aside0.mk (Kd.R_lower (Kd.R_new' ho0 (Kd.R_lt (by (with_reducible repeat (first | apply Kd.R_alloc | apply Kd.R_drewN | apply Kd.R_drew)); exact HO280.out))) (below_size (by repeat (first | (with_reducible first | exact HB.out | apply below_alloc | apply pw_below_drewN | apply below_drew1) | exact HB.out))))
                                            have n4_ := Aside0.mk (below_step (by repeat (first | (with_reducible first | exact HB.out | apply below_alloc | apply pw_below_drewN | apply below_drew1) | exact HB.out)) hb)
                                            clear HO271
                                            clear HO276
                                            clear HO280
                                            clear HB
                                            have HO271 := n0_
                                            have HO276 := n1_
                                            have HO280 := n2_
                                            have HO283 := n3_
                                            have HB := n4_
                                            clear n0_ n1_ n2_ n3_ n4_
                                            (try clear hb)
                                            (try clear hb2)
                                            (try clear hk)
                                            (try clear hi)
                                            (try clear ho0)
                                            refine hK.out _ _ trivial (fun hHeld => ?_)
                                            clear hK K
                                            refine norm_ (a' := ?_) ?_ ?_
                                            rotate_left
                                            · show Act.put _ (some 85) _ = _
                                              simp only [Act.put, List.setIfInBounds_toArray, List.set_cons_zero, List.set_cons_succ, i64_w, i32_w]
                                              rfl
                                            exact norm_ (by first | (simp only [putAll, Act.put, List.setIfInBounds_toArray, List.set_cons_zero, List.set_cons_succ]; done) | (simp only [putAll, Act.put, List.setIfInBounds_toArray, List.set_cons_zero, List.set_cons_succ]; rfl)) (hJ31_33 (v282) _ ⟨(by (with_reducible repeat (first | apply Kd.R_alloc | apply Kd.R_drewN | apply Kd.R_drew)); exact HO271.out), (by (with_reducible repeat (first | apply Kd.R_alloc | apply Kd.R_drewN | apply Kd.R_drew)); exact HO276.out), (by (with_reducible repeat (first | apply Kd.R_alloc | apply Kd.R_drewN | apply Kd.R_drew)); exact Kd.R_mono HO280.out (fun _ hk => hk.2)), (by (with_reducible repeat (first | apply Kd.R_alloc | apply Kd.R_drewN | apply Kd.R_drew)); exact Kd.R_mono HO283.out (fun _ hk => hk.2)), (by repeat (first | (with_reducible first | exact HB.out | apply below_alloc | apply pw_below_drewN | apply below_drew1) | exact HB.out))⟩)
                                        · skip
                                          rintro v282 w36 ⟨h0_, h1_, h2_, h3_, h4_⟩
                                          have n0_ : Aside0 (Kd.R (Kd.int .i32) 21 w36 w.heap.size (fun k_ => some k_ ≠ (.slice Ao31 t272.length co31 : Value).ownBlock) (.slice Ao30 t267.length co30) t267) := ⟨h0_⟩
                                          have n1_ : Aside0 (Kd.R (Kd.int .i32) 21 w36 w.heap.size (fun k_ => some k_ ≠ (.slice Ao30 t267.length co30 : Value).ownBlock) (.slice Ao31 t272.length co31) t272) := ⟨h1_⟩
                                          have n2_ : Aside0 (Kd.R (Kd.int .u8) 5 w36 w.heap.size (fun k_ => some k_ ≠ (v282 : Value).ownBlock) v279 t278) := ⟨h2_⟩
                                          have n3_ : Aside0 (Kd.R (Kd.int .u8) 5 w36 w.heap.size (fun k_ => some k_ ≠ (v279 : Value).ownBlock) v282 t281) := ⟨h3_⟩
                                          have n4_ : Aside0 (Below w.heap.size w w36) := ⟨h4_⟩
                                          clear HO271
                                          clear HO276
                                          clear HB
                                          clear h0_ h1_ h2_ h3_ h4_
                                          have HO271 := n0_
                                          have HO276 := n1_
                                          have HO280 := n2_
                                          have HO283 := n3_
                                          have HB := n4_
                                          clear n0_ n1_ n2_ n3_ n4_
                                          have hHeld := trivial
                                          refine norm_ (a' := ?_) ?_ ?_
                                          rotate_left
                                          · simp only [putAll, Act.put, List.setIfInBounds_toArray, List.set_cons_zero, List.set_cons_succ]
                                            rfl
                                          refine one_ (i := 31) (N := some 83) #[true, true, true, true, true, true, true, true, true, true, true, true, true, true, true, true, true, true, true, true, true, true, true, true, true, true, true, true, true, true, true, true, true, true, true, false, false, false, false, false, false, false, false, false, false, false, false, false, false, false] rfl rfl (one_of HT_.out (by kernel_rfl)) (by decide) (fun K hK => ?_)
                                          have hcv37 := own_string (P := Try.prog) Try.underlying22 Try.underlying5 Try.underlying9 (Kd.own_of_R HO280.out)
                                          refine value_ (w1 := ?_) (v := ?_) (by rfl) rfl ?_ ?_
                                          rotate_left 2
                                          · go_simp
                                            constructor
                                            · rfl
                                            · rfl
                                          clear hcv37
                                          refine hK.out _ _ trivial (fun hHeld => ?_)
                                          clear hK K
                                          refine norm_ (a' := ?_) ?_ ?_
                                          rotate_left
                                          · show Act.put _ (some 83) _ = _
                                            simp only [Act.put, List.setIfInBounds_toArray, List.set_cons_zero, List.set_cons_succ, i64_w, i32_w]
                                            rfl
                                          refine pure_ (i := 35) (N := some 87) (v := ?_) (a' := ?_) #[true, true, true, true, true, true, true, true, true, true, true, true, true, true, true, true, true, true, true, true, true, true, true, true, true, true, true, true, true, true, true, true, true, true, true, true, false, false, false, false, false, false, false, false, false, false, false, false, false, false] rfl rfl (any_of HT_.out (by kernel_rfl)) (fun _ _ _ h => h) (Or.inl ⟨by rfl, ?_⟩) ?_ ?_
                                          rotate_left
                                          · intro w'
                                            go_simp
                                            with_reducible rfl
                                          rotate_left
                                          · simp only [Act.put, List.setIfInBounds_toArray, List.set_cons_zero, List.set_cons_succ, i64_w, i32_w]
                                            rfl
                                          refine pure_ (i := 36) (N := some 88) (v := ?_) (a' := ?_) #[true, true, true, true, true, true, true, true, true, true, true, true, true, true, true, true, true, true, true, true, true, true, true, true, true, true, true, true, true, true, true, true, true, true, true, true, true, false, false, false, false, false, false, false, false, false, false, false, false, false] rfl rfl (any_of HT_.out (by kernel_rfl)) (fun _ _ _ h => h) (Or.inl ⟨by rfl, ?_⟩) ?_ ?_
                                          rotate_left
                                          · intro w'
                                            go_simp
                                            with_reducible rfl
                                          rotate_left
                                          · simp only [Act.put, List.setIfInBounds_toArray, List.set_cons_zero, List.set_cons_succ, i64_w, i32_w]
                                            rfl
                                          refine pure_ (i := 37) (N := some 89) (v := ?_) (a' := ?_) #[true, true, true, true, true, true, true, true, true, true, true, true, true, true, true, true, true, true, true, true, true, true, true, true, true, true, true, true, true, true, true, true, true, true, true, true, true, true, false, false, false, false, false, false, false, false, false, false, false, false] rfl rfl (any_of HT_.out (by kernel_rfl)) (fun _ _ _ h => h) (Or.inl ⟨by rfl, ?_⟩) ?_ ?_
                                          rotate_left
                                          · intro w'
                                            go_simp
                                            with_reducible rfl
                                          rotate_left
                                          · simp only [Act.put, List.setIfInBounds_toArray, List.set_cons_zero, List.set_cons_succ, i64_w, i32_w]
                                            rfl
                                          refine pure_ (i := 38) (N := some 90) (v := ?_) (a' := ?_) #[true, true, true, true, true, true, true, true, true, true, true, true, true, true, true, true, true, true, true, true, true, true, true, true, true, true, true, true, true, true, true, true, true, true, true, true, true, true, true, false, false, false, false, false, false, false, false, false, false, false] rfl rfl (any_of HT_.out (by kernel_rfl)) (fun _ _ _ h => h) (Or.inl ⟨by rfl, ?_⟩) ?_ ?_
                                          rotate_left
                                          · intro w'
                                            go_simp
                                            with_reducible rfl
                                          rotate_left
                                          · simp only [Act.put, List.setIfInBounds_toArray, List.set_cons_zero, List.set_cons_succ, i64_w, i32_w]
                                            rfl
                                          refine pure_ (i := 41) (N := some 93) (v := ?_) (a' := ?_) #[true, true, true, true, true, true, true, true, true, true, true, true, true, true, true, true, true, true, true, true, true, true, true, true, true, true, true, true, true, true, true, true, true, true, true, true, true, true, true, false, false, true, false, false, false, false, false, false, false, false] rfl rfl (any_of HT_.out (by kernel_rfl)) (fun _ _ _ h => h) (Or.inl ⟨by rfl, ?_⟩) ?_ ?_
                                          rotate_left
                                          · intro w'
                                            go_simp
                                            with_reducible rfl
                                          rotate_left
                                          · simp only [Act.put, List.setIfInBounds_toArray, List.set_cons_zero, List.set_cons_succ, i64_w, i32_w]
                                            rfl
                                          exact norm_ (by first | (simp only [putAll, Act.put, List.setIfInBounds_toArray, List.set_cons_zero, List.set_cons_succ]; done) | (simp only [putAll, Act.put, List.setIfInBounds_toArray, List.set_cons_zero, List.set_cons_succ]; rfl)) (hJ31_33_34 (v282) _ ⟨(by (with_reducible repeat (first | apply Kd.R_alloc | apply Kd.R_drewN | apply Kd.R_drew)); exact HO271.out), (by (with_reducible repeat (first | apply Kd.R_alloc | apply Kd.R_drewN | apply Kd.R_drew)); exact HO276.out), (by (with_reducible repeat (first | apply Kd.R_alloc | apply Kd.R_drewN | apply Kd.R_drew)); exact HO280.out), (by (with_reducible repeat (first | apply Kd.R_alloc | apply Kd.R_drewN | apply Kd.R_drew)); exact HO283.out), (by repeat (first | (with_reducible first | exact HB.out | apply below_alloc | apply pw_below_drewN | apply below_drew1) | exact HB.out))⟩)
                                      · skip
                                        rintro v282 w36 ⟨h0_, h1_, h2_, h3_, h4_⟩
                                        have n0_ : Aside0 (Kd.R (Kd.int .i32) 21 w36 w.heap.size (fun k_ => some k_ ≠ (.slice Ao31 t272.length co31 : Value).ownBlock) (.slice Ao30 t267.length co30) t267) := ⟨h0_⟩
                                        have n1_ : Aside0 (Kd.R (Kd.int .i32) 21 w36 w.heap.size (fun k_ => some k_ ≠ (.slice Ao30 t267.length co30 : Value).ownBlock) (.slice Ao31 t272.length co31) t272) := ⟨h1_⟩
                                        have n2_ : Aside0 (Kd.R (Kd.int .u8) 5 w36 w.heap.size (fun k_ => some k_ ≠ (v282 : Value).ownBlock) v279 t278) := ⟨h2_⟩
                                        have n3_ : Aside0 (Kd.R (Kd.int .u8) 5 w36 w.heap.size (fun k_ => some k_ ≠ (v279 : Value).ownBlock) v282 t281) := ⟨h3_⟩
                                        have n4_ : Aside0 (Below w.heap.size w w36) := ⟨h4_⟩
                                        clear HO271
                                        clear HO276
                                        clear HB
                                        clear h0_ h1_ h2_ h3_ h4_
                                        have HO271 := n0_
                                        have HO276 := n1_
                                        have HO280 := n2_
                                        have HO283 := n3_
                                        have HB := n4_
                                        clear n0_ n1_ n2_ n3_ n4_
                                        have hHeld := trivial
                                        refine norm_ (a' := ?_) ?_ ?_
                                        rotate_left
                                        · simp only [putAll, Act.put, List.setIfInBounds_toArray, List.set_cons_zero, List.set_cons_succ]
                                          rfl
                                        refine one_ (i := 34) (N := some 86) #[true, true, true, true, true, true, true, true, true, true, true, true, true, true, true, true, true, true, true, true, true, true, true, true, true, true, true, true, true, true, true, true, true, true, true, false, false, false, false, false, false, false, false, false, false, false, false, false, false, false] rfl rfl (one_of HT_.out (by kernel_rfl)) (by decide) (fun K hK => ?_)
                                        have hcv37 := own_string (P := Try.prog) Try.underlying22 Try.underlying5 Try.underlying9 (Kd.own_of_R HO283.out)
                                        refine value_ (w1 := ?_) (v := ?_) (by rfl) rfl ?_ ?_
                                        rotate_left 2
                                        · go_simp
                                          constructor
                                          · rfl
                                          · rfl
                                        clear hcv37
                                        refine hK.out _ _ trivial (fun hHeld => ?_)
                                        clear hK K
                                        refine norm_ (a' := ?_) ?_ ?_
                                        rotate_left
                                        · show Act.put _ (some 86) _ = _
                                          simp only [Act.put, List.setIfInBounds_toArray, List.set_cons_zero, List.set_cons_succ, i64_w, i32_w]
                                          rfl
                                        refine pure_ (i := 35) (N := some 87) (v := ?_) (a' := ?_) #[true, true, true, true, true, true, true, true, true, true, true, true, true, true, true, true, true, true, true, true, true, true, true, true, true, true, true, true, true, true, true, true, true, true, true, true, false, false, false, false, false, false, false, false, false, false, false, false, false, false] rfl rfl (any_of HT_.out (by kernel_rfl)) (fun _ _ _ h => h) (Or.inl ⟨by rfl, ?_⟩) ?_ ?_
                                        rotate_left
                                        · intro w'
                                          go_simp
                                          with_reducible rfl
                                        rotate_left
                                        · simp only [Act.put, List.setIfInBounds_toArray, List.set_cons_zero, List.set_cons_succ, i64_w, i32_w]
                                          rfl
                                        refine pure_ (i := 36) (N := some 88) (v := ?_) (a' := ?_) #[true, true, true, true, true, true, true, true, true, true, true, true, true, true, true, true, true, true, true, true, true, true, true, true, true, true, true, true, true, true, true, true, true, true, true, true, true, false, false, false, false, false, false, false, false, false, false, false, false, false] rfl rfl (any_of HT_.out (by kernel_rfl)) (fun _ _ _ h => h) (Or.inl ⟨by rfl, ?_⟩) ?_ ?_
                                        rotate_left
                                        · intro w'
                                          go_simp
                                          with_reducible rfl
                                        rotate_left
                                        · simp only [Act.put, List.setIfInBounds_toArray, List.set_cons_zero, List.set_cons_succ, i64_w, i32_w]
                                          rfl
                                        refine pure_ (i := 37) (N := some 89) (v := ?_) (a' := ?_) #[true, true, true, true, true, true, true, true, true, true, true, true, true, true, true, true, true, true, true, true, true, true, true, true, true, true, true, true, true, true, true, true, true, true, true, true, true, true, false, false, false, false, false, false, false, false, false, false, false, false] rfl rfl (any_of HT_.out (by kernel_rfl)) (fun _ _ _ h => h) (Or.inl ⟨by rfl, ?_⟩) ?_ ?_
                                        rotate_left
                                        · intro w'
                                          go_simp
                                          with_reducible rfl
                                        rotate_left
                                        · simp only [Act.put, List.setIfInBounds_toArray, List.set_cons_zero, List.set_cons_succ, i64_w, i32_w]
                                          rfl
                                        refine pure_ (i := 38) (N := some 90) (v := ?_) (a' := ?_) #[true, true, true, true, true, true, true, true, true, true, true, true, true, true, true, true, true, true, true, true, true, true, true, true, true, true, true, true, true, true, true, true, true, true, true, true, true, true, true, false, false, false, false, false, false, false, false, false, false, false] rfl rfl (any_of HT_.out (by kernel_rfl)) (fun _ _ _ h => h) (Or.inl ⟨by rfl, ?_⟩) ?_ ?_
                                        rotate_left
                                        · intro w'
                                          go_simp
                                          with_reducible rfl
                                        rotate_left
                                        · simp only [Act.put, List.setIfInBounds_toArray, List.set_cons_zero, List.set_cons_succ, i64_w, i32_w]
                                          rfl
                                        refine pure_ (i := 41) (N := some 93) (v := ?_) (a' := ?_) #[true, true, true, true, true, true, true, true, true, true, true, true, true, true, true, true, true, true, true, true, true, true, true, true, true, true, true, true, true, true, true, true, true, true, true, true, true, true, true, false, false, true, false, false, false, false, false, false, false, false] rfl rfl (any_of HT_.out (by kernel_rfl)) (fun _ _ _ h => h) (Or.inl ⟨by rfl, ?_⟩) ?_ ?_
                                        rotate_left
                                        · intro w'
                                          go_simp
                                          with_reducible rfl
                                        rotate_left
                                        · simp only [Act.put, List.setIfInBounds_toArray, List.set_cons_zero, List.set_cons_succ, i64_w, i32_w]
                                          rfl
                                        exact norm_ (by first | (simp only [putAll, Act.put, List.setIfInBounds_toArray, List.set_cons_zero, List.set_cons_succ]; done) | (simp only [putAll, Act.put, List.setIfInBounds_toArray, List.set_cons_zero, List.set_cons_succ]; rfl)) (hJ31_33_34 (v282) _ ⟨(by (with_reducible repeat (first | apply Kd.R_alloc | apply Kd.R_drewN | apply Kd.R_drew)); exact HO271.out), (by (with_reducible repeat (first | apply Kd.R_alloc | apply Kd.R_drewN | apply Kd.R_drew)); exact HO276.out), (by (with_reducible repeat (first | apply Kd.R_alloc | apply Kd.R_drewN | apply Kd.R_drew)); exact HO280.out), (by (with_reducible repeat (first | apply Kd.R_alloc | apply Kd.R_drewN | apply Kd.R_drew)); exact HO283.out), (by repeat (first | (with_reducible first | exact HB.out | apply below_alloc | apply pw_below_drewN | apply below_drew1) | exact HB.out))⟩)
                                    · skip
                                      rintro v282 w37 ⟨h0_, h1_, h2_, h3_, h4_⟩
                                      have n0_ : Aside0 (Kd.R (Kd.int .i32) 21 w37 w.heap.size (fun k_ => some k_ ≠ (.slice Ao31 t272.length co31 : Value).ownBlock) (.slice Ao30 t267.length co30) t267) := ⟨h0_⟩
                                      have n1_ : Aside0 (Kd.R (Kd.int .i32) 21 w37 w.heap.size (fun k_ => some k_ ≠ (.slice Ao30 t267.length co30 : Value).ownBlock) (.slice Ao31 t272.length co31) t272) := ⟨h1_⟩
                                      have n2_ : Aside0 (Kd.R (Kd.int .u8) 5 w37 w.heap.size (fun k_ => some k_ ≠ (v282 : Value).ownBlock) v279 t278) := ⟨h2_⟩
                                      have n3_ : Aside0 (Kd.R (Kd.int .u8) 5 w37 w.heap.size (fun k_ => some k_ ≠ (v279 : Value).ownBlock) v282 t281) := ⟨h3_⟩
                                      have n4_ : Aside0 (Below w.heap.size w w37) := ⟨h4_⟩
                                      clear HO271
                                      clear HO276
                                      clear HB
                                      clear h0_ h1_ h2_ h3_ h4_
                                      have HO271 := n0_
                                      have HO276 := n1_
                                      have HO280 := n2_
                                      have HO283 := n3_
                                      have HB := n4_
                                      clear n0_ n1_ n2_ n3_ n4_
                                      have hHeld := trivial
                                      refine norm_ (a' := ?_) ?_ ?_
                                      rotate_left
                                      · simp only [putAll, Act.put, List.setIfInBounds_toArray, List.set_cons_zero, List.set_cons_succ]
                                        rfl
                                      refine one_ (i := 39) (N := some 91) #[true, true, true, true, true, true, true, true, true, true, true, true, true, true, true, true, true, true, true, true, true, true, true, true, true, true, true, true, true, true, true, true, true, true, true, true, true, true, true, true, false, true, false, false, false, false, false, false, false, false] rfl rfl (one_of HT_.out (by kernel_rfl)) (by decide) (fun K hK => ?_)
                                      refine goes_ Try.func16 (by kernel_rfl) rfl #[.int .i32 a2] (by rfl) rfl rfl (by (try simp only [List.map_toArray, List.map_cons, List.map_nil]); first | done | rfl | (simp only [List.length_drop, List.length_take]; rfl)) ?_
                                      with_reducible refine (utf8_Bytes.calls a2 t284 _ A23.out).mono ?_
                                      rintro e w38 ⟨v285, rfl, ho0, hb⟩
                                      refine ⟨_, rfl, ?_⟩
                                      have n0_ := Aside0.mk (Kd.R_below (by (with_reducible repeat (first | apply Kd.R_alloc | apply Kd.R_drewN | apply Kd.R_drew)); exact HO271.out) hb)
                                      have n1_ := Aside0.mk (Kd.R_below (by (with_reducible repeat (first | apply Kd.R_alloc | apply Kd.R_drewN | apply Kd.R_drew)); exact HO276.out) hb)
                                      have n2_ := Aside0.mk (Kd.R_elder' (by (with_reducible repeat (first | apply Kd.R_alloc | apply Kd.R_drewN | apply Kd.R_drew)); exact HO280.out) (Kd.R_base ho0) hb)
                                      have n3_ := Aside0.mk (Kd.R_elder' (by (with_reducible repeat (first | apply Kd.R_alloc | apply Kd.R_drewN | apply Kd.R_drew)); exact HO283.out) (Kd.R_base ho0) hb)
                                      have n4_ := Aside0.mk (Kd.R_lower (Kd.R_new' (Kd.R_new' ho0 (Kd.R_lt (by (with_reducible repeat (first | apply Kd.R_alloc | apply Kd.R_drewN | apply Kd.R_drew)); exact HO280.out))) (Kd.R_lt (by (with_reducible repeat (first | apply Kd.R_alloc | apply Kd.R_drewN | apply Kd.R_drew)); exact HO283.out))) (below_size (by repeat (first | (with_reducible first | exact HB.out | apply below_alloc | apply pw_below_drewN | apply below_drew1) | exact HB.out))))
                                      have n5_ := Aside0.mk (below_step (by repeat (first | (with_reducible first | exact HB.out | apply below_alloc | apply pw_below_drewN | apply below_drew1) | exact HB.out)) hb)
                                      clear HO271
                                      clear HO276
                                      clear HO280
                                      clear HO283
                                      clear HB
                                      have HO271 := n0_
                                      have HO276 := n1_
                                      have HO280 := n2_
                                      have HO283 := n3_
                                      have HO286 := n4_
                                      have HB := n5_
                                      clear n0_ n1_ n2_ n3_ n4_ n5_
                                      (try clear hb)
                                      (try clear hb2)
                                      (try clear hk)
                                      (try clear hi)
                                      (try clear ho0)
                                      refine hK.out _ _ trivial (fun hHeld => ?_)
                                      clear hK K
                                      refine norm_ (a' := ?_) ?_ ?_
                                      rotate_left
                                      · show Act.put _ (some 91) _ = _
                                        simp only [Act.put, List.setIfInBounds_toArray, List.set_cons_zero, List.set_cons_succ, i64_w, i32_w]
                                        rfl
                                      exact norm_ (by first | (simp only [putAll, Act.put, List.setIfInBounds_toArray, List.set_cons_zero, List.set_cons_succ]; done) | (simp only [putAll, Act.put, List.setIfInBounds_toArray, List.set_cons_zero, List.set_cons_succ]; rfl)) (hJ31_33_34_39 (v282, v285) _ ⟨(by (with_reducible repeat (first | apply Kd.R_alloc | apply Kd.R_drewN | apply Kd.R_drew)); exact HO271.out), (by (with_reducible repeat (first | apply Kd.R_alloc | apply Kd.R_drewN | apply Kd.R_drew)); exact HO276.out), (by (with_reducible repeat (first | apply Kd.R_alloc | apply Kd.R_drewN | apply Kd.R_drew)); exact HO280.out), (by (with_reducible repeat (first | apply Kd.R_alloc | apply Kd.R_drewN | apply Kd.R_drew)); exact HO283.out), (by (with_reducible repeat (first | apply Kd.R_alloc | apply Kd.R_drewN | apply Kd.R_drew)); exact Kd.R_mono HO286.out (fun _ hk => ⟨hk.1.2, hk.2⟩)), (by repeat (first | (with_reducible first | exact HB.out | apply below_alloc | apply pw_below_drewN | apply below_drew1) | exact HB.out))⟩)
                                  · skip
                                    rintro ⟨v282, v285⟩ w38 ⟨h0_, h1_, h2_, h3_, h4_, h5_⟩
                                    have n0_ : Aside0 (Kd.R (Kd.int .i32) 21 w38 w.heap.size (fun k_ => some k_ ≠ (.slice Ao31 t272.length co31 : Value).ownBlock) (.slice Ao30 t267.length co30) t267) := ⟨h0_⟩
                                    have n1_ : Aside0 (Kd.R (Kd.int .i32) 21 w38 w.heap.size (fun k_ => some k_ ≠ (.slice Ao30 t267.length co30 : Value).ownBlock) (.slice Ao31 t272.length co31) t272) := ⟨h1_⟩
                                    have n2_ : Aside0 (Kd.R (Kd.int .u8) 5 w38 w.heap.size (fun k_ => some k_ ≠ (v282 : Value).ownBlock ∧ some k_ ≠ (v285 : Value).ownBlock) v279 t278) := ⟨h2_⟩
                                    have n3_ : Aside0 (Kd.R (Kd.int .u8) 5 w38 w.heap.size (fun k_ => some k_ ≠ (v279 : Value).ownBlock ∧ some k_ ≠ (v285 : Value).ownBlock) v282 t281) := ⟨h3_⟩
                                    have n4_ : Aside0 (Kd.R (Kd.int .u8) 5 w38 w.heap.size (fun k_ => some k_ ≠ (v279 : Value).ownBlock ∧ some k_ ≠ (v282 : Value).ownBlock) v285 t284) := ⟨h4_⟩
                                    have n5_ : Aside0 (Below w.heap.size w w38) := ⟨h5_⟩
                                    clear HO271
                                    clear HO276
                                    clear HB
                                    clear h0_ h1_ h2_ h3_ h4_ h5_
                                    have HO271 := n0_
                                    have HO276 := n1_
                                    have HO280 := n2_
                                    have HO283 := n3_
                                    have HO286 := n4_
                                    have HB := n5_
                                    clear n0_ n1_ n2_ n3_ n4_ n5_
                                    have hHeld := trivial
                                    refine norm_ (a' := ?_) ?_ ?_
                                    rotate_left
                                    · simp only [putAll, Act.put, List.setIfInBounds_toArray, List.set_cons_zero, List.set_cons_succ]
                                      rfl
                                    refine two_ (i := 40) (j := 42) (Ni := some 92) (Nj := some 94) #[true, true, true, true, true, true, true, true, true, true, true, true, true, true, true, true, true, true, true, true, true, true, true, true, true, true, true, true, true, true, true, true, true, true, true, true, true, true, true, true, true, true, false, false, false, false, false, false, false, false] #[true, true, true, true, true, true, true, true, true, true, true, true, true, true, true, true, true, true, true, true, true, true, true, true, true, true, true, true, true, true, true, true, true, true, true, true, true, true, true, true, false, true, true, false, false, false, false, false, false, false] rfl rfl rfl rfl (two_of HT_.out (by kernel_rfl)) (by decide) (by decide) (fun K hK => ?_) (fun K hK => ?_)
                                    · skip
                                      have hcv39 := own_string (P := Try.prog) Try.underlying22 Try.underlying5 Try.underlying9 (Kd.own_of_R HO286.out)
                                      refine value_ (w1 := ?_) (v := ?_) (by rfl) rfl ?_ ?_
                                      rotate_left 2
                                      · go_simp
                                        constructor
                                        · rfl
                                        · rfl
                                      clear hcv39
                                      refine hK.out _ _ trivial (fun hHeld => ?_)
                                      clear hK K
                                      refine norm_ (a' := ?_) ?_ ?_
                                      rotate_left
                                      · show Act.put _ (some 92) _ = _
                                        simp only [Act.put, List.setIfInBounds_toArray, List.set_cons_zero, List.set_cons_succ, i64_w, i32_w]
                                        rfl
                                      exact norm_ (by first | (simp only [putAll, Act.put, List.setIfInBounds_toArray, List.set_cons_zero, List.set_cons_succ]; done) | (simp only [putAll, Act.put, List.setIfInBounds_toArray, List.set_cons_zero, List.set_cons_succ]; rfl)) (hJ31_33_34_39_40 (v282, v285) _ ⟨(by (with_reducible repeat (first | apply Kd.R_alloc | apply Kd.R_drewN | apply Kd.R_drew)); exact HO271.out), (by (with_reducible repeat (first | apply Kd.R_alloc | apply Kd.R_drewN | apply Kd.R_drew)); exact HO276.out), (by (with_reducible repeat (first | apply Kd.R_alloc | apply Kd.R_drewN | apply Kd.R_drew)); exact HO280.out), (by (with_reducible repeat (first | apply Kd.R_alloc | apply Kd.R_drewN | apply Kd.R_drew)); exact HO283.out), (by (with_reducible repeat (first | apply Kd.R_alloc | apply Kd.R_drewN | apply Kd.R_drew)); exact HO286.out), (by repeat (first | (with_reducible first | exact HB.out | apply below_alloc | apply pw_below_drewN | apply below_drew1) | exact HB.out))⟩)
                                    · skip
                                      refine goes_ Try.func17 (by kernel_rfl) rfl #[.int .i32 a2] (by rfl) rfl rfl (by (try simp only [List.map_toArray, List.map_cons, List.map_nil]); first | done | rfl | (simp only [List.length_drop, List.length_take]; rfl)) ?_
                                      with_reducible refine (orthoepyref02_Bytes.calls a2 t287 _ A24.out).mono ?_
                                      rintro e w39 ⟨v288, rfl, ho0, hb⟩
                                      refine ⟨_, rfl, ?_⟩
                                      have n0_ := Aside0.mk (Kd.R_below (by (with_reducible repeat (first | apply Kd.R_alloc | apply Kd.R_drewN | apply Kd.R_drew)); exact HO271.out) hb)
                                      have n1_ := Aside0.mk (Kd.R_below (by (with_reducible repeat (first | apply Kd.R_alloc | apply Kd.R_drewN | apply Kd.R_drew)); exact HO276.out) hb)
                                      have n2_ := Aside0.mk (Kd.R_elder' (by (with_reducible repeat (first | apply Kd.R_alloc | apply Kd.R_drewN | apply Kd.R_drew)); exact HO280.out) (Kd.R_base ho0) hb)
                                      have n3_ := Aside0.mk (Kd.R_elder' (by (with_reducible repeat (first | apply Kd.R_alloc | apply Kd.R_drewN | apply Kd.R_drew)); exact HO283.out) (Kd.R_base ho0) hb)
                                      have n4_ := Aside0.mk (Kd.R_elder' (by (with_reducible repeat (first | apply Kd.R_alloc | apply Kd.R_drewN | apply Kd.R_drew)); exact HO286.out) (Kd.R_base ho0) hb)
                                      have n5_ := Aside0.mk (Kd.R_lower (Kd.R_new' (Kd.R_new' (Kd.R_new' ho0 (Kd.R_lt (by (with_reducible repeat (first | apply Kd.R_alloc | apply Kd.R_drewN | apply Kd.R_drew)); exact HO280.out))) (Kd.R_lt (by (with_reducible repeat (first | apply Kd.R_alloc | apply Kd.R_drewN | apply Kd.R_drew)); exact HO283.out))) (Kd.R_lt (by (with_reducible repeat (first | apply Kd.R_alloc | apply Kd.R_drewN | apply Kd.R_drew)); exact HO286.out))) (below_size (by repeat (first | (with_reducible first | exact HB.out | apply below_alloc | apply pw_below_drewN | apply below_drew1) | exact HB.out))))
                                      have n6_ := Aside0.mk (below_step (by repeat (first | (with_reducible first | exact HB.out | apply below_alloc | apply pw_below_drewN | apply below_drew1) | exact HB.out)) hb)
                                      clear HO271
                                      clear HO276
                                      clear HO280
                                      clear HO283
                                      clear HO286
                                      clear HB
                                      have HO271 := n0_
                                      have HO276 := n1_
                                      have HO280 := n2_
                                      have HO283 := n3_
                                      have HO286 := n4_
                                      have HO289 := n5_
                                      have HB := n6_
                                      clear n0_ n1_ n2_ n3_ n4_ n5_ n6_
                                      (try clear hb)
                                      (try clear hb2)
                                      (try clear hk)
                                      (try clear hi)
                                      (try clear ho0)
                                      refine hK.out _ _ trivial (fun hHeld => ?_)
                                      clear hK K
                                      refine norm_ (a' := ?_) ?_ ?_
                                      rotate_left
                                      · show Act.put _ (some 94) _ = _
                                        simp only [Act.put, List.setIfInBounds_toArray, List.set_cons_zero, List.set_cons_succ, i64_w, i32_w]
                                        rfl
                                      exact norm_ (by first | (simp only [putAll, Act.put, List.setIfInBounds_toArray, List.set_cons_zero, List.set_cons_succ]; done) | (simp only [putAll, Act.put, List.setIfInBounds_toArray, List.set_cons_zero, List.set_cons_succ]; rfl)) (hJ31_33_34_39_42 (v282, v285, v288) _ ⟨(by (with_reducible repeat (first | apply Kd.R_alloc | apply Kd.R_drewN | apply Kd.R_drew)); exact HO271.out), (by (with_reducible repeat (first | apply Kd.R_alloc | apply Kd.R_drewN | apply Kd.R_drew)); exact HO276.out), (by (with_reducible repeat (first | apply Kd.R_alloc | apply Kd.R_drewN | apply Kd.R_drew)); exact Kd.R_mono HO280.out (fun _ hk => ⟨hk.1.1, ⟨hk.1.2, hk.2⟩⟩)), (by (with_reducible repeat (first | apply Kd.R_alloc | apply Kd.R_drewN | apply Kd.R_drew)); exact Kd.R_mono HO283.out (fun _ hk => ⟨hk.1.1, ⟨hk.1.2, hk.2⟩⟩)), (by (with_reducible repeat (first | apply Kd.R_alloc | apply Kd.R_drewN | apply Kd.R_drew)); exact Kd.R_mono HO286.out (fun _ hk => ⟨hk.1.1, ⟨hk.1.2, hk.2⟩⟩)), (by (with_reducible repeat (first | apply Kd.R_alloc | apply Kd.R_drewN | apply Kd.R_drew)); exact Kd.R_mono HO289.out (fun _ hk => ⟨hk.1.1.2, ⟨hk.1.2, hk.2⟩⟩)), (by repeat (first | (with_reducible first | exact HB.out | apply below_alloc | apply pw_below_drewN | apply below_drew1) | exact HB.out))⟩)
                                · skip
                                  rintro ⟨v282, v285, v288⟩ w39 ⟨h0_, h1_, h2_, h3_, h4_, h5_, h6_⟩
                                  have n0_ : Aside0 (Kd.R (Kd.int .i32) 21 w39 w.heap.size (fun k_ => some k_ ≠ (.slice Ao31 t272.length co31 : Value).ownBlock) (.slice Ao30 t267.length co30) t267) := ⟨h0_⟩
                                  have n1_ : Aside0 (Kd.R (Kd.int .i32) 21 w39 w.heap.size (fun k_ => some k_ ≠ (.slice Ao30 t267.length co30 : Value).ownBlock) (.slice Ao31 t272.length co31) t272) := ⟨h1_⟩
                                  have n2_ : Aside0 (Kd.R (Kd.int .u8) 5 w39 w.heap.size (fun k_ => some k_ ≠ (v282 : Value).ownBlock ∧ some k_ ≠ (v285 : Value).ownBlock ∧ some k_ ≠ (v288 : Value).ownBlock) v279 t278) := ⟨h2_⟩
                                  have n3_ : Aside0 (Kd.R (Kd.int .u8) 5 w39 w.heap.size (fun k_ => some k_ ≠ (v279 : Value).ownBlock ∧ some k_ ≠ (v285 : Value).ownBlock ∧ some k_ ≠ (v288 : Value).ownBlock) v282 t281) := ⟨h3_⟩
                                  have n4_ : Aside0 (Kd.R (Kd.int .u8) 5 w39 w.heap.size (fun k_ => some k_ ≠ (v279 : Value).ownBlock ∧ some k_ ≠ (v282 : Value).ownBlock ∧ some k_ ≠ (v288 : Value).ownBlock) v285 t284) := ⟨h4_⟩
                                  have n5_ : Aside0 (Kd.R (Kd.int .u8) 5 w39 w.heap.size (fun k_ => some k_ ≠ (v279 : Value).ownBlock ∧ some k_ ≠ (v282 : Value).ownBlock ∧ some k_ ≠ (v285 : Value).ownBlock) v288 t287) := ⟨h5_⟩
                                  have n6_ : Aside0 (Below w.heap.size w w39) := ⟨h6_⟩
                                  clear HO271
                                  clear HO276
                                  clear HB
                                  clear h0_ h1_ h2_ h3_ h4_ h5_ h6_
                                  have HO271 := n0_
                                  have HO276 := n1_
                                  have HO280 := n2_
                                  have HO283 := n3_
                                  have HO286 := n4_
                                  have HO289 := n5_
                                  have HB := n6_
                                  clear n0_ n1_ n2_ n3_ n4_ n5_ n6_
                                  have hHeld := trivial
                                  refine norm_ (a' := ?_) ?_ ?_
                                  rotate_left
                                  · simp only [putAll, Act.put, List.setIfInBounds_toArray, List.set_cons_zero, List.set_cons_succ]
                                    rfl
                                  refine two_ (i := 40) (j := 43) (Ni := some 92) (Nj := some 95) #[true, true, true, true, true, true, true, true, true, true, true, true, true, true, true, true, true, true, true, true, true, true, true, true, true, true, true, true, true, true, true, true, true, true, true, true, true, true, true, true, true, true, true, false, false, false, false, false, false, false] #[true, true, true, true, true, true, true, true, true, true, true, true, true, true, true, true, true, true, true, true, true, true, true, true, true, true, true, true, true, true, true, true, true, true, true, true, true, true, true, true, false, true, true, true, false, false, false, false, false, false] rfl rfl rfl rfl (two_of HT_.out (by kernel_rfl)) (by decide) (by decide) (fun K hK => ?_) (fun K hK => ?_)
                                  · skip
                                    have hcv40 := own_string (P := Try.prog) Try.underlying22 Try.underlying5 Try.underlying9 (Kd.own_of_R HO286.out)
                                    refine value_ (w1 := ?_) (v := ?_) (by rfl) rfl ?_ ?_
                                    rotate_left 2
                                    · go_simp
                                      constructor
                                      · rfl
                                      · rfl
                                    clear hcv40
                                    refine hK.out _ _ trivial (fun hHeld => ?_)
                                    clear hK K
                                    refine norm_ (a' := ?_) ?_ ?_
                                    rotate_left
                                    · show Act.put _ (some 92) _ = _
                                      simp only [Act.put, List.setIfInBounds_toArray, List.set_cons_zero, List.set_cons_succ, i64_w, i32_w]
                                      rfl
                                    exact norm_ (by first | (simp only [putAll, Act.put, List.setIfInBounds_toArray, List.set_cons_zero, List.set_cons_succ]; done) | (simp only [putAll, Act.put, List.setIfInBounds_toArray, List.set_cons_zero, List.set_cons_succ]; rfl)) (hJ31_33_34_39_40_42 (v282, v285, v288) _ ⟨(by (with_reducible repeat (first | apply Kd.R_alloc | apply Kd.R_drewN | apply Kd.R_drew)); exact HO271.out), (by (with_reducible repeat (first | apply Kd.R_alloc | apply Kd.R_drewN | apply Kd.R_drew)); exact HO276.out), (by (with_reducible repeat (first | apply Kd.R_alloc | apply Kd.R_drewN | apply Kd.R_drew)); exact HO280.out), (by (with_reducible repeat (first | apply Kd.R_alloc | apply Kd.R_drewN | apply Kd.R_drew)); exact HO283.out), (by (with_reducible repeat (first | apply Kd.R_alloc | apply Kd.R_drewN | apply Kd.R_drew)); exact HO286.out), (by (with_reducible repeat (first | apply Kd.R_alloc | apply Kd.R_drewN | apply Kd.R_drew)); exact HO289.out), (by repeat (first | (with_reducible first | exact HB.out | apply below_alloc | apply pw_below_drewN | apply below_drew1) | exact HB.out))⟩)
                                  · skip
                                    have hcv40 := own_string (P := Try.prog) Try.underlying22 Try.underlying5 Try.underlying9 (Kd.own_of_R HO289.out)
                                    refine value_ (w1 := ?_) (v := ?_) (by rfl) rfl ?_ ?_
                                    rotate_left 2
                                    · go_simp
                                      constructor
                                      · rfl
                                      · rfl
                                    clear hcv40
                                    refine hK.out _ _ trivial (fun hHeld => ?_)
                                    clear hK K
                                    refine norm_ (a' := ?_) ?_ ?_
                                    rotate_left
                                    · show Act.put _ (some 95) _ = _
                                      simp only [Act.put, List.setIfInBounds_toArray, List.set_cons_zero, List.set_cons_succ, i64_w, i32_w]
                                      rfl
                                    exact norm_ (by first | (simp only [putAll, Act.put, List.setIfInBounds_toArray, List.set_cons_zero, List.set_cons_succ]; done) | (simp only [putAll, Act.put, List.setIfInBounds_toArray, List.set_cons_zero, List.set_cons_succ]; rfl)) (hJ31_33_34_39_42_43 (v282, v285, v288) _ ⟨(by (with_reducible repeat (first | apply Kd.R_alloc | apply Kd.R_drewN | apply Kd.R_drew)); exact HO271.out), (by (with_reducible repeat (first | apply Kd.R_alloc | apply Kd.R_drewN | apply Kd.R_drew)); exact HO276.out), (by (with_reducible repeat (first | apply Kd.R_alloc | apply Kd.R_drewN | apply Kd.R_drew)); exact HO280.out), (by (with_reducible repeat (first | apply Kd.R_alloc | apply Kd.R_drewN | apply Kd.R_drew)); exact HO283.out), (by (with_reducible repeat (first | apply Kd.R_alloc | apply Kd.R_drewN | apply Kd.R_drew)); exact HO286.out), (by (with_reducible repeat (first | apply Kd.R_alloc | apply Kd.R_drewN | apply Kd.R_drew)); exact HO289.out), (by repeat (first | (with_reducible first | exact HB.out | apply below_alloc | apply pw_below_drewN | apply below_drew1) | exact HB.out))⟩)
                              · skip
                                rintro ⟨v282, v285⟩ w39 ⟨h0_, h1_, h2_, h3_, h4_, h5_⟩
                                have n0_ : Aside0 (Kd.R (Kd.int .i32) 21 w39 w.heap.size (fun k_ => some k_ ≠ (.slice Ao31 t272.length co31 : Value).ownBlock) (.slice Ao30 t267.length co30) t267) := ⟨h0_⟩
                                have n1_ : Aside0 (Kd.R (Kd.int .i32) 21 w39 w.heap.size (fun k_ => some k_ ≠ (.slice Ao30 t267.length co30 : Value).ownBlock) (.slice Ao31 t272.length co31) t272) := ⟨h1_⟩
                                have n2_ : Aside0 (Kd.R (Kd.int .u8) 5 w39 w.heap.size (fun k_ => some k_ ≠ (v282 : Value).ownBlock ∧ some k_ ≠ (v285 : Value).ownBlock) v279 t278) := ⟨h2_⟩
                                have n3_ : Aside0 (Kd.R (Kd.int .u8) 5 w39 w.heap.size (fun k_ => some k_ ≠ (v279 : Value).ownBlock ∧ some k_ ≠ (v285 : Value).ownBlock) v282 t281) := ⟨h3_⟩
                                have n4_ : Aside0 (Kd.R (Kd.int .u8) 5 w39 w.heap.size (fun k_ => some k_ ≠ (v279 : Value).ownBlock ∧ some k_ ≠ (v282 : Value).ownBlock) v285 t284) := ⟨h4_⟩
                                have n5_ : Aside0 (Below w.heap.size w w39) := ⟨h5_⟩
                                clear HO271
                                clear HO276
                                clear HB
                                clear h0_ h1_ h2_ h3_ h4_ h5_
                                have HO271 := n0_
                                have HO276 := n1_
                                have HO280 := n2_
                                have HO283 := n3_
                                have HO286 := n4_
                                have HB := n5_
                                clear n0_ n1_ n2_ n3_ n4_ n5_
                                have hHeld := trivial
                                refine norm_ (a' := ?_) ?_ ?_
                                rotate_left
                                · simp only [putAll, Act.put, List.setIfInBounds_toArray, List.set_cons_zero, List.set_cons_succ]
                                  rfl
                                refine one_ (i := 42) (N := some 94) #[true, true, true, true, true, true, true, true, true, true, true, true, true, true, true, true, true, true, true, true, true, true, true, true, true, true, true, true, true, true, true, true, true, true, true, true, true, true, true, true, true, true, true, false, false, false, false, false, false, false] rfl rfl (one_of HT_.out (by kernel_rfl)) (by decide) (fun K hK => ?_)
                                refine goes_ Try.func17 (by kernel_rfl) rfl #[.int .i32 a2] (by rfl) rfl rfl (by (try simp only [List.map_toArray, List.map_cons, List.map_nil]); first | done | rfl | (simp only [List.length_drop, List.length_take]; rfl)) ?_
                                with_reducible refine (orthoepyref02_Bytes.calls a2 t287 _ A24.out).mono ?_
                                rintro e w40 ⟨v288, rfl, ho0, hb⟩
                                refine ⟨_, rfl, ?_⟩
                                have n0_ := Aside0.mk (Kd.R_below (by (with_reducible repeat (first | apply Kd.R_alloc | apply Kd.R_drewN | apply Kd.R_drew)); exact HO271.out) hb)
                                have n1_ := Aside0.mk (Kd.R_below (by (with_reducible repeat (first | apply Kd.R_alloc | apply Kd.R_drewN | apply Kd.R_drew)); exact HO276.out) hb)
                                have n2_ := Aside0.mk (Kd.R_elder' (by (with_reducible repeat (first | apply Kd.R_alloc | apply Kd.R_drewN | apply Kd.R_drew)); exact HO280.out) (Kd.R_base ho0) hb)
                                have n3_ := Aside0.mk (Kd.R_elder' (by (with_reducible repeat (first | apply Kd.R_alloc | apply Kd.R_drewN | apply Kd.R_drew)); exact HO283.out) (Kd.R_base ho0) hb)
                                have n4_ := Aside0.mk (Kd.R_elder' (by (with_reducible repeat (first | apply Kd.R_alloc | apply Kd.R_drewN | apply Kd.R_drew)); exact HO286.out) (Kd.R_base ho0) hb)
                                have n5_ := Aside0.mk (Kd.R_lower (Kd.R_new' (Kd.R_new' (Kd.R_new' ho0 (Kd.R_lt (by (with_reducible repeat (first | apply Kd.R_alloc | apply Kd.R_drewN | apply Kd.R_drew)); exact HO280.out))) (Kd.R_lt (by (with_reducible repeat (first | apply Kd.R_alloc | apply Kd.R_drewN | apply Kd.R_drew)); exact HO283.out))) (Kd.R_lt (by (with_reducible repeat (first | apply Kd.R_alloc | apply Kd.R_drewN | apply Kd.R_drew)); exact HO286.out))) (below_size (by repeat (first | (with_reducible first | exact HB.out | apply below_alloc | apply pw_below_drewN | apply below_drew1) | exact HB.out))))
                                have n6_ := Aside0.mk (below_step (by repeat (first | (with_reducible first | exact HB.out | apply below_alloc | apply pw_below_drewN | apply below_drew1) | exact HB.out)) hb)
                                clear HO271
                                clear HO276
                                clear HO280
                                clear HO283
                                clear HO286
                                clear HB
                                have HO271 := n0_
                                have HO276 := n1_
                                have HO280 := n2_
                                have HO283 := n3_
                                have HO286 := n4_
                                have HO289 := n5_
                                have HB := n6_
                                clear n0_ n1_ n2_ n3_ n4_ n5_ n6_
                                (try clear hb)
                                (try clear hb2)
                                (try clear hk)
                                (try clear hi)
                                (try clear ho0)
                                refine hK.out _ _ trivial (fun hHeld => ?_)
                                clear hK K
                                refine norm_ (a' := ?_) ?_ ?_
                                rotate_left
                                · show Act.put _ (some 94) _ = _
                                  simp only [Act.put, List.setIfInBounds_toArray, List.set_cons_zero, List.set_cons_succ, i64_w, i32_w]
                                  rfl
                                exact norm_ (by first | (simp only [putAll, Act.put, List.setIfInBounds_toArray, List.set_cons_zero, List.set_cons_succ]; done) | (simp only [putAll, Act.put, List.setIfInBounds_toArray, List.set_cons_zero, List.set_cons_succ]; rfl)) (hJ31_33_34_39_40_42 (v282, v285, v288) _ ⟨(by (with_reducible repeat (first | apply Kd.R_alloc | apply Kd.R_drewN | apply Kd.R_drew)); exact HO271.out), (by (with_reducible repeat (first | apply Kd.R_alloc | apply Kd.R_drewN | apply Kd.R_drew)); exact HO276.out), (by (with_reducible repeat (first | apply Kd.R_alloc | apply Kd.R_drewN | apply Kd.R_drew)); exact Kd.R_mono HO280.out (fun _ hk => ⟨hk.1.1, ⟨hk.1.2, hk.2⟩⟩)), (by (with_reducible repeat (first | apply Kd.R_alloc | apply Kd.R_drewN | apply Kd.R_drew)); exact Kd.R_mono HO283.out (fun _ hk => ⟨hk.1.1, ⟨hk.1.2, hk.2⟩⟩)), (by (with_reducible repeat (first | apply Kd.R_alloc | apply Kd.R_drewN | apply Kd.R_drew)); exact Kd.R_mono HO286.out (fun _ hk => ⟨hk.1.1, ⟨hk.1.2, hk.2⟩⟩)), (by (with_reducible repeat (first | apply Kd.R_alloc | apply Kd.R_drewN | apply Kd.R_drew)); exact Kd.R_mono HO289.out (fun _ hk => ⟨hk.1.1.2, ⟨hk.1.2, hk.2⟩⟩)), (by repeat (first | (with_reducible first | exact HB.out | apply below_alloc | apply pw_below_drewN | apply below_drew1) | exact HB.out))⟩)
                            · skip
                              rintro ⟨v282, v285, v288⟩ w40 ⟨h0_, h1_, h2_, h3_, h4_, h5_, h6_⟩
                              have n0_ : Aside0 (Kd.R (Kd.int .i32) 21 w40 w.heap.size (fun k_ => some k_ ≠ (.slice Ao31 t272.length co31 : Value).ownBlock) (.slice Ao30 t267.length co30) t267) := ⟨h0_⟩
                              have n1_ : Aside0 (Kd.R (Kd.int .i32) 21 w40 w.heap.size (fun k_ => some k_ ≠ (.slice Ao30 t267.length co30 : Value).ownBlock) (.slice Ao31 t272.length co31) t272) := ⟨h1_⟩
                              have n2_ : Aside0 (Kd.R (Kd.int .u8) 5 w40 w.heap.size (fun k_ => some k_ ≠ (v282 : Value).ownBlock ∧ some k_ ≠ (v285 : Value).ownBlock ∧ some k_ ≠ (v288 : Value).ownBlock) v279 t278) := ⟨h2_⟩
                              have n3_ : Aside0 (Kd.R (Kd.int .u8) 5 w40 w.heap.size (fun k_ => some k_ ≠ (v279 : Value).ownBlock ∧ some k_ ≠ (v285 : Value).ownBlock ∧ some k_ ≠ (v288 : Value).ownBlock) v282 t281) := ⟨h3_⟩
                              have n4_ : Aside0 (Kd.R (Kd.int .u8) 5 w40 w.heap.size (fun k_ => some k_ ≠ (v279 : Value).ownBlock ∧ some k_ ≠ (v282 : Value).ownBlock ∧ some k_ ≠ (v288 : Value).ownBlock) v285 t284) := ⟨h4_⟩
                              have n5_ : Aside0 (Kd.R (Kd.int .u8) 5 w40 w.heap.size (fun k_ => some k_ ≠ (v279 : Value).ownBlock ∧ some k_ ≠ (v282 : Value).ownBlock ∧ some k_ ≠ (v285 : Value).ownBlock) v288 t287) := ⟨h5_⟩
                              have n6_ : Aside0 (Below w.heap.size w w40) := ⟨h6_⟩
                              clear HO271
                              clear HO276
                              clear HB
                              clear h0_ h1_ h2_ h3_ h4_ h5_ h6_
                              have HO271 := n0_
                              have HO276 := n1_
                              have HO280 := n2_
                              have HO283 := n3_
                              have HO286 := n4_
                              have HO289 := n5_
                              have HB := n6_
                              clear n0_ n1_ n2_ n3_ n4_ n5_ n6_
                              have hHeld := trivial
                              refine norm_ (a' := ?_) ?_ ?_
                              rotate_left
                              · simp only [putAll, Act.put, List.setIfInBounds_toArray, List.set_cons_zero, List.set_cons_succ]
                                rfl
                              refine one_ (i := 40) (N := some 92) #[true, true, true, true, true, true, true, true, true, true, true, true, true, true, true, true, true, true, true, true, true, true, true, true, true, true, true, true, true, true, true, true, true, true, true, true, true, true, true, true, true, true, true, true, false, false, false, false, false, false] rfl rfl (one_of HT_.out (by kernel_rfl)) (by decide) (fun K hK => ?_)
                              have hcv41 := own_string (P := Try.prog) Try.underlying22 Try.underlying5 Try.underlying9 (Kd.own_of_R HO286.out)
                              refine value_ (w1 := ?_) (v := ?_) (by rfl) rfl ?_ ?_
                              rotate_left 2
                              · go_simp
                                constructor
                                · rfl
                                · rfl
                              clear hcv41
                              refine hK.out _ _ trivial (fun hHeld => ?_)
                              clear hK K
                              refine norm_ (a' := ?_) ?_ ?_
                              rotate_left
                              · show Act.put _ (some 92) _ = _
                                simp only [Act.put, List.setIfInBounds_toArray, List.set_cons_zero, List.set_cons_succ, i64_w, i32_w]
                                rfl
                              exact norm_ (by first | (simp only [putAll, Act.put, List.setIfInBounds_toArray, List.set_cons_zero, List.set_cons_succ]; done) | (simp only [putAll, Act.put, List.setIfInBounds_toArray, List.set_cons_zero, List.set_cons_succ]; rfl)) (hJ31_33_34_39_40_42_43 (v282, v285, v288) _ ⟨(by (with_reducible repeat (first | apply Kd.R_alloc | apply Kd.R_drewN | apply Kd.R_drew)); exact HO271.out), (by (with_reducible repeat (first | apply Kd.R_alloc | apply Kd.R_drewN | apply Kd.R_drew)); exact HO276.out), (by (with_reducible repeat (first | apply Kd.R_alloc | apply Kd.R_drewN | apply Kd.R_drew)); exact HO280.out), (by (with_reducible repeat (first | apply Kd.R_alloc | apply Kd.R_drewN | apply Kd.R_drew)); exact HO283.out), (by (with_reducible repeat (first | apply Kd.R_alloc | apply Kd.R_drewN | apply Kd.R_drew)); exact HO286.out), (by (with_reducible repeat (first | apply Kd.R_alloc | apply Kd.R_drewN | apply Kd.R_drew)); exact HO289.out), (by repeat (first | (with_reducible first | exact HB.out | apply below_alloc | apply pw_below_drewN | apply below_drew1) | exact HB.out))⟩)
                          · skip
                            rintro ⟨v282, v285, v288⟩ w40 ⟨h0_, h1_, h2_, h3_, h4_, h5_, h6_⟩
                            have n0_ : Aside0 (Kd.R (Kd.int .i32) 21 w40 w.heap.size (fun k_ => some k_ ≠ (.slice Ao31 t272.length co31 : Value).ownBlock) (.slice Ao30 t267.length co30) t267) := ⟨h0_⟩
                            have n1_ : Aside0 (Kd.R (Kd.int .i32) 21 w40 w.heap.size (fun k_ => some k_ ≠ (.slice Ao30 t267.length co30 : Value).ownBlock) (.slice Ao31 t272.length co31) t272) := ⟨h1_⟩
                            have n2_ : Aside0 (Kd.R (Kd.int .u8) 5 w40 w.heap.size (fun k_ => some k_ ≠ (v282 : Value).ownBlock ∧ some k_ ≠ (v285 : Value).ownBlock ∧ some k_ ≠ (v288 : Value).ownBlock) v279 t278) := ⟨h2_⟩
                            have n3_ : Aside0 (Kd.R (Kd.int .u8) 5 w40 w.heap.size (fun k_ => some k_ ≠ (v279 : Value).ownBlock ∧ some k_ ≠ (v285 : Value).ownBlock ∧ some k_ ≠ (v288 : Value).ownBlock) v282 t281) := ⟨h3_⟩
                            have n4_ : Aside0 (Kd.R (Kd.int .u8) 5 w40 w.heap.size (fun k_ => some k_ ≠ (v279 : Value).ownBlock ∧ some k_ ≠ (v282 : Value).ownBlock ∧ some k_ ≠ (v288 : Value).ownBlock) v285 t284) := ⟨h4_⟩
                            have n5_ : Aside0 (Kd.R (Kd.int .u8) 5 w40 w.heap.size (fun k_ => some k_ ≠ (v279 : Value).ownBlock ∧ some k_ ≠ (v282 : Value).ownBlock ∧ some k_ ≠ (v285 : Value).ownBlock) v288 t287) := ⟨h5_⟩
                            have n6_ : Aside0 (Below w.heap.size w w40) := ⟨h6_⟩
                            clear HO271
                            clear HO276
                            clear HB
                            clear h0_ h1_ h2_ h3_ h4_ h5_ h6_
                            have HO271 := n0_
                            have HO276 := n1_
                            have HO280 := n2_
                            have HO283 := n3_
                            have HO286 := n4_
                            have HO289 := n5_
                            have HB := n6_
                            clear n0_ n1_ n2_ n3_ n4_ n5_ n6_
                            have hHeld := trivial
                            refine norm_ (a' := ?_) ?_ ?_
                            rotate_left
                            · simp only [putAll, Act.put, List.setIfInBounds_toArray, List.set_cons_zero, List.set_cons_succ]
                              rfl
                            refine one_ (i := 43) (N := some 95) #[true, true, true, true, true, true, true, true, true, true, true, true, true, true, true, true, true, true, true, true, true, true, true, true, true, true, true, true, true, true, true, true, true, true, true, true, true, true, true, true, true, true, true, true, false, false, false, false, false, false] rfl rfl (one_of HT_.out (by kernel_rfl)) (by decide) (fun K hK => ?_)
                            have hcv41 := own_string (P := Try.prog) Try.underlying22 Try.underlying5 Try.underlying9 (Kd.own_of_R HO289.out)
                            refine value_ (w1 := ?_) (v := ?_) (by rfl) rfl ?_ ?_
                            rotate_left 2
                            · go_simp
                              constructor
                              · rfl
                              · rfl
                            clear hcv41
                            refine hK.out _ _ trivial (fun hHeld => ?_)
                            clear hK K
                            refine norm_ (a' := ?_) ?_ ?_
                            rotate_left
                            · show Act.put _ (some 95) _ = _
                              simp only [Act.put, List.setIfInBounds_toArray, List.set_cons_zero, List.set_cons_succ, i64_w, i32_w]
                              rfl
                            exact norm_ (by first | (simp only [putAll, Act.put, List.setIfInBounds_toArray, List.set_cons_zero, List.set_cons_succ]; done) | (simp only [putAll, Act.put, List.setIfInBounds_toArray, List.set_cons_zero, List.set_cons_succ]; rfl)) (hJ31_33_34_39_40_42_43 (v282, v285, v288) _ ⟨(by (with_reducible repeat (first | apply Kd.R_alloc | apply Kd.R_drewN | apply Kd.R_drew)); exact HO271.out), (by (with_reducible repeat (first | apply Kd.R_alloc | apply Kd.R_drewN | apply Kd.R_drew)); exact HO276.out), (by (with_reducible repeat (first | apply Kd.R_alloc | apply Kd.R_drewN | apply Kd.R_drew)); exact HO280.out), (by (with_reducible repeat (first | apply Kd.R_alloc | apply Kd.R_drewN | apply Kd.R_drew)); exact HO283.out), (by (with_reducible repeat (first | apply Kd.R_alloc | apply Kd.R_drewN | apply Kd.R_drew)); exact HO286.out), (by (with_reducible repeat (first | apply Kd.R_alloc | apply Kd.R_drewN | apply Kd.R_drew)); exact HO289.out), (by repeat (first | (with_reducible first | exact HB.out | apply below_alloc | apply pw_below_drewN | apply below_drew1) | exact HB.out))⟩)
                        rintro ⟨v282, v285, v288⟩ w41 ⟨h0_, h1_, h2_, h3_, h4_, h5_, h6_⟩
                        have n0_ : Aside0 (Kd.R (Kd.int .i32) 21 w41 w.heap.size (fun k_ => some k_ ≠ (.slice Ao31 t272.length co31 : Value).ownBlock) (.slice Ao30 t267.length co30) t267) := ⟨h0_⟩
                        have n1_ : Aside0 (Kd.R (Kd.int .i32) 21 w41 w.heap.size (fun k_ => some k_ ≠ (.slice Ao30 t267.length co30 : Value).ownBlock) (.slice Ao31 t272.length co31) t272) := ⟨h1_⟩
                        have n2_ : Aside0 (Kd.R (Kd.int .u8) 5 w41 w.heap.size (fun k_ => some k_ ≠ (v282 : Value).ownBlock ∧ some k_ ≠ (v285 : Value).ownBlock ∧ some k_ ≠ (v288 : Value).ownBlock) v279 t278) := ⟨h2_⟩
                        have n3_ : Aside0 (Kd.R (Kd.int .u8) 5 w41 w.heap.size (fun k_ => some k_ ≠ (v279 : Value).ownBlock ∧ some k_ ≠ (v285 : Value).ownBlock ∧ some k_ ≠ (v288 : Value).ownBlock) v282 t281) := ⟨h3_⟩
                        have n4_ : Aside0 (Kd.R (Kd.int .u8) 5 w41 w.heap.size (fun k_ => some k_ ≠ (v279 : Value).ownBlock ∧ some k_ ≠ (v282 : Value).ownBlock ∧ some k_ ≠ (v288 : Value).ownBlock) v285 t284) := ⟨h4_⟩
                        have n5_ : Aside0 (Kd.R (Kd.int .u8) 5 w41 w.heap.size (fun k_ => some k_ ≠ (v279 : Value).ownBlock ∧ some k_ ≠ (v282 : Value).ownBlock ∧ some k_ ≠ (v285 : Value).ownBlock) v288 t287) := ⟨h5_⟩
                        have n6_ : Aside0 (Below w.heap.size w w41) := ⟨h6_⟩
                        clear HO271
                        clear HO276
                        clear HB
                        clear h0_ h1_ h2_ h3_ h4_ h5_ h6_
                        have HO271 := n0_
                        have HO276 := n1_
                        have HO280 := n2_
                        have HO283 := n3_
                        have HO286 := n4_
                        have HO289 := n5_
                        have HB := n6_
                        clear n0_ n1_ n2_ n3_ n4_ n5_ n6_
                        have hHeld := trivial
                        refine norm_ (a' := ?_) ?_ ?_
                        rotate_left
                        · simp only [putAll, Act.put, List.setIfInBounds_toArray, List.set_cons_zero, List.set_cons_succ]
                          rfl
                        refine pure_ (i := 44) (N := some 96) (v := ?_) (a' := ?_) #[true, true, true, true, true, true, true, true, true, true, true, true, true, true, true, true, true, true, true, true, true, true, true, true, true, true, true, true, true, true, true, true, true, true, true, true, true, true, true, true, true, true, true, true, true, false, false, false, false, false] rfl rfl (any_of HT_.out (by kernel_rfl)) (fun _ _ _ h => h) (Or.inl ⟨by rfl, ?_⟩) ?_ ?_
                        rotate_left
                        · intro w'
                          go_simp
                          with_reducible rfl
                        rotate_left
                        · simp only [Act.put, List.setIfInBounds_toArray, List.set_cons_zero, List.set_cons_succ, i64_w, i32_w]
                          rfl
                        refine pure_ (i := 45) (N := some 97) (v := ?_) (a' := ?_) #[true, true, true, true, true, true, true, true, true, true, true, true, true, true, true, true, true, true, true, true, true, true, true, true, true, true, true, true, true, true, true, true, true, true, true, true, true, true, true, true, true, true, true, true, true, true, false, false, false, false] rfl rfl (any_of HT_.out (by kernel_rfl)) (fun _ _ _ h => h) (Or.inl ⟨by rfl, ?_⟩) ?_ ?_
                        rotate_left
                        · intro w'
                          go_simp
                          with_reducible rfl
                        rotate_left
                        · simp only [Act.put, List.setIfInBounds_toArray, List.set_cons_zero, List.set_cons_succ, i64_w, i32_w]
                          rfl
                        refine pure_ (i := 46) (N := some 98) (v := ?_) (a' := ?_) #[true, true, true, true, true, true, true, true, true, true, true, true, true, true, true, true, true, true, true, true, true, true, true, true, true, true, true, true, true, true, true, true, true, true, true, true, true, true, true, true, true, true, true, true, true, true, true, false, false, false] rfl rfl (any_of HT_.out (by kernel_rfl)) (fun _ _ _ h => h) (Or.inl ⟨by rfl, ?_⟩) ?_ ?_
                        rotate_left
                        · intro w'
                          go_simp
                          with_reducible rfl
                        rotate_left
                        · simp only [Act.put, List.setIfInBounds_toArray, List.set_cons_zero, List.set_cons_succ, i64_w, i32_w]
                          rfl
                        refine one_ (i := 47) (N := some 99) #[true, true, true, true, true, true, true, true, true, true, true, true, true, true, true, true, true, true, true, true, true, true, true, true, true, true, true, true, true, true, true, true, true, true, true, true, true, true, true, true, true, true, true, true, true, true, true, true, false, false] rfl rfl (one_of HT_.out (by kernel_rfl)) (by decide) (fun K hK => ?_)
                        refine goes_ Try.func8 (by kernel_rfl) rfl #[] (by rfl) rfl rfl (by (try simp only [List.map_toArray, List.map_cons, List.map_nil]); first | done | rfl | (simp only [List.length_drop, List.length_take]; rfl)) ?_
                        with_reducible refine (orthoepylaw02_awake.calls  t290 _ A26.out).mono ?_
                        rintro e w42 ⟨rfl, hb⟩
                        refine ⟨_, rfl, ?_⟩
                        have n0_ := Aside0.mk (Kd.R_below (by (with_reducible repeat (first | apply Kd.R_alloc | apply Kd.R_drewN | apply Kd.R_drew)); exact HO271.out) hb)
                        have n1_ := Aside0.mk (Kd.R_below (by (with_reducible repeat (first | apply Kd.R_alloc | apply Kd.R_drewN | apply Kd.R_drew)); exact HO276.out) hb)
                        have n2_ := Aside0.mk (Kd.R_below (by (with_reducible repeat (first | apply Kd.R_alloc | apply Kd.R_drewN | apply Kd.R_drew)); exact HO280.out) hb)
                        have n3_ := Aside0.mk (Kd.R_below (by (with_reducible repeat (first | apply Kd.R_alloc | apply Kd.R_drewN | apply Kd.R_drew)); exact HO283.out) hb)
                        have n4_ := Aside0.mk (Kd.R_below (by (with_reducible repeat (first | apply Kd.R_alloc | apply Kd.R_drewN | apply Kd.R_drew)); exact HO286.out) hb)
                        have n5_ := Aside0.mk (Kd.R_below (by (with_reducible repeat (first | apply Kd.R_alloc | apply Kd.R_drewN | apply Kd.R_drew)); exact HO289.out) hb)
                        have n6_ := Aside0.mk (below_step (by repeat (first | (with_reducible first | exact HB.out | apply below_alloc | apply pw_below_drewN | apply below_drew1) | exact HB.out)) hb)
                        clear HO271
                        clear HO276
                        clear HO280
                        clear HO283
                        clear HO286
                        clear HO289
                        clear HB
                        have HO271 := n0_
                        have HO276 := n1_
                        have HO280 := n2_
                        have HO283 := n3_
                        have HO286 := n4_
                        have HO289 := n5_
                        have HB := n6_
                        clear n0_ n1_ n2_ n3_ n4_ n5_ n6_
                        (try clear hb)
                        (try clear hb2)
                        (try clear hk)
                        (try clear hi)
                        refine hK.out _ _ trivial (fun hHeld => ?_)
                        clear hK K
                        refine norm_ (a' := ?_) ?_ ?_
                        rotate_left
                        · show Act.put _ (some 99) _ = _
                          simp only [Act.put, List.setIfInBounds_toArray, List.set_cons_zero, List.set_cons_succ, i64_w, i32_w]
                          rfl
                        refine pure_ (i := 48) (N := some 100) (v := ?_) (a' := ?_) #[true, true, true, true, true, true, true, true, true, true, true, true, true, true, true, true, true, true, true, true, true, true, true, true, true, true, true, true, true, true, true, true, true, true, true, true, true, true, true, true, true, true, true, true, true, true, true, true, true, false] rfl rfl (any_of HT_.out (by kernel_rfl)) (fun _ _ _ h => h) (Or.inl ⟨by rfl, ?_⟩) ?_ ?_
                        rotate_left
                        · intro w'
                          go_simp
                          with_reducible rfl
                        rotate_left
                        · simp only [Act.put, List.setIfInBounds_toArray, List.set_cons_zero, List.set_cons_succ, i64_w, i32_w]
                          rfl
                        refine pure_ (i := 49) (N := some 6) (v := ?_) (a' := ?_) #[true, true, true, true, true, true, true, true, true, true, true, true, true, true, true, true, true, true, true, true, true, true, true, true, true, true, true, true, true, true, true, true, true, true, true, true, true, true, true, true, true, true, true, true, true, true, true, true, true, true] rfl rfl (any_of HT_.out (by kernel_rfl)) (fun _ _ _ h => h) (Or.inl ⟨by rfl, ?_⟩) ?_ ?_
                        rotate_left
                        · intro w'
                          go_simp
                          with_reducible rfl
                        rotate_left
                        · simp only [Act.put, List.setIfInBounds_toArray, List.set_cons_zero, List.set_cons_succ, i64_w, i32_w]
                          rfl
                        refine done_ (done_of HT_.out (by kernel_rfl)) ?_
                        try go_wp2
                        go_ret
                        exact ⟨by first | rfl | (simp [errW_none, errW_some] <;> rfl) | (simp [*, errW_none, errW_some] <;> rfl), by repeat (first | (with_reducible first | exact HB.out | apply below_alloc | apply pw_below_drewN | apply below_drew1) | exact HB.out)⟩
                      · rw [if_neg c25] at H
                        have c25b0 : ((strOfNums t284).toList == (strOfNums t287).toList) = false := beq_eq_false_iff_ne.mpr c25
                        have c25b1 : ((strOfNums t284).toList != (strOfNums t287).toList) = true := bne_iff_ne.mpr c25
                        obtain rfl := Option.some.inj H
                        exact absurd hT_.out (by decide)
                    · rw [if_neg c22] at H
                      have c22b0 : ((strOfNums t278).toList == (strOfNums t281).toList) = false := beq_eq_false_iff_ne.mpr c22
                      have c22b1 : ((strOfNums t278).toList != (strOfNums t281).toList) = true := bne_iff_ne.mpr c22
                      obtain rfl := Option.some.inj H
                      exact absurd hT_.out (by decide)
                  · rw [if_neg c19] at H
                    have c19b0 : (t269 == t274) = false := by simpa using c19
                    (try (have c19b1 : decide (t269 = t274) = false := by simpa using c19))
                    (try (have c19b2 : (t269 == t274) = false := by simpa using c19))
                    (try (have c19b3 : ¬ (t269 = t274) := by simpa using c19))
                    clear c19
                    obtain rfl := Option.some.inj H
                    exact absurd hT_.out (by decide)
                · rw [if_neg c18] at H
                  have c18b0 : (t268 == t273) = false := beq_eq_false_iff_ne.mpr c18
                  have c18b1 : (t268 != t273) = true := bne_iff_ne.mpr c18
                  obtain rfl := Option.some.inj H
                  exact absurd hT_.out (by decide)
              · replace c17 := Bool.eq_false_iff.mpr c17
                subst c17
                have H1 : (some false) = some r := by rw [if_neg (show ¬ (false = true) by decide)] at H; exact H
                clear H
                have H := H1
                clear H1
                obtain rfl := Option.some.inj H
                exact absurd hT_.out (by decide)
            · rw [if_neg c15] at H
              have c15b0 : (t263 == t266) = false := by simpa using c15
              (try (have c15b1 : decide (t263 = t266) = false := by simpa using c15))
              (try (have c15b2 : (t263 == t266) = false := by simpa using c15))
              (try (have c15b3 : ¬ (t263 = t266) := by simpa using c15))
              clear c15
              obtain rfl := Option.some.inj H
              exact absurd hT_.out (by decide)
          · rw [if_neg c14] at H
            have c14b0 : (t262 == t265) = false := beq_eq_false_iff_ne.mpr c14
            have c14b1 : (t262 != t265) = true := bne_iff_ne.mpr c14
            obtain rfl := Option.some.inj H
            exact absurd hT_.out (by decide)
        · rw [if_neg c13] at H
          have c13b0 : (t261 == t264) = false := beq_eq_false_iff_ne.mpr c13
          have c13b1 : (t261 != t264) = true := bne_iff_ne.mpr c13
          obtain rfl := Option.some.inj H
          exact absurd hT_.out (by decide)

/-- THE ONE PURE STATEMENT of orthoepylaw02_Utf8All: yours. -/
def orthoepylaw02_Utf8All.Pure : Prop := ∀ (l0 : List Int) (l1 : List Int) (a2 : Int), l0.length ≤ maxLen → l0.length * 1 ≤ 140737488351232 → (∀ x ∈ l0, (Lit.int .u8 x).wf = true) → l1.length ≤ maxLen → l1.length * 4 ≤ 140737488351232 → (∀ x ∈ l1, (Lit.int .i32 x).wf = true) → (Lit.int .i32 a2).wf = true → ∃ k, orthoepylaw02_Utf8All.f k l0 l1 a2 = some true
theorem orthoepylaw02_Utf8All.walk (P : orthoepylaw02_Utf8All.Pure) (a0 : Option Addr) (len0 cap0 : Nat) (z0 : List Int) (a1 : Option Addr) (len1 cap1 : Nat) (z1 : List Int) (a2 : Int) (w : World) (w0 : (a0 = none ∧ len0 = 0 ∧ cap0 = 0 ∧ z0 = []) ∨ ∃ x, a0 = some x ∧ len0 ≤ cap0 ∧ cap0 ≤ maxLen ∧ z0.length = cap0 ∧ (∀ i, i < z0.length → w.cell? (x.add i) = some (.int .u8 (z0.getD i 0))) ∧ ∀ n ∈ z0, (Lit.int .u8 n).wf = true) (y0 : len0 * 1 ≤ 140737488351232) (w1 : (a1 = none ∧ len1 = 0 ∧ cap1 = 0 ∧ z1 = []) ∨ ∃ x, a1 = some x ∧ len1 ≤ cap1 ∧ cap1 ≤ maxLen ∧ z1.length = cap1 ∧ (∀ i, i < z1.length → w.cell? (x.add i) = some (.int .i32 (z1.getD i 0))) ∧ ∀ n ∈ z1, (Lit.int .i32 n).wf = true) (y1 : len1 * 4 ≤ 140737488351232) (w2 : (Lit.int .i32 a2).wf = true) :
    Calls Try.prog 3 #[.slice a0 len0 cap0, .slice a1 len1 cap1, .int .i32 a2] w fun e w' => e = .returned (.bool true) ∧ Below w.heap.size w w' := by
  obtain ⟨l0, rfl, hr0, hm0, hw0, hc0⟩ := ReadsInt.ofRowC w0
  obtain ⟨l1, rfl, hr1, hm1, hw1, hc1⟩ := ReadsInt.ofRowC w1
  obtain ⟨k, h⟩ := P l0 l1 a2 hm0 y0 hw0 hm1 y1 hw1 w2
  refine (orthoepylaw02_Utf8All.calls k _ _ l0 _ _ l1 a2 true w (Kd.C_of_reads (d := (0 : Int)) (h1 := fun _ => rfl) hr0) hc0 (Kd.C_of_reads (d := (0 : Int)) (h1 := fun _ => rfl) hr1) hc1 h ⟨rfl⟩).mono ?_
  rintro e w' ⟨rfl, hd⟩
  exact ⟨rfl, hd⟩

end Go.Proofs.Ytoalfgmnikbpaaa.PAll
