-- The machine's side of laws, written by a program of this session (wip/gen/pp.sh). Lean checks it.
import Derived.Test.YthgloaihgpcjjaaPAllx0
import Derived.Test.YthgloaihgpcjjaaPAllx1
import Derived.Test.YthgloaihgpcjjaaPAllx2
import Derived.Test.YthgloaihgpcjjaaPAllx3
import Derived.Test.YthgloaihgpcjjaaPAllx4
import Derived.Test.YthgloaihgpcjjaaPAllx5
namespace Go.Proofs.Ythgloaihgpcjjaa.PAll
open Go.RowKit Go.Proofs.YthgloaihgpcjjaaW.PrintWords Go.Proofs.YthgloaihgpcjjaaW.PrintLast Go.Proofs.YthgloaihgpcjjaaW.PrintMore
attribute [local go_sem] max2_int min2_int max_two min_two max_three min_three max_four min_four   -- for this text's walks alone
set_option linter.unusedVariables false
set_option linter.unusedSimpArgs false

/-! ### orthoepylaw03_Utf16Lone: function 7 -/
def orthoepylaw03_Utf16Lone.f (k : Nat) (l0 : List Int) (a1 : Int) (a2 : Int) : Option (Bool) := (orthoepylaw00_Runes.f k l0).bind fun t346 => ((orthoepylaw00_Place.f a1 (wrap64 ((t346.length : Int) + 1))).bind fun t349 => (if 0 ≤ t349 then (if t349 ≤ (t346.length : Int) then ((orthoepyref03_Units.f k (t346.take (t349 : Int).toNat)).bind fun t354 => ((orthoepyref03_Units.f k (t346.drop (t349 : Int).toNat)).bind fun t361 => ((some (([] : List Int) : List Int)).bind fun y364 => (if y364.length + t354.length < 70368744177664 then ((some (y364 ++ t354 : List Int)).bind fun y367 => (if y367.length < 70368744177664 then ((some (y367 ++ [IntKind.u16.wrap (55296 + (Int.tmod a2 2048))] : List Int)).bind fun y370 => (if y370.length + t361.length < 70368744177664 then ((utf16_Scalars.f k (y370 ++ t361)).bind fun bt376 => (if bt376.2.2 = true then (some false) else (if bt376.2.1 = (t354.length : Int) then ((orthoepylaw03_awake.f).bind fun t381 => (some t381)) else (some false)))) else (none))) else (none))) else (none))))) else (none)) else (none)))
theorem orthoepylaw03_Utf16Lone.mono : ∀ a0 a1 a2 k, LeO (orthoepylaw03_Utf16Lone.f k a0 a1 a2) (orthoepylaw03_Utf16Lone.f (k + 1) a0 a1 a2) := by
  intro a0 a1 a2 k
  unfold orthoepylaw03_Utf16Lone.f
  repeat' first
      | (with_reducible exact orthoepylaw00_Runes.mono _ _)
      | (with_reducible exact orthoepyref03_Units.mono _ _)
      | (with_reducible exact utf16_Scalars.mono _ _)
      | (with_reducible exact LeO.refl _)
      | (with_reducible exact LeO.none _)
      | (with_reducible refine LeO.ite ?_ ?_)
      | (with_reducible refine LeO.bind ?_ (fun _ => ?_))
      | exact orthoepylaw00_Runes.mono _ _
      | exact orthoepyref03_Units.mono _ _
      | exact utf16_Scalars.mono _ _
      | exact LeO.none _
      | refine LeO.ite ?_ ?_
      | refine LeO.bind ?_ (fun _ => ?_)
def orthoepylaw03_Utf16Lone.T4 : Bool × List (List Nat × List Nat) := (true, [([], []), ([], []), ([0, 1], [0, 1]), ([2], [2]), ([], []), ([], []), ([4, 5], [4, 5]), ([6, 3], [6]), ([3, 7, 0, 1, 2, 3], [3]), ([7, 8, 0, 1, 2, 3, 4, 5, 6, 7, 8], [7])])
def orthoepylaw03_Utf16Lone.B4 : List Nat := [0, 0, 3, 7, 0, 0, 48, 127, 255, 511]
theorem orthoepylaw03_Utf16Lone.tab4 : rtab .any (opsOf Try.f7 4) = orthoepylaw03_Utf16Lone.T4 := by kernel_rfl
theorem orthoepylaw03_Utf16Lone.bits4 : waitsOk orthoepylaw03_Utf16Lone.T4.2 orthoepylaw03_Utf16Lone.B4 = true := by kernel_rfl
set_option maxHeartbeats 8000000 in
set_option maxRecDepth 100000 in
theorem orthoepylaw03_Utf16Lone.calls (k : Nat) (A0 : Option Addr) (c0 : Nat) (l0 : List Int) (a1 : Int) (a2 : Int) (r : Bool) (w : World) (hr0 : Kd.C (Kd.int .i64) w A0 l0.length l0) (hc0 : l0.length ≤ c0) (h : orthoepylaw03_Utf16Lone.f k l0 a1 a2 = some r) (hT_ : Aside0 (r = true)) :
    Calls Try.prog 7 #[.slice A0 l0.length c0, .int .i64 a1, .int .u16 a2] w fun e w' => e = .returned (.bool r) ∧ Below w.heap.size w w' := by
  have HR0 := Aside0.mk hr0
  have HC0 := Aside0.mk hc0
  clear hr0 hc0
  have HB := Aside0.mk (Below.refl w.heap.size w)
  have H : ((orthoepylaw00_Runes.f k l0).bind fun t346 => ((orthoepylaw00_Place.f a1 (wrap64 ((t346.length : Int) + 1))).bind fun t349 => (if 0 ≤ t349 then (if t349 ≤ (t346.length : Int) then ((orthoepyref03_Units.f k (t346.take (t349 : Int).toNat)).bind fun t354 => ((orthoepyref03_Units.f k (t346.drop (t349 : Int).toNat)).bind fun t361 => ((some (([] : List Int) : List Int)).bind fun y364 => (if y364.length + t354.length < 70368744177664 then ((some (y364 ++ t354 : List Int)).bind fun y367 => (if y367.length < 70368744177664 then ((some (y367 ++ [IntKind.u16.wrap (55296 + (Int.tmod a2 2048))] : List Int)).bind fun y370 => (if y370.length + t361.length < 70368744177664 then ((utf16_Scalars.f k (y370 ++ t361)).bind fun bt376 => (if bt376.2.2 = true then (some false) else (if bt376.2.1 = (t354.length : Int) then ((orthoepylaw03_awake.f).bind fun t381 => (some t381)) else (some false)))) else (none))) else (none))) else (none))))) else (none)) else (none)))) = some r := h
  clear h
  replace H := Option.bind_eq_some_iff.mp H
  obtain ⟨t346, A40, H⟩ := H
  replace H : ((orthoepylaw00_Place.f a1 (wrap64 ((t346.length : Int) + 1))).bind fun t349 => (if 0 ≤ t349 then (if t349 ≤ (t346.length : Int) then ((orthoepyref03_Units.f k (t346.take (t349 : Int).toNat)).bind fun t354 => ((orthoepyref03_Units.f k (t346.drop (t349 : Int).toNat)).bind fun t361 => ((some (([] : List Int) : List Int)).bind fun y364 => (if y364.length + t354.length < 70368744177664 then ((some (y364 ++ t354 : List Int)).bind fun y367 => (if y367.length < 70368744177664 then ((some (y367 ++ [IntKind.u16.wrap (55296 + (Int.tmod a2 2048))] : List Int)).bind fun y370 => (if y370.length + t361.length < 70368744177664 then ((utf16_Scalars.f k (y370 ++ t361)).bind fun bt376 => (if bt376.2.2 = true then (some false) else (if bt376.2.1 = (t354.length : Int) then ((orthoepylaw03_awake.f).bind fun t381 => (some t381)) else (some false)))) else (none))) else (none))) else (none))))) else (none)) else (none))) = some r := H
  have A4 := Aside0.mk A40
  clear A40
  replace H := Option.bind_eq_some_iff.mp H
  obtain ⟨t349, A50, H⟩ := H
  replace H : (if 0 ≤ t349 then (if t349 ≤ (t346.length : Int) then ((orthoepyref03_Units.f k (t346.take (t349 : Int).toNat)).bind fun t354 => ((orthoepyref03_Units.f k (t346.drop (t349 : Int).toNat)).bind fun t361 => ((some (([] : List Int) : List Int)).bind fun y364 => (if y364.length + t354.length < 70368744177664 then ((some (y364 ++ t354 : List Int)).bind fun y367 => (if y367.length < 70368744177664 then ((some (y367 ++ [IntKind.u16.wrap (55296 + (Int.tmod a2 2048))] : List Int)).bind fun y370 => (if y370.length + t361.length < 70368744177664 then ((utf16_Scalars.f k (y370 ++ t361)).bind fun bt376 => (if bt376.2.2 = true then (some false) else (if bt376.2.1 = (t354.length : Int) then ((orthoepylaw03_awake.f).bind fun t381 => (some t381)) else (some false)))) else (none))) else (none))) else (none))))) else (none)) else (none)) = some r := H
  have A5 := Aside0.mk A50
  clear A50
  by_cases c6 : 0 ≤ t349
  · rw [if_pos c6] at H
    have c6b0 := eq_true c6
    have c6b1 : decide (0 ≤ t349) = true := decide_eq_true c6
    clear c6
    by_cases c7 : t349 ≤ (t346.length : Int)
    · rw [if_pos c7] at H
      have c7b0 := eq_true c7
      have c7b1 : decide (t349 ≤ (t346.length : Int)) = true := decide_eq_true c7
      clear c7
      obtain ⟨y350, hy350⟩ : ∃ y_ : List Int, y_ = (t346.take (t349 : Int).toNat) := ⟨_, rfl⟩
      replace H : ((orthoepyref03_Units.f k y350).bind fun t354 => ((orthoepyref03_Units.f k (t346.drop (t349 : Int).toNat)).bind fun t361 => ((some (([] : List Int) : List Int)).bind fun y364 => (if y364.length + t354.length < 70368744177664 then ((some (y364 ++ t354 : List Int)).bind fun y367 => (if y367.length < 70368744177664 then ((some (y367 ++ [IntKind.u16.wrap (55296 + (Int.tmod a2 2048))] : List Int)).bind fun y370 => (if y370.length + t361.length < 70368744177664 then ((utf16_Scalars.f k (y370 ++ t361)).bind fun bt376 => (if bt376.2.2 = true then (some false) else (if bt376.2.1 = (t354.length : Int) then ((orthoepylaw03_awake.f).bind fun t381 => (some t381)) else (some false)))) else (none))) else (none))) else (none))))) = some r := by first | (rw [hy350]; with_reducible exact H) | (have H2_ := (Option.bind_some _ _).symm.trans H; rw [hy350]; with_reducible exact H2_) | (have H2_ := (Option.bind_some _ _).symm.trans H; with_reducible exact H2_) | with_reducible exact H | (rw [hy350]; exact H) | exact H
      have Ny350 := Aside0.mk hy350
      clear hy350
      replace H := Option.bind_eq_some_iff.mp H
      obtain ⟨t354, A80, H⟩ := H
      replace H : ((orthoepyref03_Units.f k (t346.drop (t349 : Int).toNat)).bind fun t361 => ((some (([] : List Int) : List Int)).bind fun y364 => (if y364.length + t354.length < 70368744177664 then ((some (y364 ++ t354 : List Int)).bind fun y367 => (if y367.length < 70368744177664 then ((some (y367 ++ [IntKind.u16.wrap (55296 + (Int.tmod a2 2048))] : List Int)).bind fun y370 => (if y370.length + t361.length < 70368744177664 then ((utf16_Scalars.f k (y370 ++ t361)).bind fun bt376 => (if bt376.2.2 = true then (some false) else (if bt376.2.1 = (t354.length : Int) then ((orthoepylaw03_awake.f).bind fun t381 => (some t381)) else (some false)))) else (none))) else (none))) else (none)))) = some r := H
      have A8 := Aside0.mk A80
      clear A80
      have c9b0 := eq_true (of_decide_eq_true (by first | (with_reducible assumption) | assumption) : 0 ≤ t349)
      have c10b0 := eq_true (of_decide_eq_true (by first | (with_reducible assumption) | assumption) : t349 ≤ (t346.length : Int))
      obtain ⟨y357, hy357⟩ : ∃ y_ : List Int, y_ = (t346.drop (t349 : Int).toNat) := ⟨_, rfl⟩
      replace H : ((orthoepyref03_Units.f k y357).bind fun t361 => ((some (([] : List Int) : List Int)).bind fun y364 => (if y364.length + t354.length < 70368744177664 then ((some (y364 ++ t354 : List Int)).bind fun y367 => (if y367.length < 70368744177664 then ((some (y367 ++ [IntKind.u16.wrap (55296 + (Int.tmod a2 2048))] : List Int)).bind fun y370 => (if y370.length + t361.length < 70368744177664 then ((utf16_Scalars.f k (y370 ++ t361)).bind fun bt376 => (if bt376.2.2 = true then (some false) else (if bt376.2.1 = (t354.length : Int) then ((orthoepylaw03_awake.f).bind fun t381 => (some t381)) else (some false)))) else (none))) else (none))) else (none)))) = some r := by first | (rw [hy357]; with_reducible exact H) | (have H2_ := (Option.bind_some _ _).symm.trans H; rw [hy357]; with_reducible exact H2_) | (have H2_ := (Option.bind_some _ _).symm.trans H; with_reducible exact H2_) | with_reducible exact H | (rw [hy357]; exact H) | exact H
      have Ny357 := Aside0.mk hy357
      clear hy357
      replace H := Option.bind_eq_some_iff.mp H
      obtain ⟨t361, A110, H⟩ := H
      replace H : ((some (([] : List Int) : List Int)).bind fun y364 => (if y364.length + t354.length < 70368744177664 then ((some (y364 ++ t354 : List Int)).bind fun y367 => (if y367.length < 70368744177664 then ((some (y367 ++ [IntKind.u16.wrap (55296 + (Int.tmod a2 2048))] : List Int)).bind fun y370 => (if y370.length + t361.length < 70368744177664 then ((utf16_Scalars.f k (y370 ++ t361)).bind fun bt376 => (if bt376.2.2 = true then (some false) else (if bt376.2.1 = (t354.length : Int) then ((orthoepylaw03_awake.f).bind fun t381 => (some t381)) else (some false)))) else (none))) else (none))) else (none))) = some r := H
      have A11 := Aside0.mk A110
      clear A110
      obtain ⟨y364, hy364⟩ : ∃ y_ : List Int, y_ = (([] : List Int)) := ⟨_, rfl⟩
      replace H : (if y364.length + t354.length < 70368744177664 then ((some (y364 ++ t354 : List Int)).bind fun y367 => (if y367.length < 70368744177664 then ((some (y367 ++ [IntKind.u16.wrap (55296 + (Int.tmod a2 2048))] : List Int)).bind fun y370 => (if y370.length + t361.length < 70368744177664 then ((utf16_Scalars.f k (y370 ++ t361)).bind fun bt376 => (if bt376.2.2 = true then (some false) else (if bt376.2.1 = (t354.length : Int) then ((orthoepylaw03_awake.f).bind fun t381 => (some t381)) else (some false)))) else (none))) else (none))) else (none)) = some r := by first | (rw [hy364]; with_reducible exact H) | (have H2_ := (Option.bind_some _ _).symm.trans H; rw [hy364]; with_reducible exact H2_) | (have H2_ := (Option.bind_some _ _).symm.trans H; with_reducible exact H2_) | with_reducible exact H | (rw [hy364]; exact H) | exact H
      have Ny364 := Aside0.mk hy364
      clear hy364
      by_cases c12 : y364.length + t354.length < 70368744177664
      · rw [if_pos c12] at H
        have LMc12 := Aside0.mk c12
        clear c12
        obtain ⟨y367, hy367⟩ : ∃ y_ : List Int, y_ = (y364 ++ t354) := ⟨_, rfl⟩
        replace H : (if y367.length < 70368744177664 then ((some (y367 ++ [IntKind.u16.wrap (55296 + (Int.tmod a2 2048))] : List Int)).bind fun y370 => (if y370.length + t361.length < 70368744177664 then ((utf16_Scalars.f k (y370 ++ t361)).bind fun bt376 => (if bt376.2.2 = true then (some false) else (if bt376.2.1 = (t354.length : Int) then ((orthoepylaw03_awake.f).bind fun t381 => (some t381)) else (some false)))) else (none))) else (none)) = some r := by first | (rw [hy367]; with_reducible exact H) | (have H2_ := (Option.bind_some _ _).symm.trans H; rw [hy367]; with_reducible exact H2_) | (have H2_ := (Option.bind_some _ _).symm.trans H; with_reducible exact H2_) | with_reducible exact H | (rw [hy367]; exact H) | exact H
        have Ny367 := Aside0.mk hy367
        clear hy367
        by_cases c13 : y367.length < 70368744177664
        · rw [if_pos c13] at H
          have LMc13 := Aside0.mk c13
          clear c13
          obtain ⟨y370, hy370⟩ : ∃ y_ : List Int, y_ = (y367 ++ [IntKind.u16.wrap (55296 + (Int.tmod a2 2048))]) := ⟨_, rfl⟩
          replace H : (if y370.length + t361.length < 70368744177664 then ((utf16_Scalars.f k (y370 ++ t361)).bind fun bt376 => (if bt376.2.2 = true then (some false) else (if bt376.2.1 = (t354.length : Int) then ((orthoepylaw03_awake.f).bind fun t381 => (some t381)) else (some false)))) else (none)) = some r := by first | (rw [hy370]; with_reducible exact H) | (have H2_ := (Option.bind_some _ _).symm.trans H; rw [hy370]; with_reducible exact H2_) | (have H2_ := (Option.bind_some _ _).symm.trans H; with_reducible exact H2_) | with_reducible exact H | (rw [hy370]; exact H) | exact H
          have Ny370 := Aside0.mk hy370
          clear hy370
          by_cases c14 : y370.length + t361.length < 70368744177664
          · rw [if_pos c14] at H
            have LMc14 := Aside0.mk c14
            clear c14
            obtain ⟨y373, hy373⟩ : ∃ y_ : List Int, y_ = (y370 ++ t361) := ⟨_, rfl⟩
            replace H : ((utf16_Scalars.f k y373).bind fun bt376 => (if bt376.2.2 = true then (some false) else (if bt376.2.1 = (t354.length : Int) then ((orthoepylaw03_awake.f).bind fun t381 => (some t381)) else (some false)))) = some r := by first | (rw [hy373]; with_reducible exact H) | (have H2_ := (Option.bind_some _ _).symm.trans H; rw [hy373]; with_reducible exact H2_) | (have H2_ := (Option.bind_some _ _).symm.trans H; with_reducible exact H2_) | with_reducible exact H | (rw [hy373]; exact H) | exact H
            have Ny373 := Aside0.mk hy373
            clear hy373
            replace H := Option.bind_eq_some_iff.mp H
            obtain ⟨⟨t376, t377, t378⟩, A150, H⟩ := H
            replace H : (if t378 = true then (some false) else (if t377 = (t354.length : Int) then ((orthoepylaw03_awake.f).bind fun t381 => (some t381)) else (some false))) = some r := H
            have A15 := Aside0.mk A150
            clear A150
            by_cases c16 : t378 = true
            · subst c16
              have H1 : (some false) = some r := by rw [if_pos rfl] at H; exact H
              clear H
              have H := H1
              clear H1
              obtain rfl := Option.some.inj H
              exact absurd hT_.out (by decide)
            · replace c16 := Bool.eq_false_iff.mpr c16
              subst c16
              have H1 : (if t377 = (t354.length : Int) then ((orthoepylaw03_awake.f).bind fun t381 => (some t381)) else (some false)) = some r := by rw [if_neg (show ¬ (false = true) by decide)] at H; exact H
              clear H
              have H := H1
              clear H1
              by_cases c17 : t377 = (t354.length : Int)
              · rw [if_pos c17] at H
                have c17b0 : (t377 == (t354.length : Int)) = true := beq_iff_eq.mpr c17
                have c17b1 : (t377 != (t354.length : Int)) = false := bne_eq_false_iff_eq.mpr c17
                clear c17
                replace H := Option.bind_eq_some_iff.mp H
                obtain ⟨t381, A180, H⟩ := H
                replace H : (some t381) = some r := H
                have A18 := Aside0.mk A180
                clear A180
                obtain rfl := Option.some.inj H
                go_enter Try.func7, Try.ntmps7
                try go_wp2_with (first | ((with_reducible refine gate_callee (f := 17) rfl ?_); refine goesL_ (some 17) rfl rfl Try.func17 (by kernel_rfl) rfl #[.slice A0 l0.length c0] rfl (by (try simp only [List.map_toArray, List.map_cons, List.map_nil]); first | done | rfl | (simp only [List.length_drop, List.length_take]; rfl)) ?_; (with_reducible refine (orthoepylaw00_Runes.calls k _ _ l0 t346 _ ?side1 ?side2 A4.out).mono ?_); (case side1 => repeat (first | exact HR0.out | (with_reducible refine Kd.C_alloc ?_ _) | (with_reducible refine Kd.C_drewN ?_ _) | (with_reducible refine Kd.C_drew ?_))); (case side2 => exact HC0.out); rintro e w19 ⟨v347, rfl, ho0, hb⟩; refine ⟨_, rfl, ?_⟩; have n0_ := Aside0.mk (Kd.R_lower ho0 (below_size (by repeat (first | (with_reducible first | exact HB.out | apply below_alloc | apply pw_below_drewN | apply below_drew1) | exact HB.out)))); have n1_ := Aside0.mk (below_step (by repeat (first | (with_reducible first | exact HB.out | apply below_alloc | apply pw_below_drewN | apply below_drew1) | exact HB.out)) hb); clear HB; have HO348 := n0_; have HB := n1_; clear n0_ n1_; (try clear hb); (try clear hb2); (try clear hk); (try clear hi); (try clear ho0); obtain ⟨Ao20, co20, eo20⟩ := Kd.R_slice HO348.out; subst eo20) | ((with_reducible refine gate_callee (f := 22) rfl ?_); refine goesL_ (some 22) rfl rfl Try.func22 (by kernel_rfl) rfl #[.int .i64 a1, .int .i64 (wrap64 ((t346.length : Int) + 1))] rfl (by (try simp only [List.map_toArray, List.map_cons, List.map_nil]); first | done | rfl | (simp only [List.length_drop, List.length_take]; rfl)) ?_; (with_reducible refine (orthoepylaw00_Place.calls a1 (wrap64 ((t346.length : Int) + 1)) t349 _ A5.out).mono ?_); rintro e w' ⟨rfl, ⟨nd, rfl⟩⟩; refine ⟨_, rfl, ?_⟩))
                (try (rw [drewN_self w19]; generalize hq_ : World.drewN w19 _ = w19; have n0_ : Aside0 (Kd.R (Kd.int .i32) 21 w19 w.heap.size (fun _ => True) (.slice Ao20 t346.length co20) t346) := ⟨by rw [← hq_]; exact (by (with_reducible repeat (first | apply Kd.R_alloc | apply Kd.R_drewN | apply Kd.R_drew)); exact HO348.out)⟩; have n1_ : Aside0 (Below w.heap.size w w19) := ⟨by rw [← hq_]; exact (by repeat (first | (with_reducible first | exact HB.out | apply below_alloc | apply pw_below_drewN | apply below_drew1) | exact HB.out))⟩; clear HO348 HB hq_; have HO348 := n0_; have HB := n1_; clear n0_ n1_))
                have n0_ := Aside0.mk (Kd.R_drew HO348.out)
                have n1_ := Aside0.mk (below_drew1 HB.out)
                clear HO348
                clear HB
                have HO348 := n0_
                have HB := n1_
                clear n0_ n1_
                have q22 : (t349 : Int) ≤ ((t346.length : Int) : Int) := of_decide_eq_true (by first | (with_reducible assumption) | assumption)
                obtain ⟨i022, hi022, _, hsz22, _⟩ := info_parts info21
                have hroom22 : t346.length ≤ co20 := (Kd.R_reads' HO348.out).2.1
                have hC22 : Kd.C (Kd.int .i32) _ Ao20 t346.length t346 := (Kd.R_reads' HO348.out).2.2
                have hcut22 := cut_to (P := Try.prog) 22 21 .i64 Try.underlying22 hi022 Ao20 t346.length co20 t349 (of_decide_eq_true (by first | (with_reducible assumption) | assumption)) q22 hroom22
                have hr22 := Kd.C_take (m := (t349 : Int).toNat) hC22 (by omega)
                have hy22 : y350.length = (t349 : Int).toNat := (by rw [Ny350.out, List.length_take]; omega)
                rw [← Ny350.out] at hr22
                rw [← hy22] at hcut22
                have HR353 := Aside0.mk hr22
                have HC353 := Aside0.mk (show y350.length ≤ co20 from by omega)
                clear hr22 hC22 hroom22 hi022 hsz22
                have KY22 := Aside0.mk hy22
                clear hy22
                have KL22 := Aside0.mk (show (t349 : Int).toNat ≤ t346.length from by omega)
                replace q22 := eq_true q22
                have q23 : (t349 : Int) ≤ ((t346.length : Int) : Int) := of_decide_eq_true (by first | (with_reducible assumption) | assumption)
                obtain ⟨i023, hi023, _, hsz23, _⟩ := info_parts info21
                have hroom23 : t346.length ≤ co20 := (Kd.R_reads' HO348.out).2.1
                have hC23 : Kd.C (Kd.int .i32) _ Ao20 t346.length t346 := (Kd.R_reads' HO348.out).2.2
                have q023 : (0 : Int) ≤ (t349 : Int) := of_decide_eq_true (by first | (with_reducible assumption) | assumption)
                have hcut23 := cut_from (P := Try.prog) 22 21 .i64 Try.underlying22 hi023 1 hsz23 Ao20 t346.length co20 t349 q023 q23
                have hr23 := Kd.C_drop (m := (t349 : Int).toNat) (c := co20) hC23 (by omega) hroom23
                obtain ⟨A23, hA23⟩ : ∃ A1, A1 = (if co20 = (t349 : Int).toNat then Ao20 else (Ao20 : Option Addr).map (·.add ((t349 : Int).toNat * 1))) := ⟨_, rfl⟩
                obtain ⟨c23, hc23⟩ : ∃ c1, c1 = co20 - (t349 : Int).toNat := ⟨_, rfl⟩
                have hy23 : y357.length = t346.length - (t349 : Int).toNat := (by rw [Ny357.out, List.length_drop] <;> omega)
                rw [show (t346).drop (t349 : Int).toNat = y357 from Ny357.out.symm] at hr23
                replace hr23 : Kd.C (Kd.int .i32) _ A23 y357.length y357 := (by rw [hA23]; exact hr23)
                rw [← hy23, ← hA23, ← hc23] at hcut23
                have HR360 := Aside0.mk hr23
                have HC360 := Aside0.mk (show y357.length ≤ c23 from by rw [hy23, hc23]; exact Nat.sub_le_sub_right hroom23 _)
                clear hr23 hC23 hroom23 hi023 hsz23 hc23
                have KY23 := Aside0.mk hy23
                have KA23 := Aside0.mk hA23
                clear hy23 hA23
                have KL23 := Aside0.mk (show (t349 : Int).toNat ≤ t346.length from by omega)
                replace q23 := eq_true q23
                refine start_ (n := 10) (S := fun w' => True) (ds := []) #[false, false, false, false, false, false, false, false, false, false] (by kernel_rfl) rfl rfl trivial (fun hHeld => ?_); refine with_tabW orthoepylaw03_Utf16Lone.tab4 orthoepylaw03_Utf16Lone.bits4 (fun HT_ HW_ => ?_)
                generalize w19.drew = w21 at HO348 HB HR353 HR360 hHeld ⊢
                refine pure_ (i := 0) (N := some 26) (v := ?_) (a' := ?_) #[true, false, false, false, false, false, false, false, false, false] rfl rfl (any_of HT_.out (by kernel_rfl)) (fun _ _ _ h => h) (Or.inl ⟨by rfl, ?_⟩) ?_ ?_
                rotate_left
                · intro w'
                  go_simp
                  with_reducible rfl
                rotate_left
                · simp only [Act.put, List.setIfInBounds_toArray, List.set_cons_zero, List.set_cons_succ, i64_w, i32_w]
                  rfl
                refine pure_ (i := 1) (N := some 27) (v := ?_) (a' := ?_) #[true, true, false, false, false, false, false, false, false, false] rfl rfl (any_of HT_.out (by kernel_rfl)) (fun _ _ _ h => h) (Or.inl ⟨by rfl, ?_⟩) ?_ ?_
                rotate_left
                · intro w'
                  go_simp
                  with_reducible rfl
                rotate_left
                · simp only [Act.put, List.setIfInBounds_toArray, List.set_cons_zero, List.set_cons_succ, i64_w, i32_w]
                  rfl
                refine pure_ (i := 2) (N := some 28) (v := ?_) (a' := ?_) #[true, true, true, false, false, false, false, false, false, false] rfl rfl (any_of HT_.out (by kernel_rfl)) (fun _ _ _ h => h) (Or.inl ⟨by rfl, ?_⟩) ?_ ?_
                rotate_left
                · intro w'
                  go_simp
                  with_reducible rfl
                rotate_left
                · simp only [Act.put, List.setIfInBounds_toArray, List.set_cons_zero, List.set_cons_succ, i64_w, i32_w]
                  rfl
                refine pure_ (i := 4) (N := some 30) (v := ?_) (a' := ?_) #[true, true, true, false, true, false, false, false, false, false] rfl rfl (any_of HT_.out (by kernel_rfl)) (fun _ _ _ h => h) (Or.inl ⟨by rfl, ?_⟩) ?_ ?_
                rotate_left
                · intro w'
                  go_simp
                  with_reducible rfl
                rotate_left
                · simp only [Act.put, List.setIfInBounds_toArray, List.set_cons_zero, List.set_cons_succ, i64_w, i32_w]
                  rfl
                refine pure_ (i := 5) (N := some 31) (v := ?_) (a' := ?_) #[true, true, true, false, true, true, false, false, false, false] rfl rfl (any_of HT_.out (by kernel_rfl)) (fun _ _ _ h => h) (Or.inl ⟨by rfl, ?_⟩) ?_ ?_
                rotate_left
                · intro w'
                  go_simp
                  with_reducible rfl
                rotate_left
                · simp only [Act.put, List.setIfInBounds_toArray, List.set_cons_zero, List.set_cons_succ, i64_w, i32_w]
                  rfl
                refine pure_ (i := 6) (N := some 32) (v := ?_) (a' := ?_) #[true, true, true, false, true, true, true, false, false, false] rfl rfl (any_of HT_.out (by kernel_rfl)) (fun _ _ _ h => h) (Or.inl ⟨by rfl, ?_⟩) ?_ ?_
                rotate_left
                · intro w'
                  go_simp
                  with_reducible rfl
                rotate_left
                · simp only [Act.put, List.setIfInBounds_toArray, List.set_cons_zero, List.set_cons_succ, i64_w, i32_w]
                  rfl
                refine one_ (i := 3) (N := some 29) #[true, true, true, true, true, true, true, false, false, false] rfl rfl (one_of HT_.out (by kernel_rfl)) (by decide) (fun K hK => ?_)
                refine goes_ Try.func13 (by kernel_rfl) rfl #[.slice Ao20 y350.length co20] (by rfl) rfl rfl (by (try simp only [List.map_toArray, List.map_cons, List.map_nil]); first | done | rfl | (simp only [List.length_drop, List.length_take]; rfl)) ?_
                with_reducible refine (orthoepyref03_Units.calls k _ _ y350 t354 _ ?side1 ?side2 A8.out).mono ?_
                (case side1 => repeat (first | exact (by repeat (first | (with_reducible exact HR353.out) | (with_reducible refine Kd.C_alloc ?_ _) | (with_reducible refine Kd.C_drewN ?_ _) | (with_reducible refine Kd.C_drew ?_) | exact HR353.out)) | (with_reducible refine Kd.C_alloc ?_ _) | (with_reducible refine Kd.C_drewN ?_ _) | (with_reducible refine Kd.C_drew ?_)))
                (case side2 => exact HC353.out)
                rintro e w24 ⟨v355, rfl, ho0, hb⟩
                refine ⟨_, rfl, ?_⟩
                have n0_ := Aside0.mk (Kd.R_below (by (with_reducible repeat (first | apply Kd.R_alloc | apply Kd.R_drewN | apply Kd.R_drew)); exact HO348.out) hb)
                have n1_ := Aside0.mk (Kd.R_lower ho0 (below_size (by repeat (first | (with_reducible first | exact HB.out | apply below_alloc | apply pw_below_drewN | apply below_drew1) | exact HB.out))))
                have n2_ := Aside0.mk (Kd.C_below (by repeat (first | (with_reducible exact HR353.out) | (with_reducible refine Kd.C_alloc ?_ _) | (with_reducible refine Kd.C_drewN ?_ _) | (with_reducible refine Kd.C_drew ?_) | exact HR353.out)) hb)
                have n3_ := Aside0.mk (Kd.C_below (by repeat (first | (with_reducible exact HR360.out) | (with_reducible refine Kd.C_alloc ?_ _) | (with_reducible refine Kd.C_drewN ?_ _) | (with_reducible refine Kd.C_drew ?_) | exact HR360.out)) hb)
                have n4_ := Aside0.mk (below_step (by repeat (first | (with_reducible first | exact HB.out | apply below_alloc | apply pw_below_drewN | apply below_drew1) | exact HB.out)) hb)
                clear HO348
                clear HR353
                clear HR360
                clear HB
                have HO348 := n0_
                have HO356 := n1_
                have HR353 := n2_
                have HR360 := n3_
                have HB := n4_
                clear n0_ n1_ n2_ n3_ n4_
                (try clear hb)
                (try clear hb2)
                (try clear hk)
                (try clear hi)
                (try clear ho0)
                refine hK.out _ _ trivial (fun hHeld => ?_)
                clear hK K
                refine norm_ (a' := ?_) ?_ ?_
                rotate_left
                · show Act.put _ (some 29) _ = _
                  simp only [Act.put, List.setIfInBounds_toArray, List.set_cons_zero, List.set_cons_succ, i64_w, i32_w]
                  rfl
                refine one_ (i := 7) (N := some 33) #[true, true, true, true, true, true, true, true, false, false] rfl rfl (one_of HT_.out (by kernel_rfl)) (by decide) (fun K hK => ?_)
                refine goes_ Try.func13 (by kernel_rfl) rfl #[.slice A23 y357.length c23] (by rfl) rfl rfl (by (try simp only [List.map_toArray, List.map_cons, List.map_nil]); first | done | rfl | (simp only [List.length_drop, List.length_take]; rfl)) ?_
                with_reducible refine (orthoepyref03_Units.calls k _ _ y357 t361 _ ?side1 ?side2 A11.out).mono ?_
                (case side1 => repeat (first | exact (by repeat (first | (with_reducible exact HR360.out) | (with_reducible refine Kd.C_alloc ?_ _) | (with_reducible refine Kd.C_drewN ?_ _) | (with_reducible refine Kd.C_drew ?_) | exact HR360.out)) | (with_reducible refine Kd.C_alloc ?_ _) | (with_reducible refine Kd.C_drewN ?_ _) | (with_reducible refine Kd.C_drew ?_)))
                (case side2 => exact HC360.out)
                rintro e w25 ⟨v362, rfl, ho0, hb⟩
                refine ⟨_, rfl, ?_⟩
                have n0_ := Aside0.mk (Kd.R_below (by (with_reducible repeat (first | apply Kd.R_alloc | apply Kd.R_drewN | apply Kd.R_drew)); exact HO348.out) hb)
                have n1_ := Aside0.mk (Kd.R_elder' (by (with_reducible repeat (first | apply Kd.R_alloc | apply Kd.R_drewN | apply Kd.R_drew)); exact HO356.out) (Kd.R_base ho0) hb)
                have n2_ := Aside0.mk (Kd.R_lower (Kd.R_new' ho0 (Kd.R_lt (by (with_reducible repeat (first | apply Kd.R_alloc | apply Kd.R_drewN | apply Kd.R_drew)); exact HO356.out))) (below_size (by repeat (first | (with_reducible first | exact HB.out | apply below_alloc | apply pw_below_drewN | apply below_drew1) | exact HB.out))))
                have n3_ := Aside0.mk (Kd.C_below (by repeat (first | (with_reducible exact HR353.out) | (with_reducible refine Kd.C_alloc ?_ _) | (with_reducible refine Kd.C_drewN ?_ _) | (with_reducible refine Kd.C_drew ?_) | exact HR353.out)) hb)
                have n4_ := Aside0.mk (Kd.C_below (by repeat (first | (with_reducible exact HR360.out) | (with_reducible refine Kd.C_alloc ?_ _) | (with_reducible refine Kd.C_drewN ?_ _) | (with_reducible refine Kd.C_drew ?_) | exact HR360.out)) hb)
                have n5_ := Aside0.mk (below_step (by repeat (first | (with_reducible first | exact HB.out | apply below_alloc | apply pw_below_drewN | apply below_drew1) | exact HB.out)) hb)
                clear HO348
                clear HO356
                clear HR353
                clear HR360
                clear HB
                have HO348 := n0_
                have HO356 := n1_
                have HO363 := n2_
                have HR353 := n3_
                have HR360 := n4_
                have HB := n5_
                clear n0_ n1_ n2_ n3_ n4_ n5_
                (try clear hb)
                (try clear hb2)
                (try clear hk)
                (try clear hi)
                (try clear ho0)
                refine hK.out _ _ trivial (fun hHeld => ?_)
                clear hK K
                refine norm_ (a' := ?_) ?_ ?_
                rotate_left
                · show Act.put _ (some 33) _ = _
                  simp only [Act.put, List.setIfInBounds_toArray, List.set_cons_zero, List.set_cons_succ, i64_w, i32_w]
                  rfl
                refine pure_ (i := 8) (N := some 10) (v := ?_) (a' := ?_) #[true, true, true, true, true, true, true, true, true, false] rfl rfl (any_of HT_.out (by kernel_rfl)) (fun _ _ _ h => h) (Or.inl ⟨by rfl, ?_⟩) ?_ ?_
                rotate_left
                · intro w'
                  go_simp
                  with_reducible rfl
                rotate_left
                · simp only [Act.put, List.setIfInBounds_toArray, List.set_cons_zero, List.set_cons_succ, i64_w, i32_w]
                  rfl
                refine pure_ (i := 9) (N := some 11) (v := ?_) (a' := ?_) #[true, true, true, true, true, true, true, true, true, true] rfl rfl (any_of HT_.out (by kernel_rfl)) (fun _ _ _ h => h) (Or.inl ⟨by rfl, ?_⟩) ?_ ?_
                rotate_left
                · intro w'
                  go_simp
                  with_reducible rfl
                rotate_left
                · simp only [Act.put, List.setIfInBounds_toArray, List.set_cons_zero, List.set_cons_succ, i64_w, i32_w]
                  rfl
                refine done_ (done_of HT_.out (by kernel_rfl)) ?_
                try go_wp2_with (first | ((with_reducible refine gate_dst (N := 34) rfl ?_); (try (refine gate_guard (by rfl) ?_; dsimp only)); refine Kd.R_lit (Kd.int .u16) _ 43 ?hg (N := 34) ?hd (xs := ([] : List Int)) (inner := []) (ok := fun _ => True) (okp := fun _ => True) ?hr ?hp (fun _ hk => hk) trivial (Below.refl _ _) (Nat.le_refl _) (by simp) ?_; (case hd => rfl); (case hg => rfl); (case hr => first | (go_simp; done) | (go_simp; rfl)); (case hp => exact (Reps.none _ _)); intro v365 w26 ho27 hb hg_ hnew_; clear hg_ hnew_; (first | rw [← Ny364.out] at ho27 | (simp only [Int.reduceToNat] at ho27; rw [← Ny364.out] at ho27)); have n0_ := Aside0.mk (Kd.R_below (by (with_reducible repeat (first | apply Kd.R_alloc | apply Kd.R_drewN | apply Kd.R_drew)); exact HO348.out) hb); have n1_ := Aside0.mk (Kd.R_elder' (by (with_reducible repeat (first | apply Kd.R_alloc | apply Kd.R_drewN | apply Kd.R_drew)); exact HO356.out) (Kd.R_base ho27) hb); have n2_ := Aside0.mk (Kd.R_elder' (by (with_reducible repeat (first | apply Kd.R_alloc | apply Kd.R_drewN | apply Kd.R_drew)); exact HO363.out) (Kd.R_base ho27) hb); have n3_ := Aside0.mk (Kd.R_lower (Kd.R_new' (Kd.R_new' ho27 (Kd.R_lt (by (with_reducible repeat (first | apply Kd.R_alloc | apply Kd.R_drewN | apply Kd.R_drew)); exact HO356.out))) (Kd.R_lt (by (with_reducible repeat (first | apply Kd.R_alloc | apply Kd.R_drewN | apply Kd.R_drew)); exact HO363.out))) (below_size (by repeat (first | (with_reducible first | exact HB.out | apply below_alloc | apply pw_below_drewN | apply below_drew1) | exact HB.out)))); have n4_ := Aside0.mk (Kd.C_below (by repeat (first | (with_reducible exact HR353.out) | (with_reducible refine Kd.C_alloc ?_ _) | (with_reducible refine Kd.C_drewN ?_ _) | (with_reducible refine Kd.C_drew ?_) | exact HR353.out)) hb); have n5_ := Aside0.mk (Kd.C_below (by repeat (first | (with_reducible exact HR360.out) | (with_reducible refine Kd.C_alloc ?_ _) | (with_reducible refine Kd.C_drewN ?_ _) | (with_reducible refine Kd.C_drew ?_) | exact HR360.out)) hb); have n6_ := Aside0.mk (below_step (by repeat (first | (with_reducible first | exact HB.out | apply below_alloc | apply pw_below_drewN | apply below_drew1) | exact HB.out)) hb); clear HO348; clear HO356; clear HO363; clear HR353; clear HR360; clear HB; have HO348 := n0_; have HO356 := n1_; have HO363 := n2_; have HO366 := n3_; have HR353 := n4_; have HR360 := n5_; have HB := n6_; clear n0_ n1_ n2_ n3_ n4_ n5_ n6_; clear hb ho27; obtain ⟨Ao29, co29, eo29⟩ := Kd.R_slice HO356.out; subst eo29) | ((with_reducible refine gate_builtin (b := .append) (xs := #[.tmp 34, .tmp 35]) rfl ?_); (try (refine gate_guard (by rfl) ?_; dsimp only)); at_builtin; refine Kd.R_append_rows (Kd.int .u16) (w0 := w) w.heap.size rfl (.tmp 34) (.tmp 35) 23 43 (.int .u16 0) 2 rfl Try.underlying23 info43 rfl (by decide) (by omega) v365 y364 t354 _ _ _ (fun k_ => some k_ ≠ (.slice Ao29 t354.length co29 : Value).ownBlock ∧ some k_ ≠ (v362 : Value).ownBlock) (fun _ => False) rfl rfl ?aO ?aR (fun _ _ h => h) (fun _ h => h.elim) ?aF ?aB ?aS ?aL ?_; (case aR => repeat (first | exact (Kd.R_reads' HO356.out).2.2 | (with_reducible refine Kd.C_alloc ?_ _) | (with_reducible refine Kd.C_drewN ?_ _) | (with_reducible refine Kd.C_drew ?_))); (case aB => exact (by repeat (first | (with_reducible first | exact HB.out | apply below_alloc | apply pw_below_drewN | apply below_drew1) | exact HB.out))); (case aF => exact (fun k_ hk => ⟨Kd.fresh' (Kd.R_lt (by (with_reducible repeat (first | apply Kd.R_alloc | apply Kd.R_drewN | apply Kd.R_drew)); exact HO356.out)) k_ hk, Kd.fresh' (Kd.R_lt (by (with_reducible repeat (first | apply Kd.R_alloc | apply Kd.R_drewN | apply Kd.R_drew)); exact HO363.out)) k_ hk⟩)); (case aO => exact (by (with_reducible repeat (first | apply Kd.R_alloc | apply Kd.R_drewN | apply Kd.R_drew)); exact Kd.R_mono HO366.out (fun _ hk => ⟨hk.1.2, hk.2⟩))); (case aS => exact (below_size (by repeat (first | (with_reducible first | exact HB.out | apply below_alloc | apply pw_below_drewN | apply below_drew1) | exact HB.out)))); (case aL => have := LMc12.out; omega); intro v368 w28 ho hb hg hat; rw [← Ny367.out] at ho; have n0_ := Aside0.mk (Kd.R_over' (by (with_reducible repeat (first | apply Kd.R_alloc | apply Kd.R_drewN | apply Kd.R_drew)); exact HO348.out) (Kd.R_typed (by (with_reducible repeat (first | apply Kd.R_alloc | apply Kd.R_drewN | apply Kd.R_drew)); exact HO366.out)) (by decide) hg); have n1_ := Aside0.mk (Kd.R_after (ok := (fun k_ => some k_ ≠ (v362 : Value).ownBlock)) (by (with_reducible repeat (first | apply Kd.R_alloc | apply Kd.R_drewN | apply Kd.R_drew)); exact Kd.R_mono HO356.out (fun _ hk => ⟨hk.1.2, hk.2⟩)) hg hat); have n2_ := Aside0.mk (Kd.R_after (ok := (fun k_ => some k_ ≠ (.slice Ao29 t354.length co29 : Value).ownBlock)) (by (with_reducible repeat (first | apply Kd.R_alloc | apply Kd.R_drewN | apply Kd.R_drew)); exact Kd.R_mono HO363.out (fun _ hk => ⟨hk.1.2, hk.2⟩)) hg hat); have n3_ := Aside0.mk (hb); have n4_ := Aside0.mk ((show Kd.C (Kd.int .i32) w28 Ao20 y350.length y350 from by rw [Ny350.out]; exact Kd.C_take (m := (t349 : Int).toNat) ((Kd.R_reads' (Kd.R_over' (by (with_reducible repeat (first | apply Kd.R_alloc | apply Kd.R_drewN | apply Kd.R_drew)); exact HO348.out) (Kd.R_typed (by (with_reducible repeat (first | apply Kd.R_alloc | apply Kd.R_drewN | apply Kd.R_drew)); exact HO366.out)) (by decide) hg)).2.2) KL22.out)); have n5_ := Aside0.mk ((show Kd.C (Kd.int .i32) w28 A23 y357.length y357 from by rw [Ny357.out, KA23.out]; exact Kd.C_drop (m := (t349 : Int).toNat) (c := co20) ((Kd.R_reads' (Kd.R_over' (by (with_reducible repeat (first | apply Kd.R_alloc | apply Kd.R_drewN | apply Kd.R_drew)); exact HO348.out) (Kd.R_typed (by (with_reducible repeat (first | apply Kd.R_alloc | apply Kd.R_drewN | apply Kd.R_drew)); exact HO366.out)) (by decide) hg)).2.2) KL23.out ((Kd.R_reads' (Kd.R_over' (by (with_reducible repeat (first | apply Kd.R_alloc | apply Kd.R_drewN | apply Kd.R_drew)); exact HO348.out) (Kd.R_typed (by (with_reducible repeat (first | apply Kd.R_alloc | apply Kd.R_drewN | apply Kd.R_drew)); exact HO366.out)) (by decide) hg)).2.1))); have n6_ := Aside0.mk (ho); clear HO348; clear HO356; clear HO363; clear HB; clear HR353; clear HR360; clear HO366; have HO348 := n0_; have HO356 := n1_; have HO363 := n2_; have HB := n3_; have HR353 := n4_; have HR360 := n5_; have HO369 := n6_; clear n0_ n1_ n2_ n3_ n4_ n5_ n6_; clear ho hb hg hat) | ((with_reducible refine gate_builtin (b := .append) (xs := #[.tmp 36, .tmp 38]) rfl ?_); (try (refine gate_guard (by rfl) ?_; dsimp only)); at_builtin; refine Kd.R_append (Kd.int .u16) (w0 := w) w.heap.size rfl (.tmp 36) (.tmp 38) 23 43 (.int .u16 0) 2 rfl Try.underlying23 info43 rfl (by decide) (by omega) v368 y367 (IntKind.u16.wrap (55296 + (Int.tmod a2 2048))) [.int .u16 (IntKind.u16.wrap (55296 + (Int.tmod a2 2048)))] (fun k_ => some k_ ≠ (.slice Ao29 t354.length co29 : Value).ownBlock ∧ some k_ ≠ (v362 : Value).ownBlock) (fun _ => False) rfl rfl ?aP (fun _ hk => hk.elim) ?aF ?aO ?aB ?aS ?aL ?_; (case aP => exact rfl); (case aB => exact (by repeat (first | (with_reducible first | exact HB.out | apply below_alloc | apply pw_below_drewN | apply below_drew1) | exact HB.out))); (case aF => exact (fun k_ hk => ⟨Kd.fresh' (Kd.R_lt (by (with_reducible repeat (first | apply Kd.R_alloc | apply Kd.R_drewN | apply Kd.R_drew)); exact HO356.out)) k_ hk, Kd.fresh' (Kd.R_lt (by (with_reducible repeat (first | apply Kd.R_alloc | apply Kd.R_drewN | apply Kd.R_drew)); exact HO363.out)) k_ hk⟩)); (case aO => exact (by (with_reducible repeat (first | apply Kd.R_alloc | apply Kd.R_drewN | apply Kd.R_drew)); exact HO369.out)); (case aS => exact (below_size (by repeat (first | (with_reducible first | exact HB.out | apply below_alloc | apply pw_below_drewN | apply below_drew1) | exact HB.out)))); (case aL => have := LMc13.out; omega); intro v371 w30 ho hb hg hat; rw [← Ny370.out] at ho; have n0_ := Aside0.mk (Kd.R_over' (by (with_reducible repeat (first | apply Kd.R_alloc | apply Kd.R_drewN | apply Kd.R_drew)); exact HO348.out) (Kd.R_typed (by (with_reducible repeat (first | apply Kd.R_alloc | apply Kd.R_drewN | apply Kd.R_drew)); exact HO369.out)) (by decide) hg); have n1_ := Aside0.mk (Kd.R_after (ok := (fun k_ => some k_ ≠ (v362 : Value).ownBlock)) (by (with_reducible repeat (first | apply Kd.R_alloc | apply Kd.R_drewN | apply Kd.R_drew)); exact HO356.out) hg hat); have n2_ := Aside0.mk (Kd.R_after (ok := (fun k_ => some k_ ≠ (.slice Ao29 t354.length co29 : Value).ownBlock)) (by (with_reducible repeat (first | apply Kd.R_alloc | apply Kd.R_drewN | apply Kd.R_drew)); exact HO363.out) hg hat); have n3_ := Aside0.mk (hb); have n4_ := Aside0.mk ((show Kd.C (Kd.int .i32) w30 Ao20 y350.length y350 from by rw [Ny350.out]; exact Kd.C_take (m := (t349 : Int).toNat) ((Kd.R_reads' (Kd.R_over' (by (with_reducible repeat (first | apply Kd.R_alloc | apply Kd.R_drewN | apply Kd.R_drew)); exact HO348.out) (Kd.R_typed (by (with_reducible repeat (first | apply Kd.R_alloc | apply Kd.R_drewN | apply Kd.R_drew)); exact HO369.out)) (by decide) hg)).2.2) KL22.out)); have n5_ := Aside0.mk ((show Kd.C (Kd.int .i32) w30 A23 y357.length y357 from by rw [Ny357.out, KA23.out]; exact Kd.C_drop (m := (t349 : Int).toNat) (c := co20) ((Kd.R_reads' (Kd.R_over' (by (with_reducible repeat (first | apply Kd.R_alloc | apply Kd.R_drewN | apply Kd.R_drew)); exact HO348.out) (Kd.R_typed (by (with_reducible repeat (first | apply Kd.R_alloc | apply Kd.R_drewN | apply Kd.R_drew)); exact HO369.out)) (by decide) hg)).2.2) KL23.out ((Kd.R_reads' (Kd.R_over' (by (with_reducible repeat (first | apply Kd.R_alloc | apply Kd.R_drewN | apply Kd.R_drew)); exact HO348.out) (Kd.R_typed (by (with_reducible repeat (first | apply Kd.R_alloc | apply Kd.R_drewN | apply Kd.R_drew)); exact HO369.out)) (by decide) hg)).2.1))); have n6_ := Aside0.mk (ho); clear HO348; clear HO356; clear HO363; clear HB; clear HR353; clear HR360; clear HO369; have HO348 := n0_; have HO356 := n1_; have HO363 := n2_; have HB := n3_; have HR353 := n4_; have HR360 := n5_; have HO372 := n6_; clear n0_ n1_ n2_ n3_ n4_ n5_ n6_; clear ho hb hg hat; obtain ⟨Ao32, co32, eo32⟩ := Kd.R_slice HO363.out; subst eo32) | ((with_reducible refine gate_builtin (b := .append) (xs := #[.tmp 39, .tmp 40]) rfl ?_); (try (refine gate_guard (by rfl) ?_; dsimp only)); at_builtin; refine Kd.R_append_rows (Kd.int .u16) (w0 := w) w.heap.size rfl (.tmp 39) (.tmp 40) 23 43 (.int .u16 0) 2 rfl Try.underlying23 info43 rfl (by decide) (by omega) v371 y370 t361 _ _ _ (fun k_ => some k_ ≠ (.slice Ao29 t354.length co29 : Value).ownBlock ∧ some k_ ≠ (.slice Ao32 t361.length co32 : Value).ownBlock) (fun _ => False) rfl rfl ?aO ?aR (fun _ _ h => h) (fun _ h => h.elim) ?aF ?aB ?aS ?aL ?_; (case aR => repeat (first | exact (Kd.R_reads' HO363.out).2.2 | (with_reducible refine Kd.C_alloc ?_ _) | (with_reducible refine Kd.C_drewN ?_ _) | (with_reducible refine Kd.C_drew ?_))); (case aB => exact (by repeat (first | (with_reducible first | exact HB.out | apply below_alloc | apply pw_below_drewN | apply below_drew1) | exact HB.out))); (case aF => exact (fun k_ hk => ⟨Kd.fresh' (Kd.R_lt (by (with_reducible repeat (first | apply Kd.R_alloc | apply Kd.R_drewN | apply Kd.R_drew)); exact HO356.out)) k_ hk, Kd.fresh' (Kd.R_lt (by (with_reducible repeat (first | apply Kd.R_alloc | apply Kd.R_drewN | apply Kd.R_drew)); exact HO363.out)) k_ hk⟩)); (case aO => exact (by (with_reducible repeat (first | apply Kd.R_alloc | apply Kd.R_drewN | apply Kd.R_drew)); exact HO372.out)); (case aS => exact (below_size (by repeat (first | (with_reducible first | exact HB.out | apply below_alloc | apply pw_below_drewN | apply below_drew1) | exact HB.out)))); (case aL => have := LMc14.out; omega); intro v374 w31 ho hb hg hat; rw [← Ny373.out] at ho; have n0_ := Aside0.mk (Kd.R_over' (by (with_reducible repeat (first | apply Kd.R_alloc | apply Kd.R_drewN | apply Kd.R_drew)); exact HO348.out) (Kd.R_typed (by (with_reducible repeat (first | apply Kd.R_alloc | apply Kd.R_drewN | apply Kd.R_drew)); exact HO372.out)) (by decide) hg); have n1_ := Aside0.mk (Kd.R_after (ok := (fun k_ => some k_ ≠ (.slice Ao32 t361.length co32 : Value).ownBlock)) (by (with_reducible repeat (first | apply Kd.R_alloc | apply Kd.R_drewN | apply Kd.R_drew)); exact HO356.out) hg hat); have n2_ := Aside0.mk (Kd.R_after (ok := (fun k_ => some k_ ≠ (.slice Ao29 t354.length co29 : Value).ownBlock)) (by (with_reducible repeat (first | apply Kd.R_alloc | apply Kd.R_drewN | apply Kd.R_drew)); exact HO363.out) hg hat); have n3_ := Aside0.mk (hb); have n4_ := Aside0.mk ((show Kd.C (Kd.int .i32) w31 Ao20 y350.length y350 from by rw [Ny350.out]; exact Kd.C_take (m := (t349 : Int).toNat) ((Kd.R_reads' (Kd.R_over' (by (with_reducible repeat (first | apply Kd.R_alloc | apply Kd.R_drewN | apply Kd.R_drew)); exact HO348.out) (Kd.R_typed (by (with_reducible repeat (first | apply Kd.R_alloc | apply Kd.R_drewN | apply Kd.R_drew)); exact HO372.out)) (by decide) hg)).2.2) KL22.out)); have n5_ := Aside0.mk ((show Kd.C (Kd.int .i32) w31 A23 y357.length y357 from by rw [Ny357.out, KA23.out]; exact Kd.C_drop (m := (t349 : Int).toNat) (c := co20) ((Kd.R_reads' (Kd.R_over' (by (with_reducible repeat (first | apply Kd.R_alloc | apply Kd.R_drewN | apply Kd.R_drew)); exact HO348.out) (Kd.R_typed (by (with_reducible repeat (first | apply Kd.R_alloc | apply Kd.R_drewN | apply Kd.R_drew)); exact HO372.out)) (by decide) hg)).2.2) KL23.out ((Kd.R_reads' (Kd.R_over' (by (with_reducible repeat (first | apply Kd.R_alloc | apply Kd.R_drewN | apply Kd.R_drew)); exact HO348.out) (Kd.R_typed (by (with_reducible repeat (first | apply Kd.R_alloc | apply Kd.R_drewN | apply Kd.R_drew)); exact HO372.out)) (by decide) hg)).2.1))); have n6_ := Aside0.mk (ho); clear HO348; clear HO356; clear HO363; clear HB; clear HR353; clear HR360; clear HO372; have HO348 := n0_; have HO356 := n1_; have HO363 := n2_; have HB := n3_; have HR353 := n4_; have HR360 := n5_; have HO375 := n6_; clear n0_ n1_ n2_ n3_ n4_ n5_ n6_; clear ho hb hg hat; obtain ⟨Ao33, co33, eo33⟩ := Kd.R_slice HO375.out; subst eo33) | ((with_reducible refine gate_callee (f := 9) rfl ?_); refine goesL_ (some 44) rfl rfl Try.func9 (by kernel_rfl) rfl #[.slice Ao33 y373.length co33] rfl (by (try simp only [List.map_toArray, List.map_cons, List.map_nil]); first | done | rfl | (simp only [List.length_drop, List.length_take]; rfl)) ?_; (with_reducible refine (utf16_Scalars.calls k _ _ y373 t376 t377 false _ ?side1 ?side2 A15.out).mono ?_); (case side1 => repeat (first | exact (Kd.R_reads' HO375.out).2.2 | (with_reducible refine Kd.C_alloc ?_ _) | (with_reducible refine Kd.C_drewN ?_ _) | (with_reducible refine Kd.C_drew ?_))); (case side2 => exact (Kd.R_reads' HO375.out).2.1); rintro e w34 ⟨v379, rfl, ho0, hb⟩; refine ⟨_, rfl, ?_⟩; have n0_ := Aside0.mk (Kd.R_elder' (by (with_reducible repeat (first | apply Kd.R_alloc | apply Kd.R_drewN | apply Kd.R_drew)); exact HO348.out) (Kd.R_base ho0) hb); have n1_ := Aside0.mk (Kd.R_below (by (with_reducible repeat (first | apply Kd.R_alloc | apply Kd.R_drewN | apply Kd.R_drew)); exact HO356.out) hb); have n2_ := Aside0.mk (Kd.R_below (by (with_reducible repeat (first | apply Kd.R_alloc | apply Kd.R_drewN | apply Kd.R_drew)); exact HO363.out) hb); have n3_ := Aside0.mk (Kd.R_below (by (with_reducible repeat (first | apply Kd.R_alloc | apply Kd.R_drewN | apply Kd.R_drew)); exact HO375.out) hb); have n4_ := Aside0.mk (Kd.R_lower (Kd.R_new' ho0 (Kd.R_lt (by (with_reducible repeat (first | apply Kd.R_alloc | apply Kd.R_drewN | apply Kd.R_drew)); exact HO348.out))) (below_size (by repeat (first | (with_reducible first | exact HB.out | apply below_alloc | apply pw_below_drewN | apply below_drew1) | exact HB.out)))); have n5_ := Aside0.mk (Kd.C_below (by repeat (first | (with_reducible exact HR353.out) | (with_reducible refine Kd.C_alloc ?_ _) | (with_reducible refine Kd.C_drewN ?_ _) | (with_reducible refine Kd.C_drew ?_) | exact HR353.out)) hb); have n6_ := Aside0.mk (Kd.C_below (by repeat (first | (with_reducible exact HR360.out) | (with_reducible refine Kd.C_alloc ?_ _) | (with_reducible refine Kd.C_drewN ?_ _) | (with_reducible refine Kd.C_drew ?_) | exact HR360.out)) hb); have n7_ := Aside0.mk (below_step (by repeat (first | (with_reducible first | exact HB.out | apply below_alloc | apply pw_below_drewN | apply below_drew1) | exact HB.out)) hb); clear HO348; clear HO356; clear HO363; clear HO375; clear HR353; clear HR360; clear HB; have HO348 := n0_; have HO356 := n1_; have HO363 := n2_; have HO375 := n3_; have HO380 := n4_; have HR353 := n5_; have HR360 := n6_; have HB := n7_; clear n0_ n1_ n2_ n3_ n4_ n5_ n6_ n7_; (try clear hb); (try clear hb2); (try clear hk); (try clear hi); (try clear ho0)) | (go_at_call 8; (with_reducible refine (orthoepylaw03_awake.calls  t381 _ A18.out).mono ?_); rintro e w35 ⟨rfl, hb⟩; have n0_ := Aside0.mk (Kd.R_below (by (with_reducible repeat (first | apply Kd.R_alloc | apply Kd.R_drewN | apply Kd.R_drew)); exact HO348.out) hb); have n1_ := Aside0.mk (Kd.R_below (by (with_reducible repeat (first | apply Kd.R_alloc | apply Kd.R_drewN | apply Kd.R_drew)); exact HO356.out) hb); have n2_ := Aside0.mk (Kd.R_below (by (with_reducible repeat (first | apply Kd.R_alloc | apply Kd.R_drewN | apply Kd.R_drew)); exact HO363.out) hb); have n3_ := Aside0.mk (Kd.R_below (by (with_reducible repeat (first | apply Kd.R_alloc | apply Kd.R_drewN | apply Kd.R_drew)); exact HO375.out) hb); have n4_ := Aside0.mk (Kd.R_below (by (with_reducible repeat (first | apply Kd.R_alloc | apply Kd.R_drewN | apply Kd.R_drew)); exact HO380.out) hb); have n5_ := Aside0.mk (Kd.C_below (by repeat (first | (with_reducible exact HR353.out) | (with_reducible refine Kd.C_alloc ?_ _) | (with_reducible refine Kd.C_drewN ?_ _) | (with_reducible refine Kd.C_drew ?_) | exact HR353.out)) hb); have n6_ := Aside0.mk (Kd.C_below (by repeat (first | (with_reducible exact HR360.out) | (with_reducible refine Kd.C_alloc ?_ _) | (with_reducible refine Kd.C_drewN ?_ _) | (with_reducible refine Kd.C_drew ?_) | exact HR360.out)) hb); have n7_ := Aside0.mk (below_step (by repeat (first | (with_reducible first | exact HB.out | apply below_alloc | apply pw_below_drewN | apply below_drew1) | exact HB.out)) hb); clear HO348; clear HO356; clear HO363; clear HO375; clear HO380; clear HR353; clear HR360; clear HB; have HO348 := n0_; have HO356 := n1_; have HO363 := n2_; have HO375 := n3_; have HO380 := n4_; have HR353 := n5_; have HR360 := n6_; have HB := n7_; clear n0_ n1_ n2_ n3_ n4_ n5_ n6_ n7_; (try clear hb); (try clear hb2); (try clear hk); (try clear hi)))
                go_ret
                exact ⟨by first | rfl | (simp [errW_none, errW_some] <;> rfl) | (simp [*, errW_none, errW_some] <;> rfl), by repeat (first | (with_reducible first | exact HB.out | apply below_alloc | apply pw_below_drewN | apply below_drew1) | exact HB.out)⟩
              · rw [if_neg c17] at H
                have c17b0 : (t377 == (t354.length : Int)) = false := beq_eq_false_iff_ne.mpr c17
                have c17b1 : (t377 != (t354.length : Int)) = true := bne_iff_ne.mpr c17
                obtain rfl := Option.some.inj H
                exact absurd hT_.out (by decide)
          · rw [if_neg c14] at H
            exact absurd H (by simp)
        · rw [if_neg c13] at H
          exact absurd H (by simp)
      · rw [if_neg c12] at H
        exact absurd H (by simp)
    · rw [if_neg c7] at H
      exact absurd H (by simp)
  · rw [if_neg c6] at H
    exact absurd H (by simp)

/-- THE ONE PURE STATEMENT of orthoepylaw03_Utf16Lone: yours. -/
def orthoepylaw03_Utf16Lone.Pure : Prop := ∀ (l0 : List Int) (a1 : Int) (a2 : Int), l0.length ≤ maxLen → l0.length * 8 ≤ 140737488351232 → (∀ x ∈ l0, (Lit.int .i64 x).wf = true) → (Lit.int .i64 a1).wf = true → (Lit.int .u16 a2).wf = true → ∃ k, orthoepylaw03_Utf16Lone.f k l0 a1 a2 = some true
theorem orthoepylaw03_Utf16Lone.walk (P : orthoepylaw03_Utf16Lone.Pure) (a0 : Option Addr) (len0 cap0 : Nat) (z0 : List Int) (a1 : Int) (a2 : Int) (w : World) (w0 : (a0 = none ∧ len0 = 0 ∧ cap0 = 0 ∧ z0 = []) ∨ ∃ x, a0 = some x ∧ len0 ≤ cap0 ∧ cap0 ≤ maxLen ∧ z0.length = cap0 ∧ (∀ i, i < z0.length → w.cell? (x.add i) = some (.int .i64 (z0.getD i 0))) ∧ ∀ n ∈ z0, (Lit.int .i64 n).wf = true) (y0 : len0 * 8 ≤ 140737488351232) (w1 : (Lit.int .i64 a1).wf = true) (w2 : (Lit.int .u16 a2).wf = true) :
    Calls Try.prog 7 #[.slice a0 len0 cap0, .int .i64 a1, .int .u16 a2] w fun e w' => e = .returned (.bool true) ∧ Below w.heap.size w w' := by
  obtain ⟨l0, rfl, hr0, hm0, hw0, hc0⟩ := ReadsInt.ofRowC w0
  obtain ⟨k, h⟩ := P l0 a1 a2 hm0 y0 hw0 w1 w2
  refine (orthoepylaw03_Utf16Lone.calls k _ _ l0 a1 a2 true w (Kd.C_of_reads (d := (0 : Int)) (h1 := fun _ => rfl) hr0) hc0 h ⟨rfl⟩).mono ?_
  rintro e w' ⟨rfl, hd⟩
  exact ⟨rfl, hd⟩

end Go.Proofs.Ythgloaihgpcjjaa.PAll
