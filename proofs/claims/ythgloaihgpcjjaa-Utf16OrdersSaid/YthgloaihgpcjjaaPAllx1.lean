-- The machine's side of laws, written by a program of this session (wip/gen/pp.sh). Lean checks it.
import Derived.Test.YthgloaihgpcjjaaPAllx0
namespace Go.Proofs.Ythgloaihgpcjjaa.PAll
open Go.RowKit Go.Proofs.YthgloaihgpcjjaaW.PrintWords Go.Proofs.YthgloaihgpcjjaaW.PrintLast Go.Proofs.YthgloaihgpcjjaaW.PrintMore
attribute [local go_sem] max2_int min2_int max_two min_two max_three min_three max_four min_four   -- for this text's walks alone
set_option linter.unusedVariables false
set_option linter.unusedSimpArgs false

/-! ### scalar_High: function 23 -/
def scalar_High.f (a0 : Int) : Option (Bool) := if a0 ≥ 55296 then (some (decide (a0 < 56320))) else (some false)
set_option maxHeartbeats 8000000 in
set_option maxRecDepth 100000 in
theorem scalar_High.calls (a0 : Int) (r : Bool) (w : World) (h : scalar_High.f a0 = some r) :
    Calls Try.prog 23 #[.int .u16 a0] w fun e w' => e = .returned (.bool r) ∧ Drawn0 w w' := by
  have H : (if a0 ≥ 55296 then (some (decide (a0 < 56320))) else (some false)) = some r := h
  clear h
  by_cases c2 : a0 ≥ 55296
  · rw [if_pos c2] at H
    have c2b0 : decide (55296 ≤ a0) = true := decide_eq_true c2
    clear c2
    obtain rfl := Option.some.inj H
    go_enter Try.func23, Try.ntmps23
    go_wp2
    go_ret
    exact ⟨by first | rfl | (simp; done) | (simp [*]; done), by repeat (first | exact Drawn0.refl _ | apply Drawn0.step)⟩
  · rw [if_neg c2] at H
    have c2b0 : decide (55296 ≤ a0) = false := decide_eq_false c2
    clear c2
    obtain rfl := Option.some.inj H
    go_enter Try.func23, Try.ntmps23
    go_wp2
    go_ret
    exact ⟨by first | rfl | (simp; done) | (simp [*]; done), by repeat (first | exact Drawn0.refl _ | apply Drawn0.step)⟩

/-! ### scalar_Low: function 24 -/
def scalar_Low.f (a0 : Int) : Option (Bool) := if a0 ≥ 56320 then (some (decide (a0 ≤ 57343))) else (some false)
set_option maxHeartbeats 8000000 in
set_option maxRecDepth 100000 in
theorem scalar_Low.calls (a0 : Int) (r : Bool) (w : World) (h : scalar_Low.f a0 = some r) :
    Calls Try.prog 24 #[.int .u16 a0] w fun e w' => e = .returned (.bool r) ∧ Drawn0 w w' := by
  have H : (if a0 ≥ 56320 then (some (decide (a0 ≤ 57343))) else (some false)) = some r := h
  clear h
  by_cases c2 : a0 ≥ 56320
  · rw [if_pos c2] at H
    have c2b0 : decide (56320 ≤ a0) = true := decide_eq_true c2
    clear c2
    obtain rfl := Option.some.inj H
    go_enter Try.func24, Try.ntmps24
    go_wp2
    go_ret
    exact ⟨by first | rfl | (simp; done) | (simp [*]; done), by repeat (first | exact Drawn0.refl _ | apply Drawn0.step)⟩
  · rw [if_neg c2] at H
    have c2b0 : decide (56320 ≤ a0) = false := decide_eq_false c2
    clear c2
    obtain rfl := Option.some.inj H
    go_enter Try.func24, Try.ntmps24
    go_wp2
    go_ret
    exact ⟨by first | rfl | (simp; done) | (simp [*]; done), by repeat (first | exact Drawn0.refl _ | apply Drawn0.step)⟩

/-! ### scalar_Join: function 25 -/
def scalar_Join.f (a0 : Int) (a1 : Int) : Option (Int × Bool) := (scalar_High.f a0).bind fun t101 => (if t101 = true then ((scalar_Low.f a1).bind fun t102 => (if t102 = true then (some (wrap32 ((wrap32 (65536 + (wrap32 ((wrap32 (IntKind.u16.wrap (a0 - 55296))) * 1024)))) + (wrap32 (IntKind.u16.wrap (a1 - 56320)))), true)) else (some (0, false)))) else (some (0, false)))
set_option maxHeartbeats 8000000 in
set_option maxRecDepth 100000 in
theorem scalar_Join.calls (a0 : Int) (a1 : Int) (r1 : Int) (r2 : Bool) (w : World) (h : scalar_Join.f a0 a1 = some (r1, r2)) :
    Calls Try.prog 25 #[.int .u16 a0, .int .u16 a1] w fun e w' => e = .returned (.tuple #[.int .i32 r1, .bool r2]) ∧ Drawn0 w w' := by
  have H : ((scalar_High.f a0).bind fun t101 => (if t101 = true then ((scalar_Low.f a1).bind fun t102 => (if t102 = true then (some (wrap32 ((wrap32 (65536 + (wrap32 ((wrap32 (IntKind.u16.wrap (a0 - 55296))) * 1024)))) + (wrap32 (IntKind.u16.wrap (a1 - 56320)))), true)) else (some (0, false)))) else (some (0, false)))) = some (r1, r2) := h
  clear h
  replace H := Option.bind_eq_some_iff.mp H
  obtain ⟨t101, A30, H⟩ := H
  replace H : (if t101 = true then ((scalar_Low.f a1).bind fun t102 => (if t102 = true then (some (wrap32 ((wrap32 (65536 + (wrap32 ((wrap32 (IntKind.u16.wrap (a0 - 55296))) * 1024)))) + (wrap32 (IntKind.u16.wrap (a1 - 56320)))), true)) else (some (0, false)))) else (some (0, false))) = some (r1, r2) := H
  have A3 := Aside0.mk A30
  clear A30
  by_cases c4 : t101 = true
  · subst c4
    have H1 : ((scalar_Low.f a1).bind fun t102 => (if t102 = true then (some (wrap32 ((wrap32 (65536 + (wrap32 ((wrap32 (IntKind.u16.wrap (a0 - 55296))) * 1024)))) + (wrap32 (IntKind.u16.wrap (a1 - 56320)))), true)) else (some (0, false)))) = some (r1, r2) := by rw [if_pos rfl] at H; exact H
    clear H
    have H := H1
    clear H1
    replace H := Option.bind_eq_some_iff.mp H
    obtain ⟨t102, A50, H⟩ := H
    replace H : (if t102 = true then (some (wrap32 ((wrap32 (65536 + (wrap32 ((wrap32 (IntKind.u16.wrap (a0 - 55296))) * 1024)))) + (wrap32 (IntKind.u16.wrap (a1 - 56320)))), true)) else (some (0, false))) = some (r1, r2) := H
    have A5 := Aside0.mk A50
    clear A50
    by_cases c6 : t102 = true
    · subst c6
      have H1 : (some (wrap32 ((wrap32 (65536 + (wrap32 ((wrap32 (IntKind.u16.wrap (a0 - 55296))) * 1024)))) + (wrap32 (IntKind.u16.wrap (a1 - 56320)))), true)) = some (r1, r2) := by rw [if_pos rfl] at H; exact H
      clear H
      have H := H1
      clear H1
      simp only [Option.some.injEq, Prod.mk.injEq] at H
      obtain ⟨rfl, rfl⟩ := H
      go_enter Try.func25, Try.ntmps25
      go_wp2_with (first | ((with_reducible refine gate_callee (f := 23) rfl ?_); refine goesL_ (some 7) rfl rfl Try.func23 (by kernel_rfl) rfl #[.int .u16 a0] rfl (by (try simp only [List.map_toArray, List.map_cons, List.map_nil]); first | done | rfl | (simp only [List.length_drop, List.length_take]; rfl)) ?_; (with_reducible refine (scalar_High.calls a0 true _ A3.out).mono ?_); rintro e w' ⟨rfl, ⟨nd, rfl⟩⟩; refine ⟨_, rfl, ?_⟩) | (go_at_call 24; (with_reducible refine (scalar_Low.calls a1 true _ A5.out).mono ?_); rintro e w' ⟨rfl, ⟨nd, rfl⟩⟩))
      go_ret2
      exact ⟨by first | rfl | (simp; done) | (simp [*]; done), by repeat (first | exact Drawn0.refl _ | apply Drawn0.step)⟩
    · replace c6 := Bool.eq_false_iff.mpr c6
      subst c6
      have H1 : (some (0, false)) = some (r1, r2) := by rw [if_neg (show ¬ (false = true) by decide)] at H; exact H
      clear H
      have H := H1
      clear H1
      simp only [Option.some.injEq, Prod.mk.injEq] at H
      obtain ⟨rfl, rfl⟩ := H
      go_enter Try.func25, Try.ntmps25
      go_wp2_with (first | ((with_reducible refine gate_callee (f := 23) rfl ?_); refine goesL_ (some 7) rfl rfl Try.func23 (by kernel_rfl) rfl #[.int .u16 a0] rfl (by (try simp only [List.map_toArray, List.map_cons, List.map_nil]); first | done | rfl | (simp only [List.length_drop, List.length_take]; rfl)) ?_; (with_reducible refine (scalar_High.calls a0 true _ A3.out).mono ?_); rintro e w' ⟨rfl, ⟨nd, rfl⟩⟩; refine ⟨_, rfl, ?_⟩) | (go_at_call 24; (with_reducible refine (scalar_Low.calls a1 false _ A5.out).mono ?_); rintro e w' ⟨rfl, ⟨nd, rfl⟩⟩))
      go_ret2
      exact ⟨by first | rfl | (simp; done) | (simp [*]; done), by repeat (first | exact Drawn0.refl _ | apply Drawn0.step)⟩
  · replace c4 := Bool.eq_false_iff.mpr c4
    subst c4
    have H1 : (some (0, false)) = some (r1, r2) := by rw [if_neg (show ¬ (false = true) by decide)] at H; exact H
    clear H
    have H := H1
    clear H1
    simp only [Option.some.injEq, Prod.mk.injEq] at H
    obtain ⟨rfl, rfl⟩ := H
    go_enter Try.func25, Try.ntmps25
    go_wp2_with (first | ((with_reducible refine gate_callee (f := 23) rfl ?_); refine goesL_ (some 7) rfl rfl Try.func23 (by kernel_rfl) rfl #[.int .u16 a0] rfl (by (try simp only [List.map_toArray, List.map_cons, List.map_nil]); first | done | rfl | (simp only [List.length_drop, List.length_take]; rfl)) ?_; (with_reducible refine (scalar_High.calls a0 false _ A3.out).mono ?_); rintro e w' ⟨rfl, ⟨nd, rfl⟩⟩; refine ⟨_, rfl, ?_⟩))
    go_ret2
    exact ⟨by first | rfl | (simp; done) | (simp [*]; done), by repeat (first | exact Drawn0.refl _ | apply Drawn0.step)⟩

/-! ### utf16_Scalars: function 9 -/
mutual
def utf16_Scalars.l0 : Nat → List Int → List Int → Int → Option (List Int × Int × Bool)
  | 0, _, _, _ => none
  | k + 1, x0, x5, x6 => if x6 < (x0.length : Int) then (if 0 ≤ x6 then ((scalar_High.f (rd x0 x6)).bind fun t107 => (if t107 = true then (if (wrap64 (x6 + 1)) < (x0.length : Int) then (if 0 ≤ (wrap64 (x6 + 1)) then ((scalar_Low.f (rd x0 (wrap64 (x6 + 1)))).bind fun t109 => (utf16_Scalars.j1 k x0 x5 x6 t109)) else (none)) else (utf16_Scalars.j1 k x0 x5 x6 false)) else (utf16_Scalars.j1 k x0 x5 x6 false))) else (none)) else (some (x5, (x0.length : Int), true))
def utf16_Scalars.j1 : Nat → List Int → List Int → Int → Bool → Option (List Int × Int × Bool)
  | 0, _, _, _, _ => none
  | k + 1, x0, x5, x6, x26 => if x26 = true then (if 0 ≤ x6 then (if x6 < (x0.length : Int) then (if 0 ≤ (wrap64 (x6 + 1)) then (if (wrap64 (x6 + 1)) < (x0.length : Int) then ((scalar_Join.f (rd x0 x6) (rd x0 (wrap64 (x6 + 1)))).bind fun bt112 => (if x5.length < 35184372088832 then (utf16_Scalars.l0 k x0 (x5 ++ [bt112.1]) (wrap64 ((wrap64 (x6 + 1)) + 1))) else (none))) else (none)) else (none)) else (none)) else (none)) else (if 0 ≤ x6 then (if x6 < (x0.length : Int) then ((scalar_High.f (rd x0 x6)).bind fun t118 => (if t118 = true then (some (([] : List Int), x6, false)) else ((scalar_Low.f (rd x0 x6)).bind fun t120 => (if t120 = true then (some (([] : List Int), x6, false)) else (if x5.length < 35184372088832 then (utf16_Scalars.l0 k x0 (x5 ++ [wrap32 (rd x0 x6)]) (wrap64 (x6 + 1))) else (none)))))) else (none)) else (none))
end
def utf16_Scalars.f (k : Nat) (l0 : List Int) : Option (List Int × Int × Bool) := if 0 ≤ (l0.length : Int) then (if ((l0.length : Int) : Int).toNat ≤ 70368744177664 then (utf16_Scalars.l0 k l0 ([]) 0) else (none)) else (none)
theorem utf16_Scalars.mono_l : ∀ k, (∀ y0 y1 y2, LeO (utf16_Scalars.l0 k y0 y1 y2) (utf16_Scalars.l0 (k + 1) y0 y1 y2)) ∧ (∀ y0 y1 y2 y3, LeO (utf16_Scalars.j1 k y0 y1 y2 y3) (utf16_Scalars.j1 (k + 1) y0 y1 y2 y3))
  | 0 => ⟨fun _ _ _ r h => by simp [utf16_Scalars.l0] at h, fun _ _ _ _ r h => by simp [utf16_Scalars.j1] at h⟩
  | k + 1 => by
    obtain ⟨ih0, ih1⟩ := utf16_Scalars.mono_l k
    refine ⟨?_, ?_⟩
    · intro y0 y1 y2
      unfold utf16_Scalars.l0
      repeat' first
      | (with_reducible exact ih0 _ _ _)
      | (with_reducible exact ih1 _ _ _ _)
      | (with_reducible exact LeO.refl _)
      | (with_reducible exact LeO.none _)
      | (with_reducible refine LeO.ite ?_ ?_)
      | (with_reducible refine LeO.bind ?_ (fun _ => ?_))
      | exact ih0 _ _ _
      | exact ih1 _ _ _ _
      | exact LeO.none _
      | refine LeO.ite ?_ ?_
      | refine LeO.bind ?_ (fun _ => ?_)
    · intro y0 y1 y2 y3
      unfold utf16_Scalars.j1
      repeat' first
      | (with_reducible exact ih0 _ _ _)
      | (with_reducible exact ih1 _ _ _ _)
      | (with_reducible exact LeO.refl _)
      | (with_reducible exact LeO.none _)
      | (with_reducible refine LeO.ite ?_ ?_)
      | (with_reducible refine LeO.bind ?_ (fun _ => ?_))
      | exact ih0 _ _ _
      | exact ih1 _ _ _ _
      | exact LeO.none _
      | refine LeO.ite ?_ ?_
      | refine LeO.bind ?_ (fun _ => ?_)
theorem utf16_Scalars.mono : ∀ a0 k, LeO (utf16_Scalars.f k a0) (utf16_Scalars.f (k + 1) a0) := by
  intro a0 k
  obtain ⟨ih0, ih1⟩ := utf16_Scalars.mono_l k
  unfold utf16_Scalars.f
  repeat' first
      | (with_reducible exact ih0 _ _ _)
      | (with_reducible exact ih1 _ _ _ _)
      | (with_reducible exact LeO.refl _)
      | (with_reducible exact LeO.none _)
      | (with_reducible refine LeO.ite ?_ ?_)
      | (with_reducible refine LeO.bind ?_ (fun _ => ?_))
      | exact ih0 _ _ _
      | exact ih1 _ _ _ _
      | exact LeO.none _
      | refine LeO.ite ?_ ?_
      | refine LeO.bind ?_ (fun _ => ?_)
set_option maxHeartbeats 8000000 in
set_option maxRecDepth 100000 in
theorem utf16_Scalars.calls (k : Nat) (A0 : Option Addr) (c0 : Nat) (l0 : List Int) (r1 : List Int) (r2 : Int) (r3 : Bool) (w : World) (hr0 : Kd.C (Kd.int .u16) w A0 l0.length l0) (hc0 : l0.length ≤ c0) (h : utf16_Scalars.f k l0 = some (r1, r2, r3)) :
    Calls Try.prog 9 #[.slice A0 l0.length c0] w fun e w' => ∃ v0_ : Value, e = .returned (.tuple #[v0_, .int .i64 r2, .bool r3]) ∧ Kd.R (Kd.int .i32) 21 w' w.heap.size (fun _ => True) v0_ r1 ∧ Below w.heap.size w w' := by
  have HR0 := Aside0.mk hr0
  have HC0 := Aside0.mk hc0
  clear hr0 hc0
  have HB := Aside0.mk (Below.refl w.heap.size w)
  have H : (if 0 ≤ (l0.length : Int) then (if ((l0.length : Int) : Int).toNat ≤ 70368744177664 then (utf16_Scalars.l0 k l0 ([]) 0) else (none)) else (none)) = some (r1, r2, r3) := h
  clear h
  by_cases c2 : 0 ≤ (l0.length : Int)
  · rw [if_pos c2] at H
    have c2b0 := eq_true c2
    have c2b1 : decide (0 ≤ (l0.length : Int)) = true := decide_eq_true c2
    clear c2
    by_cases c3 : ((l0.length : Int) : Int).toNat ≤ 70368744177664
    · rw [if_pos c3] at H
      have c3b0 := eq_true c3
      have c3b1 : decide (((l0.length : Int) : Int).toNat ≤ 70368744177664) = true := decide_eq_true c3
      clear c3
      obtain ⟨y103, hy103⟩ : ∃ y_ : List Int, y_ = ([]) := ⟨_, rfl⟩
      replace H : (utf16_Scalars.l0 k l0 y103 0) = some (r1, r2, r3) := by first | (rw [hy103]; with_reducible exact H) | (have H2_ := (Option.bind_some _ _).symm.trans H; rw [hy103]; with_reducible exact H2_) | (have H2_ := (Option.bind_some _ _).symm.trans H; with_reducible exact H2_) | with_reducible exact H | (rw [hy103]; exact H) | exact H
      have Ny103 := Aside0.mk hy103
      clear hy103
      have H' := Aside0.mk H
      clear H
      go_enter Try.func9, Try.ntmps9
      go_wp2_with (first | ((with_reducible refine gate_dst (N := 11) rfl ?_); (try (refine gate_guard (by rfl) ?_; dsimp only)); refine Kd.R_makecap (Kd.int .i32) _ 21 rfl (N := 11) rfl 22 _ _ rfl (l0.length : Int) rfl rfl Try.underlying22 (.int .i32 0) 4 info21 rfl (by decide) (by omega) 0 (ok := fun _ => True) (okp := fun _ => True) rfl (fun _ hk => hk) trivial (of_decide_eq_true (by first | (with_reducible assumption) | assumption)) (Nat.le_trans (Nat.mul_le_mul_right _ (of_decide_eq_true (by first | (with_reducible assumption) | assumption) : (l0.length : Int).toNat ≤ 70368744177664)) (by omega)) (Below.refl _ _) (Nat.le_refl _) ?_; intro v104 w4 ho5 hb hg_ hnew_; clear hg_ hnew_; (first | rw [← Ny103.out] at ho5 | (simp only [Int.reduceToNat] at ho5; rw [← Ny103.out] at ho5)); have n0_ := Aside0.mk (Kd.R_lower ho5 (below_size (by repeat (first | (with_reducible first | exact HB.out | apply below_alloc | apply pw_below_drewN | apply below_drew1) | exact HB.out)))); have n1_ := Aside0.mk (below_step (by repeat (first | (with_reducible first | exact HB.out | apply below_alloc | apply pw_below_drewN | apply below_drew1) | exact HB.out)) hb); clear HB; have HO105 := n0_; have HB := n1_; clear n0_ n1_; clear hb ho5))
      repeat (go_quiet (first | ((with_reducible refine gate_dst (N := 11) rfl ?_); (try (refine gate_guard (by rfl) ?_; dsimp only)); refine Kd.R_makecap (Kd.int .i32) _ 21 rfl (N := 11) rfl 22 _ _ rfl (l0.length : Int) rfl rfl Try.underlying22 (.int .i32 0) 4 info21 rfl (by decide) (by omega) 0 (ok := fun _ => True) (okp := fun _ => True) rfl (fun _ hk => hk) trivial (of_decide_eq_true (by first | (with_reducible assumption) | assumption)) (Nat.le_trans (Nat.mul_le_mul_right _ (of_decide_eq_true (by first | (with_reducible assumption) | assumption) : (l0.length : Int).toNat ≤ 70368744177664)) (by omega)) (Below.refl _ _) (Nat.le_refl _) ?_; intro v104 w4 ho5 hb hg_ hnew_; clear hg_ hnew_; (first | rw [← Ny103.out] at ho5 | (simp only [Int.reduceToNat] at ho5; rw [← Ny103.out] at ho5)); have n0_ := Aside0.mk (Kd.R_lower ho5 (below_size (by repeat (first | (with_reducible first | exact HB.out | apply below_alloc | apply pw_below_drewN | apply below_drew1) | exact HB.out)))); have n1_ := Aside0.mk (below_step (by repeat (first | (with_reducible first | exact HB.out | apply below_alloc | apply pw_below_drewN | apply below_drew1) | exact HB.out)) hb); clear HB; have HO105 := n0_; have HB := n1_; clear n0_ n1_; clear hb ho5)); try go_wp2_with (first | ((with_reducible refine gate_dst (N := 11) rfl ?_); (try (refine gate_guard (by rfl) ?_; dsimp only)); refine Kd.R_makecap (Kd.int .i32) _ 21 rfl (N := 11) rfl 22 _ _ rfl (l0.length : Int) rfl rfl Try.underlying22 (.int .i32 0) 4 info21 rfl (by decide) (by omega) 0 (ok := fun _ => True) (okp := fun _ => True) rfl (fun _ hk => hk) trivial (of_decide_eq_true (by first | (with_reducible assumption) | assumption)) (Nat.le_trans (Nat.mul_le_mul_right _ (of_decide_eq_true (by first | (with_reducible assumption) | assumption) : (l0.length : Int).toNat ≤ 70368744177664)) (by omega)) (Below.refl _ _) (Nat.le_refl _) ?_; intro v104 w4 ho5 hb hg_ hnew_; clear hg_ hnew_; (first | rw [← Ny103.out] at ho5 | (simp only [Int.reduceToNat] at ho5; rw [← Ny103.out] at ho5)); have n0_ := Aside0.mk (Kd.R_lower ho5 (below_size (by repeat (first | (with_reducible first | exact HB.out | apply below_alloc | apply pw_below_drewN | apply below_drew1) | exact HB.out)))); have n1_ := Aside0.mk (below_step (by repeat (first | (with_reducible first | exact HB.out | apply below_alloc | apply pw_below_drewN | apply below_drew1) | exact HB.out)) hb); clear HB; have HO105 := n0_; have HB := n1_; clear n0_ n1_; clear hb ho5)))
      go_loopg [5, 6] k (fun kq v5 v6 w' => ∃ (x5_1 : List Int) (x6_1 : Int), v6 = .int .i64 x6_1 ∧ Aside0 (utf16_Scalars.l0 kq l0 x5_1 x6_1 = some (r1, r2, r3)) ∧ Aside0 (kq ≤ k) ∧ Aside0 (Kd.R (Kd.int .i32) 21 w' w.heap.size (fun _ => True) v5 x5_1) ∧ Aside0 (Below w.heap.size w w'))
      case atStart => exact ⟨(y103), (0), (by first | rfl | (simp; done) | (simp [*]; done)), H', ⟨Nat.le_refl _⟩, ⟨by (with_reducible repeat (first | apply Kd.R_alloc | apply Kd.R_drewN | apply Kd.R_drew)); exact HO105.out⟩, ⟨by repeat (first | (with_reducible first | exact HB.out | apply below_alloc | apply pw_below_drewN | apply below_drew1) | exact HB.out)⟩⟩
      case round =>
        clear H'
        try clear c2
        try clear c2b0
        try clear c2b1
        try clear p2
        try clear c3
        try clear c3b0
        try clear c3b1
        obtain ⟨x5_1, x6_1, rfl, HA, HK1, HO_5, HB⟩ := hrel
        cases gk with
        | zero => exact absurd HA.out (by simp [utf16_Scalars.l0])
        | succ k1 =>
          have H := HA.out
          clear HA
          simp only [utf16_Scalars.l0] at H
          by_cases c6 : x6_1 < (l0.length : Int)
          · rw [if_pos c6] at H
            have c6b0 : decide (x6_1 < (l0.length : Int)) = true := decide_eq_true c6
            clear c6
            have HC7 := Aside0.mk H
            clear H
            go_upto_region 6 with (fail)
            repeat (go_quiet (fail); go_upto_region 6 with (fail))
            go_cut [26] (fun v26 wc => ∃ (kq : Nat) (x26_6 : Bool), v26 = .bool x26_6 ∧ Aside0 (utf16_Scalars.j1 kq l0 x5_1 x6_1 x26_6 = some (r1, r2, r3)) ∧ Aside0 (kq ≤ k1) ∧ Aside0 (Kd.R (Kd.int .i32) 21 wc w.heap.size (fun _ => True) u5 x5_1) ∧ Aside0 (Below w.heap.size w wc))
            case first =>
              have H := HC7.out
              clear HC7
              by_cases c8 : 0 ≤ x6_1
              · rw [if_pos c8] at H
                have c8b0 : decide (0 ≤ x6_1) = true := decide_eq_true c8
                clear c8
                (first | rw [c8b0] | (simp only [i64_w, i32_w]; rw [c8b0]) | skip)
                replace H := Option.bind_eq_some_iff.mp H
                obtain ⟨t107, A90, H⟩ := H
                replace H : (if t107 = true then (if (wrap64 (x6_1 + 1)) < (l0.length : Int) then (if 0 ≤ (wrap64 (x6_1 + 1)) then ((scalar_Low.f (rd l0 (wrap64 (x6_1 + 1)))).bind fun t109 => (utf16_Scalars.j1 k1 l0 x5_1 x6_1 t109)) else (none)) else (utf16_Scalars.j1 k1 l0 x5_1 x6_1 false)) else (utf16_Scalars.j1 k1 l0 x5_1 x6_1 false)) = some (r1, r2, r3) := H
                have A9 := Aside0.mk A90
                clear A90
                by_cases c10 : t107 = true
                · subst c10
                  have H1 : (if (wrap64 (x6_1 + 1)) < (l0.length : Int) then (if 0 ≤ (wrap64 (x6_1 + 1)) then ((scalar_Low.f (rd l0 (wrap64 (x6_1 + 1)))).bind fun t109 => (utf16_Scalars.j1 k1 l0 x5_1 x6_1 t109)) else (none)) else (utf16_Scalars.j1 k1 l0 x5_1 x6_1 false)) = some (r1, r2, r3) := by rw [if_pos rfl] at H; exact H
                  clear H
                  have H := H1
                  clear H1
                  by_cases c11 : (wrap64 (x6_1 + 1)) < (l0.length : Int)
                  · rw [if_pos c11] at H
                    have c11b0 : decide ((wrap64 (x6_1 + 1)) < (l0.length : Int)) = true := decide_eq_true c11
                    clear c11
                    obtain ⟨ji12, hji12⟩ : ∃ j_ : Int, (wrap64 (x6_1 + 1)) = j_ := ⟨_, rfl⟩
                    replace H : (if 0 ≤ (ji12) then ((scalar_Low.f (rd l0 (ji12))).bind fun t109 => (utf16_Scalars.j1 k1 l0 x5_1 x6_1 t109)) else (none)) = some (r1, r2, r3) := by first | (rw [hji12] at H; exact H) | (simp only [hji12] at H ⊢; exact H)
                    (try rw [hji12] at c11b0)
                    (try rw [hji12] at A9)
                    have hji12w : (IntKind.i64.wrap (x6_1 + 1)) = ji12 := (i64_w _).trans hji12
                    by_cases c13 : 0 ≤ (ji12)
                    · rw [if_pos c13] at H
                      have c13b0 : decide (0 ≤ (ji12)) = true := decide_eq_true c13
                      clear c13
                      replace H := Option.bind_eq_some_iff.mp H
                      obtain ⟨t109, A140, H⟩ := H
                      replace H : (utf16_Scalars.j1 k1 l0 x5_1 x6_1 t109) = some (r1, r2, r3) := H
                      have A14 := Aside0.mk A140
                      clear A140
                      have H' := Aside0.mk H
                      clear H
                      have p106 : 0 ≤ (x6_1 : Int) := of_decide_eq_true (by first | (with_reducible assumption) | assumption)
                      have q106 : x6_1 < (l0.length : Int) := of_decide_eq_true (by first | (with_reducible assumption) | assumption)
                      obtain ⟨ad106, e106, hx106_0⟩ := Kd.at_int HR0.out x6_1 p106 q106
                      cases e106
                      replace hx106_0 := (HB.out.cell (World.block_lt_of_cell? w _ hx106_0)).trans hx106_0
                      replace p106 := eq_true p106
                      replace q106 := eq_true q106
                      go_wp2_with (first | (go_at_call 23; (with_reducible refine (scalar_High.calls (rd l0 x6_1) true _ A9.out).mono ?_); rintro e w' ⟨rfl, ⟨nd, rfl⟩⟩; (try first | exact ⟨rfl, _, World.drewN_drewN _ _ _⟩ | exact ⟨rfl, _, Eq.trans (World.drewN_drewN _ _ _) (congrArg (World.drewN _) (Nat.add_assoc _ _ _))⟩); have p108 : 0 ≤ ((ji12) : Int) := of_decide_eq_true (by first | (with_reducible assumption) | assumption); have q108 : (ji12) < (l0.length : Int) := of_decide_eq_true (by first | (with_reducible assumption) | assumption); obtain ⟨ad108, e108, hx108_0⟩ := Kd.at_int HR0.out (ji12) p108 q108; obtain rfl : ad106 = ad108 := (by injection e108); replace hx108_0 := (HB.out.cell (World.block_lt_of_cell? w _ hx108_0)).trans hx108_0; replace p108 := eq_true p108; replace q108 := eq_true q108) | (go_at_call 24; (with_reducible refine (scalar_Low.calls (rd l0 (ji12)) t109 _ A14.out).mono ?_); rintro e w' ⟨rfl, ⟨nd, rfl⟩⟩; (try first | exact ⟨rfl, _, World.drewN_drewN _ _ _⟩ | exact ⟨rfl, _, Eq.trans (World.drewN_drewN _ _ _) (congrArg (World.drewN _) (Nat.add_assoc _ _ _))⟩)))
                      repeat (go_quiet (first | (go_at_call 23; (with_reducible refine (scalar_High.calls (rd l0 x6_1) true _ A9.out).mono ?_); rintro e w' ⟨rfl, ⟨nd, rfl⟩⟩; (try first | exact ⟨rfl, _, World.drewN_drewN _ _ _⟩ | exact ⟨rfl, _, Eq.trans (World.drewN_drewN _ _ _) (congrArg (World.drewN _) (Nat.add_assoc _ _ _))⟩); have p108 : 0 ≤ ((ji12) : Int) := of_decide_eq_true (by first | (with_reducible assumption) | assumption); have q108 : (ji12) < (l0.length : Int) := of_decide_eq_true (by first | (with_reducible assumption) | assumption); obtain ⟨ad108, e108, hx108_0⟩ := Kd.at_int HR0.out (ji12) p108 q108; obtain rfl : ad106 = ad108 := (by injection e108); replace hx108_0 := (HB.out.cell (World.block_lt_of_cell? w _ hx108_0)).trans hx108_0; replace p108 := eq_true p108; replace q108 := eq_true q108) | (go_at_call 24; (with_reducible refine (scalar_Low.calls (rd l0 (ji12)) t109 _ A14.out).mono ?_); rintro e w' ⟨rfl, ⟨nd, rfl⟩⟩; (try first | exact ⟨rfl, _, World.drewN_drewN _ _ _⟩ | exact ⟨rfl, _, Eq.trans (World.drewN_drewN _ _ _) (congrArg (World.drewN _) (Nat.add_assoc _ _ _))⟩))); try go_wp2_with (first | (go_at_call 23; (with_reducible refine (scalar_High.calls (rd l0 x6_1) true _ A9.out).mono ?_); rintro e w' ⟨rfl, ⟨nd, rfl⟩⟩; (try first | exact ⟨rfl, _, World.drewN_drewN _ _ _⟩ | exact ⟨rfl, _, Eq.trans (World.drewN_drewN _ _ _) (congrArg (World.drewN _) (Nat.add_assoc _ _ _))⟩); have p108 : 0 ≤ ((ji12) : Int) := of_decide_eq_true (by first | (with_reducible assumption) | assumption); have q108 : (ji12) < (l0.length : Int) := of_decide_eq_true (by first | (with_reducible assumption) | assumption); obtain ⟨ad108, e108, hx108_0⟩ := Kd.at_int HR0.out (ji12) p108 q108; obtain rfl : ad106 = ad108 := (by injection e108); replace hx108_0 := (HB.out.cell (World.block_lt_of_cell? w _ hx108_0)).trans hx108_0; replace p108 := eq_true p108; replace q108 := eq_true q108) | (go_at_call 24; (with_reducible refine (scalar_Low.calls (rd l0 (ji12)) t109 _ A14.out).mono ?_); rintro e w' ⟨rfl, ⟨nd, rfl⟩⟩; (try first | exact ⟨rfl, _, World.drewN_drewN _ _ _⟩ | exact ⟨rfl, _, Eq.trans (World.drewN_drewN _ _ _) (congrArg (World.drewN _) (Nat.add_assoc _ _ _))⟩))))
                      go_meet
                      case rel => exact ⟨_, (t109), (by first | rfl | (simp; done) | (simp [*]; done)), H', ⟨by have := HK1.out; first | omega | exact Nat.le_refl _⟩, ⟨by (with_reducible repeat (first | apply Kd.R_alloc | apply Kd.R_drewN | apply Kd.R_drew)); exact HO_5.out⟩, ⟨by repeat (first | (with_reducible first | exact HB.out | apply below_alloc | apply pw_below_drewN | apply below_drew1) | exact HB.out)⟩⟩
                    · rw [if_neg c13] at H
                      exact absurd H (by simp)
                  · rw [if_neg c11] at H
                    have c11b0 : decide ((wrap64 (x6_1 + 1)) < (l0.length : Int)) = false := decide_eq_false c11
                    clear c11
                    have H' := Aside0.mk H
                    clear H
                    have p106 : 0 ≤ (x6_1 : Int) := of_decide_eq_true (by first | (with_reducible assumption) | assumption)
                    have q106 : x6_1 < (l0.length : Int) := of_decide_eq_true (by first | (with_reducible assumption) | assumption)
                    obtain ⟨ad106, e106, hx106_0⟩ := Kd.at_int HR0.out x6_1 p106 q106
                    cases e106
                    replace hx106_0 := (HB.out.cell (World.block_lt_of_cell? w _ hx106_0)).trans hx106_0
                    replace p106 := eq_true p106
                    replace q106 := eq_true q106
                    go_wp2_with (first | (go_at_call 23; (with_reducible refine (scalar_High.calls (rd l0 x6_1) true _ A9.out).mono ?_); rintro e w' ⟨rfl, ⟨nd, rfl⟩⟩; (try first | exact ⟨rfl, _, World.drewN_drewN _ _ _⟩ | exact ⟨rfl, _, Eq.trans (World.drewN_drewN _ _ _) (congrArg (World.drewN _) (Nat.add_assoc _ _ _))⟩)))
                    repeat (go_quiet (first | (go_at_call 23; (with_reducible refine (scalar_High.calls (rd l0 x6_1) true _ A9.out).mono ?_); rintro e w' ⟨rfl, ⟨nd, rfl⟩⟩; (try first | exact ⟨rfl, _, World.drewN_drewN _ _ _⟩ | exact ⟨rfl, _, Eq.trans (World.drewN_drewN _ _ _) (congrArg (World.drewN _) (Nat.add_assoc _ _ _))⟩))); try go_wp2_with (first | (go_at_call 23; (with_reducible refine (scalar_High.calls (rd l0 x6_1) true _ A9.out).mono ?_); rintro e w' ⟨rfl, ⟨nd, rfl⟩⟩; (try first | exact ⟨rfl, _, World.drewN_drewN _ _ _⟩ | exact ⟨rfl, _, Eq.trans (World.drewN_drewN _ _ _) (congrArg (World.drewN _) (Nat.add_assoc _ _ _))⟩))))
                    go_meet
                    case rel => exact ⟨_, (false), (by first | rfl | (simp; done) | (simp [*]; done)), H', ⟨by have := HK1.out; first | omega | exact Nat.le_refl _⟩, ⟨by (with_reducible repeat (first | apply Kd.R_alloc | apply Kd.R_drewN | apply Kd.R_drew)); exact HO_5.out⟩, ⟨by repeat (first | (with_reducible first | exact HB.out | apply below_alloc | apply pw_below_drewN | apply below_drew1) | exact HB.out)⟩⟩
                · replace c10 := Bool.eq_false_iff.mpr c10
                  subst c10
                  have H1 : (utf16_Scalars.j1 k1 l0 x5_1 x6_1 false) = some (r1, r2, r3) := by rw [if_neg (show ¬ (false = true) by decide)] at H; exact H
                  clear H
                  have H := H1
                  clear H1
                  have H' := Aside0.mk H
                  clear H
                  have p106 : 0 ≤ (x6_1 : Int) := of_decide_eq_true (by first | (with_reducible assumption) | assumption)
                  have q106 : x6_1 < (l0.length : Int) := of_decide_eq_true (by first | (with_reducible assumption) | assumption)
                  obtain ⟨ad106, e106, hx106_0⟩ := Kd.at_int HR0.out x6_1 p106 q106
                  cases e106
                  replace hx106_0 := (HB.out.cell (World.block_lt_of_cell? w _ hx106_0)).trans hx106_0
                  replace p106 := eq_true p106
                  replace q106 := eq_true q106
                  go_wp2_with (first | (go_at_call 23; (with_reducible refine (scalar_High.calls (rd l0 x6_1) false _ A9.out).mono ?_); rintro e w' ⟨rfl, ⟨nd, rfl⟩⟩; (try first | exact ⟨rfl, _, World.drewN_drewN _ _ _⟩ | exact ⟨rfl, _, Eq.trans (World.drewN_drewN _ _ _) (congrArg (World.drewN _) (Nat.add_assoc _ _ _))⟩)))
                  repeat (go_quiet (first | (go_at_call 23; (with_reducible refine (scalar_High.calls (rd l0 x6_1) false _ A9.out).mono ?_); rintro e w' ⟨rfl, ⟨nd, rfl⟩⟩; (try first | exact ⟨rfl, _, World.drewN_drewN _ _ _⟩ | exact ⟨rfl, _, Eq.trans (World.drewN_drewN _ _ _) (congrArg (World.drewN _) (Nat.add_assoc _ _ _))⟩))); try go_wp2_with (first | (go_at_call 23; (with_reducible refine (scalar_High.calls (rd l0 x6_1) false _ A9.out).mono ?_); rintro e w' ⟨rfl, ⟨nd, rfl⟩⟩; (try first | exact ⟨rfl, _, World.drewN_drewN _ _ _⟩ | exact ⟨rfl, _, Eq.trans (World.drewN_drewN _ _ _) (congrArg (World.drewN _) (Nat.add_assoc _ _ _))⟩))))
                  go_meet
                  case rel => exact ⟨_, (false), (by first | rfl | (simp; done) | (simp [*]; done)), H', ⟨by have := HK1.out; first | omega | exact Nat.le_refl _⟩, ⟨by (with_reducible repeat (first | apply Kd.R_alloc | apply Kd.R_drewN | apply Kd.R_drew)); exact HO_5.out⟩, ⟨by repeat (first | (with_reducible first | exact HB.out | apply below_alloc | apply pw_below_drewN | apply below_drew1) | exact HB.out)⟩⟩
              · rw [if_neg c8] at H
                exact absurd H (by simp)
            case rest =>
              clear HC7
              try clear c1
              try clear p1
              try clear q1
              try clear hx1
              try clear c2
              try clear c2b0
              try clear c2b1
              try clear p2
              try clear c3
              try clear c3b0
              try clear c3b1
              try clear c6
              try clear c6b0
              try clear p6
              try clear c8
              try clear c8b0
              try clear c9
              try clear c10
              try clear p10
              try clear q10
              try clear hx10
              try clear c11
              try clear c11b0
              try clear c13
              try clear c13b0
              try clear hx106_0
              try clear hx108_0
              try clear p106
              try clear p108
              try clear p2
              try clear q106
              try clear q108
              obtain ⟨kq, x26_6, rfl, HA, HJ6, HO_5, HB⟩ := hcut
              cases kq with
              | zero => exact absurd HA.out (by simp [utf16_Scalars.j1])
              | succ kj6 =>
                have H := HA.out
                clear HA
                simp only [utf16_Scalars.j1] at H
                by_cases c15 : x26_6 = true
                · subst c15
                  have H1 : (if 0 ≤ x6_1 then (if x6_1 < (l0.length : Int) then (if 0 ≤ (wrap64 (x6_1 + 1)) then (if (wrap64 (x6_1 + 1)) < (l0.length : Int) then ((scalar_Join.f (rd l0 x6_1) (rd l0 (wrap64 (x6_1 + 1)))).bind fun bt112 => (if x5_1.length < 35184372088832 then (utf16_Scalars.l0 kj6 l0 (x5_1 ++ [bt112.1]) (wrap64 ((wrap64 (x6_1 + 1)) + 1))) else (none))) else (none)) else (none)) else (none)) else (none)) = some (r1, r2, r3) := by rw [if_pos rfl] at H; exact H
                  clear H
                  have H := H1
                  clear H1
                  by_cases c16 : 0 ≤ x6_1
                  · rw [if_pos c16] at H
                    have c16b0 : decide (0 ≤ x6_1) = true := decide_eq_true c16
                    clear c16
                    by_cases c17 : x6_1 < (l0.length : Int)
                    · rw [if_pos c17] at H
                      have c17b0 : decide (x6_1 < (l0.length : Int)) = true := decide_eq_true c17
                      clear c17
                      obtain ⟨ji18, hji18⟩ : ∃ j_ : Int, (wrap64 (x6_1 + 1)) = j_ := ⟨_, rfl⟩
                      replace H : (if 0 ≤ (ji18) then (if (ji18) < (l0.length : Int) then ((scalar_Join.f (rd l0 x6_1) (rd l0 (ji18))).bind fun bt112 => (if x5_1.length < 35184372088832 then (utf16_Scalars.l0 kj6 l0 (x5_1 ++ [bt112.1]) (wrap64 ((ji18) + 1))) else (none))) else (none)) else (none)) = some (r1, r2, r3) := by first | (rw [hji18] at H; exact H) | (simp only [hji18] at H ⊢; exact H)
                      have hji18w : (IntKind.i64.wrap (x6_1 + 1)) = ji18 := (i64_w _).trans hji18
                      by_cases c19 : 0 ≤ (ji18)
                      · rw [if_pos c19] at H
                        have c19b0 : decide (0 ≤ (ji18)) = true := decide_eq_true c19
                        clear c19
                        by_cases c20 : (ji18) < (l0.length : Int)
                        · rw [if_pos c20] at H
                          have c20b0 : decide ((ji18) < (l0.length : Int)) = true := decide_eq_true c20
                          clear c20
                          replace H := Option.bind_eq_some_iff.mp H
                          obtain ⟨⟨t112, t113⟩, A210, H⟩ := H
                          replace H : (if x5_1.length < 35184372088832 then (utf16_Scalars.l0 kj6 l0 (x5_1 ++ [t112]) (wrap64 ((ji18) + 1))) else (none)) = some (r1, r2, r3) := H
                          have A21 := Aside0.mk A210
                          clear A210
                          by_cases c22 : x5_1.length < 35184372088832
                          · rw [if_pos c22] at H
                            have LMc22 := Aside0.mk c22
                            clear c22
                            obtain ⟨y114, hy114⟩ : ∃ y_ : List Int, y_ = (x5_1 ++ [t112]) := ⟨_, rfl⟩
                            replace H : (utf16_Scalars.l0 kj6 l0 y114 (wrap64 ((ji18) + 1))) = some (r1, r2, r3) := by first | (rw [hy114]; with_reducible exact H) | (have H2_ := (Option.bind_some _ _).symm.trans H; rw [hy114]; with_reducible exact H2_) | (have H2_ := (Option.bind_some _ _).symm.trans H; with_reducible exact H2_) | with_reducible exact H | (rw [hy114]; exact H) | exact H
                            have Ny114 := Aside0.mk hy114
                            clear hy114
                            have H' := Aside0.mk H
                            clear H
                            have p110 : 0 ≤ (x6_1 : Int) := of_decide_eq_true (by first | (with_reducible assumption) | assumption)
                            have q110 : x6_1 < (l0.length : Int) := of_decide_eq_true (by first | (with_reducible assumption) | assumption)
                            obtain ⟨ad110, e110, hx110_0⟩ := Kd.at_int HR0.out x6_1 p110 q110
                            cases e110
                            replace hx110_0 := (HB.out.cell (World.block_lt_of_cell? w _ hx110_0)).trans hx110_0
                            replace p110 := eq_true p110
                            replace q110 := eq_true q110
                            have p111 : 0 ≤ ((ji18) : Int) := of_decide_eq_true (by first | (with_reducible assumption) | assumption)
                            have q111 : (ji18) < (l0.length : Int) := of_decide_eq_true (by first | (with_reducible assumption) | assumption)
                            obtain ⟨ad111, e111, hx111_0⟩ := Kd.at_int HR0.out (ji18) p111 q111
                            obtain rfl : ad110 = ad111 := (by injection e111)
                            replace hx111_0 := (HB.out.cell (World.block_lt_of_cell? w _ hx111_0)).trans hx111_0
                            replace p111 := eq_true p111
                            replace q111 := eq_true q111
                            go_wp2_with (first | (go_at_call 25; (with_reducible refine (scalar_Join.calls (rd l0 x6_1) (rd l0 (ji18)) t112 t113 _ A21.out).mono ?_); rintro e w' ⟨rfl, ⟨nd, rfl⟩⟩; (try first | exact ⟨rfl, _, World.drewN_drewN _ _ _⟩ | exact ⟨rfl, _, Eq.trans (World.drewN_drewN _ _ _) (congrArg (World.drewN _) (Nat.add_assoc _ _ _))⟩)) | ((with_reducible refine gate_builtin (b := .append) (xs := #[.tmp 60, .tmp 62]) rfl ?_); (try (refine gate_guard (by rfl) ?_; dsimp only)); at_builtin; refine Kd.R_append (Kd.int .i32) (w0 := w) w.heap.size rfl (.tmp 60) (.tmp 62) 22 21 (.int .i32 0) 4 rfl Try.underlying22 info21 rfl (by decide) (by omega) u5 x5_1 t112 [.int .i32 t112] (fun _ => True) (fun _ => False) rfl rfl ?aP (fun _ hk => hk.elim) ?aF ?aO ?aB ?aS ?aL ?_; (case aP => exact rfl); (case aB => exact (by repeat (first | (with_reducible first | exact HB.out | apply below_alloc | apply pw_below_drewN | apply below_drew1) | exact HB.out))); (case aF => exact (fun _ _ => trivial)); (case aO => exact (by (with_reducible repeat (first | apply Kd.R_alloc | apply Kd.R_drewN | apply Kd.R_drew)); exact HO_5.out)); (case aS => exact (below_size (by repeat (first | (with_reducible first | exact HB.out | apply below_alloc | apply pw_below_drewN | apply below_drew1) | exact HB.out)))); (case aL => have := LMc22.out; omega); intro v115 w23 ho hb hg hat; rw [← Ny114.out] at ho; have n0_ := Aside0.mk (hb); have n1_ := Aside0.mk (ho); clear HB; clear HO_5; have HB := n0_; have HO116 := n1_; clear n0_ n1_; clear ho hb hg hat))
                            repeat (go_quiet (first | (go_at_call 25; (with_reducible refine (scalar_Join.calls (rd l0 x6_1) (rd l0 (ji18)) t112 t113 _ A21.out).mono ?_); rintro e w' ⟨rfl, ⟨nd, rfl⟩⟩; (try first | exact ⟨rfl, _, World.drewN_drewN _ _ _⟩ | exact ⟨rfl, _, Eq.trans (World.drewN_drewN _ _ _) (congrArg (World.drewN _) (Nat.add_assoc _ _ _))⟩)) | ((with_reducible refine gate_builtin (b := .append) (xs := #[.tmp 60, .tmp 62]) rfl ?_); (try (refine gate_guard (by rfl) ?_; dsimp only)); at_builtin; refine Kd.R_append (Kd.int .i32) (w0 := w) w.heap.size rfl (.tmp 60) (.tmp 62) 22 21 (.int .i32 0) 4 rfl Try.underlying22 info21 rfl (by decide) (by omega) u5 x5_1 t112 [.int .i32 t112] (fun _ => True) (fun _ => False) rfl rfl ?aP (fun _ hk => hk.elim) ?aF ?aO ?aB ?aS ?aL ?_; (case aP => exact rfl); (case aB => exact (by repeat (first | (with_reducible first | exact HB.out | apply below_alloc | apply pw_below_drewN | apply below_drew1) | exact HB.out))); (case aF => exact (fun _ _ => trivial)); (case aO => exact (by (with_reducible repeat (first | apply Kd.R_alloc | apply Kd.R_drewN | apply Kd.R_drew)); exact HO_5.out)); (case aS => exact (below_size (by repeat (first | (with_reducible first | exact HB.out | apply below_alloc | apply pw_below_drewN | apply below_drew1) | exact HB.out)))); (case aL => have := LMc22.out; omega); intro v115 w23 ho hb hg hat; rw [← Ny114.out] at ho; have n0_ := Aside0.mk (hb); have n1_ := Aside0.mk (ho); clear HB; clear HO_5; have HB := n0_; have HO116 := n1_; clear n0_ n1_; clear ho hb hg hat)); try go_wp2_with (first | (go_at_call 25; (with_reducible refine (scalar_Join.calls (rd l0 x6_1) (rd l0 (ji18)) t112 t113 _ A21.out).mono ?_); rintro e w' ⟨rfl, ⟨nd, rfl⟩⟩; (try first | exact ⟨rfl, _, World.drewN_drewN _ _ _⟩ | exact ⟨rfl, _, Eq.trans (World.drewN_drewN _ _ _) (congrArg (World.drewN _) (Nat.add_assoc _ _ _))⟩)) | ((with_reducible refine gate_builtin (b := .append) (xs := #[.tmp 60, .tmp 62]) rfl ?_); (try (refine gate_guard (by rfl) ?_; dsimp only)); at_builtin; refine Kd.R_append (Kd.int .i32) (w0 := w) w.heap.size rfl (.tmp 60) (.tmp 62) 22 21 (.int .i32 0) 4 rfl Try.underlying22 info21 rfl (by decide) (by omega) u5 x5_1 t112 [.int .i32 t112] (fun _ => True) (fun _ => False) rfl rfl ?aP (fun _ hk => hk.elim) ?aF ?aO ?aB ?aS ?aL ?_; (case aP => exact rfl); (case aB => exact (by repeat (first | (with_reducible first | exact HB.out | apply below_alloc | apply pw_below_drewN | apply below_drew1) | exact HB.out))); (case aF => exact (fun _ _ => trivial)); (case aO => exact (by (with_reducible repeat (first | apply Kd.R_alloc | apply Kd.R_drewN | apply Kd.R_drew)); exact HO_5.out)); (case aS => exact (below_size (by repeat (first | (with_reducible first | exact HB.out | apply below_alloc | apply pw_below_drewN | apply below_drew1) | exact HB.out)))); (case aL => have := LMc22.out; omega); intro v115 w23 ho hb hg hat; rw [← Ny114.out] at ho; have n0_ := Aside0.mk (hb); have n1_ := Aside0.mk (ho); clear HB; clear HO_5; have HB := n0_; have HO116 := n1_; clear n0_ n1_; clear ho hb hg hat)))
                            go_roundg kj6
                            case measure => have := HK1.out; have := HJ6.out; omega
                            case rel => exact ⟨(y114), (wrap64 ((ji18) + 1)), (by first | rfl | (simp; done) | (simp only [← hji18] <;> (first | rfl | simp)) | (simp [*]; done)), H', ⟨by have := HK1.out; have := HJ6.out; omega⟩, ⟨by (with_reducible repeat (first | apply Kd.R_alloc | apply Kd.R_drewN | apply Kd.R_drew)); exact HO116.out⟩, ⟨by repeat (first | (with_reducible first | exact HB.out | apply below_alloc | apply pw_below_drewN | apply below_drew1) | exact HB.out)⟩⟩
                          · rw [if_neg c22] at H
                            exact absurd H (by simp)
                        · rw [if_neg c20] at H
                          exact absurd H (by simp)
                      · rw [if_neg c19] at H
                        exact absurd H (by simp)
                    · rw [if_neg c17] at H
                      exact absurd H (by simp)
                  · rw [if_neg c16] at H
                    exact absurd H (by simp)
                · replace c15 := Bool.eq_false_iff.mpr c15
                  subst c15
                  have H1 : (if 0 ≤ x6_1 then (if x6_1 < (l0.length : Int) then ((scalar_High.f (rd l0 x6_1)).bind fun t118 => (if t118 = true then (some (([] : List Int), x6_1, false)) else ((scalar_Low.f (rd l0 x6_1)).bind fun t120 => (if t120 = true then (some (([] : List Int), x6_1, false)) else (if x5_1.length < 35184372088832 then (utf16_Scalars.l0 kj6 l0 (x5_1 ++ [wrap32 (rd l0 x6_1)]) (wrap64 (x6_1 + 1))) else (none)))))) else (none)) else (none)) = some (r1, r2, r3) := by rw [if_neg (show ¬ (false = true) by decide)] at H; exact H
                  clear H
                  have H := H1
                  clear H1
                  by_cases c24 : 0 ≤ x6_1
                  · rw [if_pos c24] at H
                    have c24b0 : decide (0 ≤ x6_1) = true := decide_eq_true c24
                    clear c24
                    by_cases c25 : x6_1 < (l0.length : Int)
                    · rw [if_pos c25] at H
                      have c25b0 : decide (x6_1 < (l0.length : Int)) = true := decide_eq_true c25
                      clear c25
                      replace H := Option.bind_eq_some_iff.mp H
                      obtain ⟨t118, A260, H⟩ := H
                      replace H : (if t118 = true then (some (([] : List Int), x6_1, false)) else ((scalar_Low.f (rd l0 x6_1)).bind fun t120 => (if t120 = true then (some (([] : List Int), x6_1, false)) else (if x5_1.length < 35184372088832 then (utf16_Scalars.l0 kj6 l0 (x5_1 ++ [wrap32 (rd l0 x6_1)]) (wrap64 (x6_1 + 1))) else (none))))) = some (r1, r2, r3) := H
                      have A26 := Aside0.mk A260
                      clear A260
                      by_cases c27 : t118 = true
                      · subst c27
                        have H1 : (some (([] : List Int), x6_1, false)) = some (r1, r2, r3) := by rw [if_pos rfl] at H; exact H
                        clear H
                        have H := H1
                        clear H1
                        simp only [Option.some.injEq, Prod.mk.injEq] at H
                        obtain ⟨rfl, rfl, rfl⟩ := H
                        have p117 : 0 ≤ (x6_1 : Int) := of_decide_eq_true (by first | (with_reducible assumption) | assumption)
                        have q117 : x6_1 < (l0.length : Int) := of_decide_eq_true (by first | (with_reducible assumption) | assumption)
                        obtain ⟨ad117, e117, hx117_0⟩ := Kd.at_int HR0.out x6_1 p117 q117
                        cases e117
                        replace hx117_0 := (HB.out.cell (World.block_lt_of_cell? w _ hx117_0)).trans hx117_0
                        replace p117 := eq_true p117
                        replace q117 := eq_true q117
                        go_wp2_with (first | (go_at_call 23; (with_reducible refine (scalar_High.calls (rd l0 x6_1) true _ A26.out).mono ?_); rintro e w' ⟨rfl, ⟨nd, rfl⟩⟩; (try first | exact ⟨rfl, _, World.drewN_drewN _ _ _⟩ | exact ⟨rfl, _, Eq.trans (World.drewN_drewN _ _ _) (congrArg (World.drewN _) (Nat.add_assoc _ _ _))⟩)))
                        repeat (go_quiet (first | (go_at_call 23; (with_reducible refine (scalar_High.calls (rd l0 x6_1) true _ A26.out).mono ?_); rintro e w' ⟨rfl, ⟨nd, rfl⟩⟩; (try first | exact ⟨rfl, _, World.drewN_drewN _ _ _⟩ | exact ⟨rfl, _, Eq.trans (World.drewN_drewN _ _ _) (congrArg (World.drewN _) (Nat.add_assoc _ _ _))⟩))); try go_wp2_with (first | (go_at_call 23; (with_reducible refine (scalar_High.calls (rd l0 x6_1) true _ A26.out).mono ?_); rintro e w' ⟨rfl, ⟨nd, rfl⟩⟩; (try first | exact ⟨rfl, _, World.drewN_drewN _ _ _⟩ | exact ⟨rfl, _, Eq.trans (World.drewN_drewN _ _ _) (congrArg (World.drewN _) (Nat.add_assoc _ _ _))⟩))))
                        go_ret3
                        exact ⟨_, by first | rfl | (simp [errW_none, errW_some] <;> rfl) | (simp [*, errW_none, errW_some] <;> rfl), by first | exact Kd.R_nil _ _ _ _ _ | exact Kd.N_nil _ _ _ _ _ | exact Kd.V_nil _ _ _ _ _ | exact Kd.Q_nil _ _ _ _ _ | exact Kd.S_nil _ _ _ _ _, by repeat (first | (with_reducible first | exact HB.out | apply below_alloc | apply pw_below_drewN | apply below_drew1) | exact HB.out)⟩
                      · replace c27 := Bool.eq_false_iff.mpr c27
                        subst c27
                        have H1 : ((scalar_Low.f (rd l0 x6_1)).bind fun t120 => (if t120 = true then (some (([] : List Int), x6_1, false)) else (if x5_1.length < 35184372088832 then (utf16_Scalars.l0 kj6 l0 (x5_1 ++ [wrap32 (rd l0 x6_1)]) (wrap64 (x6_1 + 1))) else (none)))) = some (r1, r2, r3) := by rw [if_neg (show ¬ (false = true) by decide)] at H; exact H
                        clear H
                        have H := H1
                        clear H1
                        replace H := Option.bind_eq_some_iff.mp H
                        obtain ⟨t120, A280, H⟩ := H
                        replace H : (if t120 = true then (some (([] : List Int), x6_1, false)) else (if x5_1.length < 35184372088832 then (utf16_Scalars.l0 kj6 l0 (x5_1 ++ [wrap32 (rd l0 x6_1)]) (wrap64 (x6_1 + 1))) else (none))) = some (r1, r2, r3) := H
                        have A28 := Aside0.mk A280
                        clear A280
                        by_cases c29 : t120 = true
                        · subst c29
                          have H1 : (some (([] : List Int), x6_1, false)) = some (r1, r2, r3) := by rw [if_pos rfl] at H; exact H
                          clear H
                          have H := H1
                          clear H1
                          simp only [Option.some.injEq, Prod.mk.injEq] at H
                          obtain ⟨rfl, rfl, rfl⟩ := H
                          have p117 : 0 ≤ (x6_1 : Int) := of_decide_eq_true (by first | (with_reducible assumption) | assumption)
                          have q117 : x6_1 < (l0.length : Int) := of_decide_eq_true (by first | (with_reducible assumption) | assumption)
                          obtain ⟨ad117, e117, hx117_0⟩ := Kd.at_int HR0.out x6_1 p117 q117
                          cases e117
                          replace hx117_0 := (HB.out.cell (World.block_lt_of_cell? w _ hx117_0)).trans hx117_0
                          replace p117 := eq_true p117
                          replace q117 := eq_true q117
                          go_wp2_with (first | (go_at_call 23; (with_reducible refine (scalar_High.calls (rd l0 x6_1) false _ A26.out).mono ?_); rintro e w' ⟨rfl, ⟨nd, rfl⟩⟩; (try first | exact ⟨rfl, _, World.drewN_drewN _ _ _⟩ | exact ⟨rfl, _, Eq.trans (World.drewN_drewN _ _ _) (congrArg (World.drewN _) (Nat.add_assoc _ _ _))⟩); have p119 : 0 ≤ (x6_1 : Int) := of_decide_eq_true (by first | (with_reducible assumption) | assumption); have q119 : x6_1 < (l0.length : Int) := of_decide_eq_true (by first | (with_reducible assumption) | assumption); obtain ⟨ad119, e119, hx119_0⟩ := Kd.at_int HR0.out x6_1 p119 q119; obtain rfl : ad117 = ad119 := (by injection e119); replace hx119_0 := (HB.out.cell (World.block_lt_of_cell? w _ hx119_0)).trans hx119_0; replace p119 := eq_true p119; replace q119 := eq_true q119) | (go_at_call 24; (with_reducible refine (scalar_Low.calls (rd l0 x6_1) true _ A28.out).mono ?_); rintro e w' ⟨rfl, ⟨nd, rfl⟩⟩; (try first | exact ⟨rfl, _, World.drewN_drewN _ _ _⟩ | exact ⟨rfl, _, Eq.trans (World.drewN_drewN _ _ _) (congrArg (World.drewN _) (Nat.add_assoc _ _ _))⟩)))
                          repeat (go_quiet (first | (go_at_call 23; (with_reducible refine (scalar_High.calls (rd l0 x6_1) false _ A26.out).mono ?_); rintro e w' ⟨rfl, ⟨nd, rfl⟩⟩; (try first | exact ⟨rfl, _, World.drewN_drewN _ _ _⟩ | exact ⟨rfl, _, Eq.trans (World.drewN_drewN _ _ _) (congrArg (World.drewN _) (Nat.add_assoc _ _ _))⟩); have p119 : 0 ≤ (x6_1 : Int) := of_decide_eq_true (by first | (with_reducible assumption) | assumption); have q119 : x6_1 < (l0.length : Int) := of_decide_eq_true (by first | (with_reducible assumption) | assumption); obtain ⟨ad119, e119, hx119_0⟩ := Kd.at_int HR0.out x6_1 p119 q119; obtain rfl : ad117 = ad119 := (by injection e119); replace hx119_0 := (HB.out.cell (World.block_lt_of_cell? w _ hx119_0)).trans hx119_0; replace p119 := eq_true p119; replace q119 := eq_true q119) | (go_at_call 24; (with_reducible refine (scalar_Low.calls (rd l0 x6_1) true _ A28.out).mono ?_); rintro e w' ⟨rfl, ⟨nd, rfl⟩⟩; (try first | exact ⟨rfl, _, World.drewN_drewN _ _ _⟩ | exact ⟨rfl, _, Eq.trans (World.drewN_drewN _ _ _) (congrArg (World.drewN _) (Nat.add_assoc _ _ _))⟩))); try go_wp2_with (first | (go_at_call 23; (with_reducible refine (scalar_High.calls (rd l0 x6_1) false _ A26.out).mono ?_); rintro e w' ⟨rfl, ⟨nd, rfl⟩⟩; (try first | exact ⟨rfl, _, World.drewN_drewN _ _ _⟩ | exact ⟨rfl, _, Eq.trans (World.drewN_drewN _ _ _) (congrArg (World.drewN _) (Nat.add_assoc _ _ _))⟩); have p119 : 0 ≤ (x6_1 : Int) := of_decide_eq_true (by first | (with_reducible assumption) | assumption); have q119 : x6_1 < (l0.length : Int) := of_decide_eq_true (by first | (with_reducible assumption) | assumption); obtain ⟨ad119, e119, hx119_0⟩ := Kd.at_int HR0.out x6_1 p119 q119; obtain rfl : ad117 = ad119 := (by injection e119); replace hx119_0 := (HB.out.cell (World.block_lt_of_cell? w _ hx119_0)).trans hx119_0; replace p119 := eq_true p119; replace q119 := eq_true q119) | (go_at_call 24; (with_reducible refine (scalar_Low.calls (rd l0 x6_1) true _ A28.out).mono ?_); rintro e w' ⟨rfl, ⟨nd, rfl⟩⟩; (try first | exact ⟨rfl, _, World.drewN_drewN _ _ _⟩ | exact ⟨rfl, _, Eq.trans (World.drewN_drewN _ _ _) (congrArg (World.drewN _) (Nat.add_assoc _ _ _))⟩))))
                          go_ret3
                          exact ⟨_, by first | rfl | (simp [errW_none, errW_some] <;> rfl) | (simp [*, errW_none, errW_some] <;> rfl), by first | exact Kd.R_nil _ _ _ _ _ | exact Kd.N_nil _ _ _ _ _ | exact Kd.V_nil _ _ _ _ _ | exact Kd.Q_nil _ _ _ _ _ | exact Kd.S_nil _ _ _ _ _, by repeat (first | (with_reducible first | exact HB.out | apply below_alloc | apply pw_below_drewN | apply below_drew1) | exact HB.out)⟩
                        · replace c29 := Bool.eq_false_iff.mpr c29
                          subst c29
                          have H1 : (if x5_1.length < 35184372088832 then (utf16_Scalars.l0 kj6 l0 (x5_1 ++ [wrap32 (rd l0 x6_1)]) (wrap64 (x6_1 + 1))) else (none)) = some (r1, r2, r3) := by rw [if_neg (show ¬ (false = true) by decide)] at H; exact H
                          clear H
                          have H := H1
                          clear H1
                          by_cases c30 : x5_1.length < 35184372088832
                          · rw [if_pos c30] at H
                            have LMc30 := Aside0.mk c30
                            clear c30
                            obtain ⟨y122, hy122⟩ : ∃ y_ : List Int, y_ = (x5_1 ++ [wrap32 (rd l0 x6_1)]) := ⟨_, rfl⟩
                            replace H : (utf16_Scalars.l0 kj6 l0 y122 (wrap64 (x6_1 + 1))) = some (r1, r2, r3) := by first | (rw [hy122]; with_reducible exact H) | (have H2_ := (Option.bind_some _ _).symm.trans H; rw [hy122]; with_reducible exact H2_) | (have H2_ := (Option.bind_some _ _).symm.trans H; with_reducible exact H2_) | with_reducible exact H | (rw [hy122]; exact H) | exact H
                            have Ny122 := Aside0.mk hy122
                            clear hy122
                            have H' := Aside0.mk H
                            clear H
                            have p117 : 0 ≤ (x6_1 : Int) := of_decide_eq_true (by first | (with_reducible assumption) | assumption)
                            have q117 : x6_1 < (l0.length : Int) := of_decide_eq_true (by first | (with_reducible assumption) | assumption)
                            obtain ⟨ad117, e117, hx117_0⟩ := Kd.at_int HR0.out x6_1 p117 q117
                            cases e117
                            replace hx117_0 := (HB.out.cell (World.block_lt_of_cell? w _ hx117_0)).trans hx117_0
                            replace p117 := eq_true p117
                            replace q117 := eq_true q117
                            go_wp2_with (first | (go_at_call 23; (with_reducible refine (scalar_High.calls (rd l0 x6_1) false _ A26.out).mono ?_); rintro e w' ⟨rfl, ⟨nd, rfl⟩⟩; (try first | exact ⟨rfl, _, World.drewN_drewN _ _ _⟩ | exact ⟨rfl, _, Eq.trans (World.drewN_drewN _ _ _) (congrArg (World.drewN _) (Nat.add_assoc _ _ _))⟩); have p119 : 0 ≤ (x6_1 : Int) := of_decide_eq_true (by first | (with_reducible assumption) | assumption); have q119 : x6_1 < (l0.length : Int) := of_decide_eq_true (by first | (with_reducible assumption) | assumption); obtain ⟨ad119, e119, hx119_0⟩ := Kd.at_int HR0.out x6_1 p119 q119; obtain rfl : ad117 = ad119 := (by injection e119); replace hx119_0 := (HB.out.cell (World.block_lt_of_cell? w _ hx119_0)).trans hx119_0; replace p119 := eq_true p119; replace q119 := eq_true q119) | (go_at_call 24; (with_reducible refine (scalar_Low.calls (rd l0 x6_1) false _ A28.out).mono ?_); rintro e w' ⟨rfl, ⟨nd, rfl⟩⟩; (try first | exact ⟨rfl, _, World.drewN_drewN _ _ _⟩ | exact ⟨rfl, _, Eq.trans (World.drewN_drewN _ _ _) (congrArg (World.drewN _) (Nat.add_assoc _ _ _))⟩); have p121 : 0 ≤ (x6_1 : Int) := of_decide_eq_true (by first | (with_reducible assumption) | assumption); have q121 : x6_1 < (l0.length : Int) := of_decide_eq_true (by first | (with_reducible assumption) | assumption); obtain ⟨ad121, e121, hx121_0⟩ := Kd.at_int HR0.out x6_1 p121 q121; obtain rfl : ad117 = ad121 := (by injection e121); replace hx121_0 := (HB.out.cell (World.block_lt_of_cell? w _ hx121_0)).trans hx121_0; replace p121 := eq_true p121; replace q121 := eq_true q121) | ((with_reducible refine gate_builtin (b := .append) (xs := #[.tmp 18, .tmp 24]) rfl ?_); (try (refine gate_guard (by rfl) ?_; dsimp only)); at_builtin; refine Kd.R_append (Kd.int .i32) (w0 := w) w.heap.size rfl (.tmp 18) (.tmp 24) 22 21 (.int .i32 0) 4 rfl Try.underlying22 info21 rfl (by decide) (by omega) u5 x5_1 (wrap32 (rd l0 x6_1)) [.int .i32 (wrap32 (rd l0 x6_1))] (fun _ => True) (fun _ => False) rfl rfl ?aP (fun _ hk => hk.elim) ?aF ?aO ?aB ?aS ?aL ?_; (case aP => exact rfl); (case aB => exact (by repeat (first | (with_reducible first | exact HB.out | apply below_alloc | apply pw_below_drewN | apply below_drew1) | exact HB.out))); (case aF => exact (fun _ _ => trivial)); (case aO => exact (by (with_reducible repeat (first | apply Kd.R_alloc | apply Kd.R_drewN | apply Kd.R_drew)); exact HO_5.out)); (case aS => exact (below_size (by repeat (first | (with_reducible first | exact HB.out | apply below_alloc | apply pw_below_drewN | apply below_drew1) | exact HB.out)))); (case aL => have := LMc30.out; omega); intro v123 w31 ho hb hg hat; rw [← Ny122.out] at ho; have n0_ := Aside0.mk (hb); have n1_ := Aside0.mk (ho); clear HB; clear HO_5; have HB := n0_; have HO124 := n1_; clear n0_ n1_; clear ho hb hg hat))
                            repeat (go_quiet (first | (go_at_call 23; (with_reducible refine (scalar_High.calls (rd l0 x6_1) false _ A26.out).mono ?_); rintro e w' ⟨rfl, ⟨nd, rfl⟩⟩; (try first | exact ⟨rfl, _, World.drewN_drewN _ _ _⟩ | exact ⟨rfl, _, Eq.trans (World.drewN_drewN _ _ _) (congrArg (World.drewN _) (Nat.add_assoc _ _ _))⟩); have p119 : 0 ≤ (x6_1 : Int) := of_decide_eq_true (by first | (with_reducible assumption) | assumption); have q119 : x6_1 < (l0.length : Int) := of_decide_eq_true (by first | (with_reducible assumption) | assumption); obtain ⟨ad119, e119, hx119_0⟩ := Kd.at_int HR0.out x6_1 p119 q119; obtain rfl : ad117 = ad119 := (by injection e119); replace hx119_0 := (HB.out.cell (World.block_lt_of_cell? w _ hx119_0)).trans hx119_0; replace p119 := eq_true p119; replace q119 := eq_true q119) | (go_at_call 24; (with_reducible refine (scalar_Low.calls (rd l0 x6_1) false _ A28.out).mono ?_); rintro e w' ⟨rfl, ⟨nd, rfl⟩⟩; (try first | exact ⟨rfl, _, World.drewN_drewN _ _ _⟩ | exact ⟨rfl, _, Eq.trans (World.drewN_drewN _ _ _) (congrArg (World.drewN _) (Nat.add_assoc _ _ _))⟩); have p121 : 0 ≤ (x6_1 : Int) := of_decide_eq_true (by first | (with_reducible assumption) | assumption); have q121 : x6_1 < (l0.length : Int) := of_decide_eq_true (by first | (with_reducible assumption) | assumption); obtain ⟨ad121, e121, hx121_0⟩ := Kd.at_int HR0.out x6_1 p121 q121; obtain rfl : ad117 = ad121 := (by injection e121); replace hx121_0 := (HB.out.cell (World.block_lt_of_cell? w _ hx121_0)).trans hx121_0; replace p121 := eq_true p121; replace q121 := eq_true q121) | ((with_reducible refine gate_builtin (b := .append) (xs := #[.tmp 18, .tmp 24]) rfl ?_); (try (refine gate_guard (by rfl) ?_; dsimp only)); at_builtin; refine Kd.R_append (Kd.int .i32) (w0 := w) w.heap.size rfl (.tmp 18) (.tmp 24) 22 21 (.int .i32 0) 4 rfl Try.underlying22 info21 rfl (by decide) (by omega) u5 x5_1 (wrap32 (rd l0 x6_1)) [.int .i32 (wrap32 (rd l0 x6_1))] (fun _ => True) (fun _ => False) rfl rfl ?aP (fun _ hk => hk.elim) ?aF ?aO ?aB ?aS ?aL ?_; (case aP => exact rfl); (case aB => exact (by repeat (first | (with_reducible first | exact HB.out | apply below_alloc | apply pw_below_drewN | apply below_drew1) | exact HB.out))); (case aF => exact (fun _ _ => trivial)); (case aO => exact (by (with_reducible repeat (first | apply Kd.R_alloc | apply Kd.R_drewN | apply Kd.R_drew)); exact HO_5.out)); (case aS => exact (below_size (by repeat (first | (with_reducible first | exact HB.out | apply below_alloc | apply pw_below_drewN | apply below_drew1) | exact HB.out)))); (case aL => have := LMc30.out; omega); intro v123 w31 ho hb hg hat; rw [← Ny122.out] at ho; have n0_ := Aside0.mk (hb); have n1_ := Aside0.mk (ho); clear HB; clear HO_5; have HB := n0_; have HO124 := n1_; clear n0_ n1_; clear ho hb hg hat)); try go_wp2_with (first | (go_at_call 23; (with_reducible refine (scalar_High.calls (rd l0 x6_1) false _ A26.out).mono ?_); rintro e w' ⟨rfl, ⟨nd, rfl⟩⟩; (try first | exact ⟨rfl, _, World.drewN_drewN _ _ _⟩ | exact ⟨rfl, _, Eq.trans (World.drewN_drewN _ _ _) (congrArg (World.drewN _) (Nat.add_assoc _ _ _))⟩); have p119 : 0 ≤ (x6_1 : Int) := of_decide_eq_true (by first | (with_reducible assumption) | assumption); have q119 : x6_1 < (l0.length : Int) := of_decide_eq_true (by first | (with_reducible assumption) | assumption); obtain ⟨ad119, e119, hx119_0⟩ := Kd.at_int HR0.out x6_1 p119 q119; obtain rfl : ad117 = ad119 := (by injection e119); replace hx119_0 := (HB.out.cell (World.block_lt_of_cell? w _ hx119_0)).trans hx119_0; replace p119 := eq_true p119; replace q119 := eq_true q119) | (go_at_call 24; (with_reducible refine (scalar_Low.calls (rd l0 x6_1) false _ A28.out).mono ?_); rintro e w' ⟨rfl, ⟨nd, rfl⟩⟩; (try first | exact ⟨rfl, _, World.drewN_drewN _ _ _⟩ | exact ⟨rfl, _, Eq.trans (World.drewN_drewN _ _ _) (congrArg (World.drewN _) (Nat.add_assoc _ _ _))⟩); have p121 : 0 ≤ (x6_1 : Int) := of_decide_eq_true (by first | (with_reducible assumption) | assumption); have q121 : x6_1 < (l0.length : Int) := of_decide_eq_true (by first | (with_reducible assumption) | assumption); obtain ⟨ad121, e121, hx121_0⟩ := Kd.at_int HR0.out x6_1 p121 q121; obtain rfl : ad117 = ad121 := (by injection e121); replace hx121_0 := (HB.out.cell (World.block_lt_of_cell? w _ hx121_0)).trans hx121_0; replace p121 := eq_true p121; replace q121 := eq_true q121) | ((with_reducible refine gate_builtin (b := .append) (xs := #[.tmp 18, .tmp 24]) rfl ?_); (try (refine gate_guard (by rfl) ?_; dsimp only)); at_builtin; refine Kd.R_append (Kd.int .i32) (w0 := w) w.heap.size rfl (.tmp 18) (.tmp 24) 22 21 (.int .i32 0) 4 rfl Try.underlying22 info21 rfl (by decide) (by omega) u5 x5_1 (wrap32 (rd l0 x6_1)) [.int .i32 (wrap32 (rd l0 x6_1))] (fun _ => True) (fun _ => False) rfl rfl ?aP (fun _ hk => hk.elim) ?aF ?aO ?aB ?aS ?aL ?_; (case aP => exact rfl); (case aB => exact (by repeat (first | (with_reducible first | exact HB.out | apply below_alloc | apply pw_below_drewN | apply below_drew1) | exact HB.out))); (case aF => exact (fun _ _ => trivial)); (case aO => exact (by (with_reducible repeat (first | apply Kd.R_alloc | apply Kd.R_drewN | apply Kd.R_drew)); exact HO_5.out)); (case aS => exact (below_size (by repeat (first | (with_reducible first | exact HB.out | apply below_alloc | apply pw_below_drewN | apply below_drew1) | exact HB.out)))); (case aL => have := LMc30.out; omega); intro v123 w31 ho hb hg hat; rw [← Ny122.out] at ho; have n0_ := Aside0.mk (hb); have n1_ := Aside0.mk (ho); clear HB; clear HO_5; have HB := n0_; have HO124 := n1_; clear n0_ n1_; clear ho hb hg hat)))
                            go_roundg kj6
                            case measure => have := HK1.out; have := HJ6.out; omega
                            case rel => exact ⟨(y122), (wrap64 (x6_1 + 1)), (by first | rfl | (simp; done) | (simp [*]; done)), H', ⟨by have := HK1.out; have := HJ6.out; omega⟩, ⟨by (with_reducible repeat (first | apply Kd.R_alloc | apply Kd.R_drewN | apply Kd.R_drew)); exact HO124.out⟩, ⟨by repeat (first | (with_reducible first | exact HB.out | apply below_alloc | apply pw_below_drewN | apply below_drew1) | exact HB.out)⟩⟩
                          · rw [if_neg c30] at H
                            exact absurd H (by simp)
                    · rw [if_neg c25] at H
                      exact absurd H (by simp)
                  · rw [if_neg c24] at H
                    exact absurd H (by simp)
          · rw [if_neg c6] at H
            have c6b0 : decide (x6_1 < (l0.length : Int)) = false := decide_eq_false c6
            clear c6
            simp only [Option.some.injEq, Prod.mk.injEq] at H
            obtain ⟨rfl, rfl, rfl⟩ := H
            go_wp2
            repeat (go_quiet (fail); try go_wp2)
            go_ret3
            exact ⟨_, by first | rfl | (simp [errW_none, errW_some] <;> rfl) | (simp [*, errW_none, errW_some] <;> rfl), by (with_reducible repeat (first | apply Kd.R_alloc | apply Kd.R_drewN | apply Kd.R_drew)); exact HO_5.out, by repeat (first | (with_reducible first | exact HB.out | apply below_alloc | apply pw_below_drewN | apply below_drew1) | exact HB.out)⟩
    · rw [if_neg c3] at H
      exact absurd H (by simp)
  · rw [if_neg c2] at H
    exact absurd H (by simp)

-- NOT PRINTED: function 29 (utf16_units)

/-! ### scalar_Is: function 34 -/
def scalar_Is.f (a0 : Int) : Option (Bool) := if a0 ≥ 0 then (if a0 ≤ 1114111 then (if a0 < 55296 then (some true) else (some (decide (a0 > 57343)))) else (some false)) else (some false)
set_option maxHeartbeats 8000000 in
set_option maxRecDepth 100000 in
theorem scalar_Is.calls (a0 : Int) (r : Bool) (w : World) (h : scalar_Is.f a0 = some r) :
    Calls Try.prog 34 #[.int .i32 a0] w fun e w' => e = .returned (.bool r) ∧ Drawn0 w w' := by
  have H : (if a0 ≥ 0 then (if a0 ≤ 1114111 then (if a0 < 55296 then (some true) else (some (decide (a0 > 57343)))) else (some false)) else (some false)) = some r := h
  clear h
  by_cases c2 : a0 ≥ 0
  · rw [if_pos c2] at H
    have c2b0 : decide (0 ≤ a0) = true := decide_eq_true c2
    clear c2
    by_cases c3 : a0 ≤ 1114111
    · rw [if_pos c3] at H
      have c3b0 : decide (a0 ≤ 1114111) = true := decide_eq_true c3
      clear c3
      by_cases c4 : a0 < 55296
      · rw [if_pos c4] at H
        have c4b0 : decide (a0 < 55296) = true := decide_eq_true c4
        clear c4
        obtain rfl := Option.some.inj H
        go_enter Try.func34, Try.ntmps34
        go_wp2
        go_ret
        exact ⟨by first | rfl | (simp; done) | (simp [*]; done), by repeat (first | exact Drawn0.refl _ | apply Drawn0.step)⟩
      · rw [if_neg c4] at H
        have c4b0 : decide (a0 < 55296) = false := decide_eq_false c4
        clear c4
        obtain rfl := Option.some.inj H
        go_enter Try.func34, Try.ntmps34
        go_wp2
        go_ret
        exact ⟨by first | rfl | (simp; done) | (simp [*]; done), by repeat (first | exact Drawn0.refl _ | apply Drawn0.step)⟩
    · rw [if_neg c3] at H
      have c3b0 : decide (a0 ≤ 1114111) = false := decide_eq_false c3
      clear c3
      obtain rfl := Option.some.inj H
      go_enter Try.func34, Try.ntmps34
      go_wp2
      go_ret
      exact ⟨by first | rfl | (simp; done) | (simp [*]; done), by repeat (first | exact Drawn0.refl _ | apply Drawn0.step)⟩
  · rw [if_neg c2] at H
    have c2b0 : decide (0 ≤ a0) = false := decide_eq_false c2
    clear c2
    obtain rfl := Option.some.inj H
    go_enter Try.func34, Try.ntmps34
    go_wp2
    go_ret
    exact ⟨by first | rfl | (simp; done) | (simp [*]; done), by repeat (first | exact Drawn0.refl _ | apply Drawn0.step)⟩

/-! ### scalar_Units: function 36 -/
def scalar_Units.f (a0 : Int) : Option (Int) := (scalar_Is.f a0).bind fun t125 => (if t125 = true then (if a0 ≥ 65536 then (some ((0 + 1) + 1)) else (some (0 + 1))) else (some 0))
set_option maxHeartbeats 8000000 in
set_option maxRecDepth 100000 in
theorem scalar_Units.calls (a0 : Int) (r : Int) (w : World) (h : scalar_Units.f a0 = some r) :
    Calls Try.prog 36 #[.int .i32 a0] w fun e w' => e = .returned (.int .i64 r) ∧ Drawn0 w w' := by
  have H : ((scalar_Is.f a0).bind fun t125 => (if t125 = true then (if a0 ≥ 65536 then (some ((0 + 1) + 1)) else (some (0 + 1))) else (some 0))) = some r := h
  clear h
  replace H := Option.bind_eq_some_iff.mp H
  obtain ⟨t125, A20, H⟩ := H
  replace H : (if t125 = true then (if a0 ≥ 65536 then (some ((0 + 1) + 1)) else (some (0 + 1))) else (some 0)) = some r := H
  have A2 := Aside0.mk A20
  clear A20
  by_cases c3 : t125 = true
  · subst c3
    have H1 : (if a0 ≥ 65536 then (some ((0 + 1) + 1)) else (some (0 + 1))) = some r := by rw [if_pos rfl] at H; exact H
    clear H
    have H := H1
    clear H1
    by_cases c4 : a0 ≥ 65536
    · rw [if_pos c4] at H
      have c4b0 : decide (65536 ≤ a0) = true := decide_eq_true c4
      clear c4
      obtain rfl := Option.some.inj H
      go_enter Try.func36, Try.ntmps36
      go_wp2_with (first | ((with_reducible refine gate_callee (f := 34) rfl ?_); refine goesL_ (some 6) rfl rfl Try.func34 (by kernel_rfl) rfl #[.int .i32 a0] rfl (by (try simp only [List.map_toArray, List.map_cons, List.map_nil]); first | done | rfl | (simp only [List.length_drop, List.length_take]; rfl)) ?_; (with_reducible refine (scalar_Is.calls a0 true _ A2.out).mono ?_); rintro e w' ⟨rfl, ⟨nd, rfl⟩⟩; refine ⟨_, rfl, ?_⟩))
      go_ret
      exact ⟨by first | rfl | (simp; done) | (simp [*]; done), by repeat (first | exact Drawn0.refl _ | apply Drawn0.step)⟩
    · rw [if_neg c4] at H
      have c4b0 : decide (65536 ≤ a0) = false := decide_eq_false c4
      clear c4
      obtain rfl := Option.some.inj H
      go_enter Try.func36, Try.ntmps36
      go_wp2_with (first | ((with_reducible refine gate_callee (f := 34) rfl ?_); refine goesL_ (some 6) rfl rfl Try.func34 (by kernel_rfl) rfl #[.int .i32 a0] rfl (by (try simp only [List.map_toArray, List.map_cons, List.map_nil]); first | done | rfl | (simp only [List.length_drop, List.length_take]; rfl)) ?_; (with_reducible refine (scalar_Is.calls a0 true _ A2.out).mono ?_); rintro e w' ⟨rfl, ⟨nd, rfl⟩⟩; refine ⟨_, rfl, ?_⟩))
      go_ret
      exact ⟨by first | rfl | (simp; done) | (simp [*]; done), by repeat (first | exact Drawn0.refl _ | apply Drawn0.step)⟩
  · replace c3 := Bool.eq_false_iff.mpr c3
    subst c3
    have H1 : (some 0) = some r := by rw [if_neg (show ¬ (false = true) by decide)] at H; exact H
    clear H
    have H := H1
    clear H1
    obtain rfl := Option.some.inj H
    go_enter Try.func36, Try.ntmps36
    go_wp2_with (first | ((with_reducible refine gate_callee (f := 34) rfl ?_); refine goesL_ (some 6) rfl rfl Try.func34 (by kernel_rfl) rfl #[.int .i32 a0] rfl (by (try simp only [List.map_toArray, List.map_cons, List.map_nil]); first | done | rfl | (simp only [List.length_drop, List.length_take]; rfl)) ?_; (with_reducible refine (scalar_Is.calls a0 false _ A2.out).mono ?_); rintro e w' ⟨rfl, ⟨nd, rfl⟩⟩; refine ⟨_, rfl, ?_⟩))
    go_ret
    exact ⟨by first | rfl | (simp; done) | (simp [*]; done), by repeat (first | exact Drawn0.refl _ | apply Drawn0.step)⟩

/-! ### scalar_Split: function 33 -/
def scalar_Split.f (a0 : Int) : Option (Int × Int × Bool) := (scalar_Units.f a0).bind fun t126 => (if t126 = 2 then (some (IntKind.u16.wrap (wrap32 (55296 + ((wrap32 (a0 - 65536)) / 1024))), IntKind.u16.wrap (wrap32 (56320 + (Go.bits .and .i32 (wrap32 (a0 - 65536)) 1023))), true)) else (some (0, 0, false)))
set_option maxHeartbeats 8000000 in
set_option maxRecDepth 100000 in
theorem scalar_Split.calls (a0 : Int) (r1 : Int) (r2 : Int) (r3 : Bool) (w : World) (h : scalar_Split.f a0 = some (r1, r2, r3)) :
    Calls Try.prog 33 #[.int .i32 a0] w fun e w' => e = .returned (.tuple #[.int .u16 r1, .int .u16 r2, .bool r3]) ∧ Drawn0 w w' := by
  have H : ((scalar_Units.f a0).bind fun t126 => (if t126 = 2 then (some (IntKind.u16.wrap (wrap32 (55296 + ((wrap32 (a0 - 65536)) / 1024))), IntKind.u16.wrap (wrap32 (56320 + (Go.bits .and .i32 (wrap32 (a0 - 65536)) 1023))), true)) else (some (0, 0, false)))) = some (r1, r2, r3) := h
  clear h
  replace H := Option.bind_eq_some_iff.mp H
  obtain ⟨t126, A20, H⟩ := H
  replace H : (if t126 = 2 then (some (IntKind.u16.wrap (wrap32 (55296 + ((wrap32 (a0 - 65536)) / 1024))), IntKind.u16.wrap (wrap32 (56320 + (Go.bits .and .i32 (wrap32 (a0 - 65536)) 1023))), true)) else (some (0, 0, false))) = some (r1, r2, r3) := H
  have A2 := Aside0.mk A20
  clear A20
  by_cases c3 : t126 = 2
  · rw [if_pos c3] at H
    have c3b0 : (t126 == 2) = true := beq_iff_eq.mpr c3
    have c3b1 : (t126 != 2) = false := bne_eq_false_iff_eq.mpr c3
    clear c3
    simp only [Option.some.injEq, Prod.mk.injEq] at H
    obtain ⟨rfl, rfl, rfl⟩ := H
    go_enter Try.func33, Try.ntmps33
    go_wp2_with (first | ((with_reducible refine gate_callee (f := 36) rfl ?_); refine goesL_ (some 6) rfl rfl Try.func36 (by kernel_rfl) rfl #[.int .i32 a0] rfl (by (try simp only [List.map_toArray, List.map_cons, List.map_nil]); first | done | rfl | (simp only [List.length_drop, List.length_take]; rfl)) ?_; (with_reducible refine (scalar_Units.calls a0 t126 _ A2.out).mono ?_); rintro e w' ⟨rfl, ⟨nd, rfl⟩⟩; refine ⟨_, rfl, ?_⟩))
    go_ret3
    exact ⟨by first | rfl | (simp; done) | (simp [*]; done), by repeat (first | exact Drawn0.refl _ | apply Drawn0.step)⟩
  · rw [if_neg c3] at H
    have c3b0 : (t126 == 2) = false := beq_eq_false_iff_ne.mpr c3
    have c3b1 : (t126 != 2) = true := bne_iff_ne.mpr c3
    simp only [Option.some.injEq, Prod.mk.injEq] at H
    obtain ⟨rfl, rfl, rfl⟩ := H
    go_enter Try.func33, Try.ntmps33
    go_wp2_with (first | ((with_reducible refine gate_callee (f := 36) rfl ?_); refine goesL_ (some 6) rfl rfl Try.func36 (by kernel_rfl) rfl #[.int .i32 a0] rfl (by (try simp only [List.map_toArray, List.map_cons, List.map_nil]); first | done | rfl | (simp only [List.length_drop, List.length_take]; rfl)) ?_; (with_reducible refine (scalar_Units.calls a0 t126 _ A2.out).mono ?_); rintro e w' ⟨rfl, ⟨nd, rfl⟩⟩; refine ⟨_, rfl, ?_⟩))
    go_ret3
    exact ⟨by first | rfl | (simp; done) | (simp [*]; done), by repeat (first | exact Drawn0.refl _ | apply Drawn0.step)⟩

/-! ### utf16_Units: function 12 -/
/-- A scalar's units. -/
def utf16_Units.of (c : Int) : List Int :=
  match scalar_Split.f c, scalar_Is.f c with
  | some (h, l, two), some true => if two = true then [h, l] else [IntKind.u16.wrap c]
  | _, _ => []
def utf16_Units.f (l0 : List Int) : Option (List Int) := if (∀ c ∈ l0, (scalar_Split.f c).isSome = true ∧ (scalar_Is.f c).isSome = true) ∧ l0.length < 1000000000000 then some (l0.flatMap utf16_Units.of) else none
section
open Go.Shelf
attribute [local go_sem] Oper.semAt_some
theorem utf16_Units.h_grownBy_drawn {w w' : World} (h : Drawn0 w w') : w.grownBy w' none := by
  obtain ⟨n, rfl⟩ := h.out
  exact ⟨rfl, rfl, rfl, Nat.le_refl _, fun _ _ _ => rfl⟩
theorem utf16_Units.h_units_in (n : Nat) (w : World) (A : Option Addr) (len cap : Nat) :
    CallsIn Fence.wide n Try.prog 29 #[.slice A len cap] w fun e w' => e = .returned (.func (.func 32) #[] #[.pointer (some ⟨w.heap.size, 0, none⟩)]) ∧ w' = w.alloc (.cells #[.slice A len cap] 22) := by
  refine callsIn_of_wp Try.func29 rfl trivial ?_ rfl
  simp only [Try.ntmps29, List.size_toArray, List.length_cons, List.length_nil, Nat.reduceAdd, Nat.reduceSub, Array.replicate_succ, Array.replicate_zero, List.push_toArray, List.append_toArray, List.nil_append, List.cons_append]
  gi_wp2
  go_ret
  exact ⟨rfl, rfl⟩
def utf16_Units.h_upU (zs : List Int) (k : Nat) : List Int := (zs.take k).flatMap utf16_Units.of
theorem utf16_Units.h_of_len (c : Int) : (utf16_Units.of c).length ≤ 2 := by
  unfold utf16_Units.of
  split
  · split <;> simp
  · simp
theorem utf16_Units.h_flat_len (xs : List Int) : (xs.flatMap utf16_Units.of).length ≤ 2 * xs.length := by
  induction xs with
  | nil => simp
  | cons x r ih =>
    have := utf16_Units.h_of_len x
    simp only [List.flatMap_cons, List.length_append, List.length_cons]
    omega
theorem utf16_Units.h_upU_len (zs : List Int) (k : Nat) : (utf16_Units.h_upU zs k).length ≤ 2 * k := by
  have := utf16_Units.h_flat_len (zs.take k)
  rw [List.length_take] at this
  unfold utf16_Units.h_upU
  omega
set_option maxRecDepth 100000 in
set_option maxHeartbeats 2000000 in
theorem utf16_Units.h_units1_in (n : Nat) (hn : 1 ≤ n) (l Bs n₀ cap : Nat) (ad : Addr) (zs : List Int) (hb : ad.block < n₀)  (hreach : zs.length < 1000000000000) (J Jx : List Int → World → Prop)
    (hok : ∀ c ∈ zs, (scalar_Split.f c).isSome = true ∧ (scalar_Is.f c).isSome = true)
    (W : World) (hn₀ : n₀ ≤ W.heap.size) (hJ : AbidesFrom W.heap.size J)
    (hY : ∀ pre x W, J pre W → pre.length < 2 * zs.length → YieldAt Fence.wide (n - 1) Try.prog l #[.int .u16 x] W fun e W' =>
      (e = .returned (.bool true) ∧ J (pre ++ [x]) W' ∧ Below n₀ W W') ∨ (e = .returned (.bool false) ∧ Jx (pre ++ [x]) W'))
    (hBs : W.cell? ⟨Bs, 0, none⟩ = some (.slice (some ad) zs.length cap)) (hc : ∀ j, j < zs.length → W.cell? (ad.add j) = some (.int .i32 (zs[j]?.getD 0))) (h0 : J [] W) :
    CallsIn Fence.wide n Try.prog 32 #[.func (.yield l) #[] #[], .pointer (some ⟨Bs, 0, none⟩)] W fun e W' => (∃ v, e = .returned v) ∧
      ((∃ ys, ys = utf16_Units.h_upU zs zs.length ∧ J ys W') ∨ (∃ pre, True ∧ Jx pre W')) := by
  refine callsIn_of_wp Try.func32 rfl trivial ?_ rfl
  simp only [Try.ntmps32, List.size_toArray, List.length_cons, List.length_nil, Nat.reduceAdd, Nat.reduceSub, Array.replicate_succ, Array.replicate_zero, List.push_toArray, List.append_toArray, List.nil_append, List.cons_append]
  gi_wp2
  gi_loopw [10] (fun i wr => ∃ k : Nat, k ≤ zs.length ∧ i = .int .i64 k ∧ J (utf16_Units.h_upU zs k) wr ∧ Below n₀ W wr)
    (fun i _ => zs.length - (intOf i).toNat)
  case atStart => exact ⟨0, Nat.zero_le _, rfl, h0, Below.refl _ _⟩
  case round =>
    obtain ⟨k, hk, rfl, hJs, hnx⟩ := hrel
    by_cases hlt : k < zs.length
    · obtain ⟨c, hc0⟩ : ∃ c, c = zs[k]?.getD 0 := ⟨_, rfl⟩
      have hmem : c ∈ zs := by rw [hc0, List.getElem?_eq_getElem hlt]; exact List.getElem_mem hlt
      obtain ⟨hs, hi⟩ := hok _ hmem
      obtain ⟨⟨h, lo, two⟩, hS⟩ := Option.isSome_iff_exists.mp hs
      obtain ⟨isb, hI⟩ := Option.isSome_iff_exists.mp hi
      have hcx : wr.cell? (ad.add k) = some (.int .i32 c) := by rw [hc0]; exact (hnx.cell (p := ad.add k) (by rw [add_block]; exact hb)).trans (hc k hlt)
      have hup : utf16_Units.h_upU zs (k + 1) = utf16_Units.h_upU zs k ++ utf16_Units.of c := by
        unfold utf16_Units.h_upU
        rw [List.take_add_one, List.getElem?_eq_getElem hlt, Option.toList_some, List.flatMap_append]
        rw [hc0, List.getElem?_eq_getElem hlt]
        simp
      have hul : (utf16_Units.h_upU zs k).length ≤ 2 * k := utf16_Units.h_upU_len zs k
      clear hc0 hs hi hmem
      cases isb with
      | false =>
        have hof : utf16_Units.of c = [] := by simp [utf16_Units.of, hS, hI]
        gi_wp2_with (first | (refine ⟨trivial, ?_⟩; gi_at_call 33; refine (callsIn_wide.2 (scalar_Split.calls _ _ _ _ _ hS)).mono ?_; rintro e w1 ⟨rfl, hd1⟩; have hJ1 := hJ _ _ _ none hJs (utf16_Units.h_grownBy_drawn hd1) (fun r e => by cases e); have hn1 := hd1.below) | (refine ⟨trivial, ?_⟩; gi_at_call 34; refine (callsIn_wide.2 (scalar_Is.calls _ _ _ hI)).mono ?_; rintro e w2 ⟨rfl, hd2⟩; have hJ2 := hJ _ _ _ none hJ1 (utf16_Units.h_grownBy_drawn hd2) (fun r e => by cases e); have hn2 := hd2.below))
        have hB2 : Below n₀ W w2 := (hnx.trans (hn1.mono (Nat.le_trans hn₀ hnx.size))).trans (hn2.mono (Nat.le_trans (Nat.le_trans hn₀ hnx.size) hn1.size))
        exact ⟨⟨k + 1, by omega, by simp, by rw [hup, hof, List.append_nil]; exact hJ2, hB2⟩, by simp [intOf]; omega⟩
      | true =>
        cases two with
        | false =>
          have hof : utf16_Units.of c = [IntKind.u16.wrap c] := by simp [utf16_Units.of, hS, hI]
          gi_wp2_with (first | (refine ⟨trivial, ?_⟩; gi_at_call 33; refine (callsIn_wide.2 (scalar_Split.calls _ _ _ _ _ hS)).mono ?_; rintro e w1 ⟨rfl, hd1⟩; have hJ1 := hJ _ _ _ none hJs (utf16_Units.h_grownBy_drawn hd1) (fun r e => by cases e); have hn1 := hd1.below) | (refine ⟨trivial, ?_⟩; gi_at_call 34; refine (callsIn_wide.2 (scalar_Is.calls _ _ _ hI)).mono ?_; rintro e w2 ⟨rfl, hd2⟩; have hJ2 := hJ _ _ _ none hJ1 (utf16_Units.h_grownBy_drawn hd2) (fun r e => by cases e); have hn2 := hd2.below; obtain ⟨fn, tmps, assign, body, hy, hR⟩ := hY _ (IntKind.u16.wrap c) w2 hJ2 (by omega)))
          have hB2 : Below n₀ W w2 := (hnx.trans (hn1.mono (Nat.le_trans hn₀ hnx.size))).trans (hn2.mono (Nat.le_trans (Nat.le_trans hn₀ hnx.size) hn1.size))
          refine hR.mono ?_
          rintro e W3 (⟨rfl, hJ3, hk3⟩ | ⟨rfl, hJx3⟩)
          · gi_wp2
            exact ⟨⟨k + 1, by omega, by simp, by rw [hup, hof]; exact hJ3, hB2.trans hk3⟩, by simp [intOf]; omega⟩
          · gi_wp2
            refine bodyPost_ret (results_none rfl _ _ _) rfl ?_
            exact ⟨⟨_, rfl⟩, .inr ⟨_, trivial, hJx3⟩⟩
        | true =>
          have hof : utf16_Units.of c = [h, lo] := by simp [utf16_Units.of, hS, hI]
          gi_wp2_with (first | (refine ⟨trivial, ?_⟩; gi_at_call 33; refine (callsIn_wide.2 (scalar_Split.calls _ _ _ _ _ hS)).mono ?_; rintro e w1 ⟨rfl, hd1⟩; have hJ1 := hJ _ _ _ none hJs (utf16_Units.h_grownBy_drawn hd1) (fun r e => by cases e); have hn1 := hd1.below) | (refine ⟨trivial, ?_⟩; gi_at_call 34; refine (callsIn_wide.2 (scalar_Is.calls _ _ _ hI)).mono ?_; rintro e w2 ⟨rfl, hd2⟩; have hJ2 := hJ _ _ _ none hJ1 (utf16_Units.h_grownBy_drawn hd2) (fun r e => by cases e); have hn2 := hd2.below; obtain ⟨fn, tmps, assign, body, hy, hR⟩ := hY _ h w2 hJ2 (by omega)))
          have hB2 : Below n₀ W w2 := (hnx.trans (hn1.mono (Nat.le_trans hn₀ hnx.size))).trans (hn2.mono (Nat.le_trans (Nat.le_trans hn₀ hnx.size) hn1.size))
          refine hR.mono ?_
          rintro e W3 (⟨rfl, hJ3, hk3⟩ | ⟨rfl, hJx3⟩)
          · obtain ⟨fn2, tmps2, assign2, body2, hy2, hR2⟩ := hY _ lo W3 hJ3 (by simp; omega)
            gi_wp2
            refine hR2.mono ?_
            rintro e W4 (⟨rfl, hJ4, hk4⟩ | ⟨rfl, hJx4⟩)
            · gi_wp2
              exact ⟨⟨k + 1, by omega, by simp, by rw [hup, hof]; simpa using hJ4, (hB2.trans hk3).trans hk4⟩, by simp [intOf]; omega⟩
            · gi_wp2
              refine bodyPost_ret (results_none rfl _ _ _) rfl ?_
              exact ⟨⟨_, rfl⟩, .inr ⟨_, trivial, hJx4⟩⟩
          · gi_wp2
            refine ⟨fun _ h => (by cases h), ?_⟩
            gi_wp2
            refine bodyPost_ret (results_none rfl _ _ _) rfl ?_
            exact ⟨⟨_, rfl⟩, .inr ⟨_, trivial, hJx3⟩⟩
    · obtain rfl : k = zs.length := by omega
      gi_wp2
      go_end0
      exact ⟨⟨_, rfl⟩, .inl ⟨_, rfl, hJs⟩⟩
set_option maxRecDepth 100000 in
set_option maxHeartbeats 1000000 in
theorem utf16_Units.h_units0_in (n : Nat) (l Bs cap : Nat) (A : Option Addr) (J : List Int → World → Prop) (W : World) (hBs : W.cell? ⟨Bs, 0, none⟩ = some (.slice A 0 cap)) (h0 : J [] W) :
    CallsIn Fence.wide n Try.prog 32 #[.func (.yield l) #[] #[], .pointer (some ⟨Bs, 0, none⟩)] W fun e W' => (∃ v, e = .returned v) ∧ J [] W' := by
  refine callsIn_of_wp Try.func32 rfl trivial ?_ rfl
  simp only [Try.ntmps32, List.size_toArray, List.length_cons, List.length_nil, Nat.reduceAdd, Nat.reduceSub, Array.replicate_succ, Array.replicate_zero, List.push_toArray, List.append_toArray, List.nil_append, List.cons_append]
  gi_wp2
  gi_loopw [10] (fun i wr => i = .int .i64 0 ∧ J [] wr) (fun _ _ => 0)
  case atStart => exact ⟨rfl, h0⟩
  case round =>
    obtain ⟨rfl, hJs⟩ := hrel
    gi_wp2
    go_end0
    exact ⟨⟨_, rfl⟩, hJs⟩
theorem utf16_Units.h_units_stops (n : Nat) (hn : 1 ≤ n) (Bs n₀ cap : Nat) (A : Option Addr) (zs : List Int) (hreach : zs.length < 1000000000000) (hok : ∀ c ∈ zs, (scalar_Split.f c).isSome = true ∧ (scalar_Is.f c).isSome = true)
    (w w0 : World) (hw0 : w0.heap.size = n₀) (hB : Below n₀ w0 w) (hBs : Bs < w.heap.size) (hcell : w.cell? ⟨Bs, 0, none⟩ = some (.slice A zs.length cap)) (hr : Kd.C (Kd.int .i32) w0 A zs.length zs) :
    SeqStopsK Fence.wide n Try.prog 32 #[.pointer (some ⟨Bs, 0, none⟩)] (fun x : Int => #[Value.int .u16 x]) (Below n₀) (fun ys => ys = zs.flatMap utf16_Units.of) (fun _ => True) (2 * zs.length) w := fun l J Jx W hW hJ _ hY h0 => by
  have hc' := (hW.cell (p := ⟨Bs, 0, none⟩) hBs).trans hcell
  have hn₀ : n₀ ≤ w.heap.size := by have := hB.size; omega
  obtain ⟨_, _, hrd⟩ := Kd.reads_of_C (enc := Value.int .i32) (d := (0 : Int)) (h1 := fun _ => rfl) hr
  by_cases hz : zs.length = 0
  · have hz' : zs = [] := List.length_eq_zero_iff.mp hz
    subst hz'
    exact (utf16_Units.h_units0_in n l Bs cap A J W hc' h0).mono fun e W' ⟨he, hj⟩ => ⟨he, .inl ⟨_, rfl, by simpa using hj⟩⟩
  · obtain ⟨ad, rfl, hcs⟩ := hrd (by omega)
    have h00 := hcs 0 (by omega)
    have hb : ad.block < n₀ := by
      have := World.block_lt_of_cell? _ _ h00
      rw [add_block] at this
      omega
    refine (utf16_Units.h_units1_in n hn l Bs n₀ cap ad zs hb hreach J Jx hok W (by have := hW.size; omega) hJ hY hc' (fun j hj => ?_) h0).mono ?_
    · have h1 := hcs j hj
      have h2 : w.cell? (ad.add j) = some (.int .i32 (zs.getD j 0)) := (hB.cell (p := ad.add j) (by rw [add_block]; exact hb)).trans h1
      have h3 := (hW.cell (p := ad.add j) (by rw [add_block]; omega)).trans h2
      simpa [List.getD_eq_getElem?_getD] using h3
    · rintro e W' ⟨he, ⟨ys, rfl, hj⟩ | ⟨pre, _, hj⟩⟩
      · exact ⟨he, .inl ⟨_, by simp [utf16_Units.h_upU], hj⟩⟩
      · exact ⟨he, .inr ⟨_, trivial, hj⟩⟩
theorem utf16_Units.h_info43u : (Try.prog.info? 43).map (fun i => (i.zero, i.size, i.bytes)) = some (some (.int .u16 0), 1, 2) := by kernel_rfl
set_option maxRecDepth 100000 in
set_option maxHeartbeats 2000000 in
theorem utf16_Units.h_Units_in (A : Option Addr) (c0 : Nat) (zs : List Int) (w : World) (hr0 : Kd.C (Kd.int .i32) w A zs.length zs) (hreach : zs.length < 1000000000000) (hok : ∀ c ∈ zs, (scalar_Split.f c).isSome = true ∧ (scalar_Is.f c).isSome = true) :
    CallsIn Fence.wide 3 Try.prog 12 #[.slice A zs.length c0] w fun e w' => ∃ v, e = .returned v ∧ w'.ownsRow w.heap.size 43 1 v (zs.flatMap utf16_Units.of).length ((zs.flatMap utf16_Units.of).map (Value.int .u16)) ∧ Below w.heap.size w w' := by
  obtain ⟨i0, hi, hz0, hz1, hz2⟩ := info_parts utf16_Units.h_info43u
  refine callsIn_of_wp_marks Try.func12 rfl trivial ?_ rfl
  simp only [Try.ntmps12, List.size_toArray, List.length_cons, List.length_nil, Nat.reduceAdd, Nat.reduceSub, Array.replicate_succ, Array.replicate_zero, List.push_toArray, List.append_toArray, List.nil_append, List.cons_append]
  have hr := run_make (P := Try.prog) w 23 43 i0 (.int .u16 0) Try.underlying23 hi hz0 .i64 .i64 0 (zs.length : Int) (by omega) (by omega) (by rw [hz2]; omega) (by omega)
  simp only [Int.toNat_natCast, Int.toNat_zero] at hr
  rw [hz1, Nat.mul_one] at hr
  obtain ⟨cells, hcells⟩ : ∃ cells, cells = madeCells (Value.int .u16 0).cells zs.length := ⟨_, rfl⟩
  rw [← hcells] at hr
  gi_wp2_with (refine ⟨trivial, ?_⟩; gi_at_call 29; refine (utf16_Units.h_units_in _ _ _ _ _).mono ?_; rintro e w' ⟨rfl, rfl⟩)
  have bO := Boxed.new (w.alloc (.cells (madeCells #[Value.int IntKind.u16 0] zs.length) 43)) 23 (.slice (some ⟨w.heap.size, 0, none⟩) 0 zs.length)
  have bN := Boxed.new ((w.alloc (.cells (madeCells #[Value.int IntKind.u16 0] zs.length) 43)).alloc (.cells #[.slice (some ⟨w.heap.size, 0, none⟩) 0 zs.length] 23)) 22 (.slice A zs.length c0)
  rw [World.size_alloc] at bO
  rw [World.size_alloc, World.size_alloc] at bN
  have hrow0 : (w.alloc (.cells (madeCells #[Value.int IntKind.u16 0] zs.length) 43)).ownsRow w.heap.size 43 1 (.slice (some ⟨w.heap.size, 0, none⟩) 0 zs.length) 0 [] :=
    World.ownsRow_made w (madeCells #[Value.int IntKind.u16 0] zs.length) zs.length (Nat.le_refl _) (by simp only [maxLen]; omega) (by simp [size_madeCells])
  have hB0 : Below w.heap.size w (((w.alloc (.cells (madeCells #[Value.int IntKind.u16 0] zs.length) 43)).alloc (.cells #[.slice (some ⟨w.heap.size, 0, none⟩) 0 zs.length] 23)).alloc (.cells #[.slice A zs.length c0] 22)) :=
    (((Below.refl _ w).alloc (Nat.le_refl _) _).alloc (by simp) _).alloc (by simp; omega) _
  clear hr
  refine wpIn_rangeFunc_ownG rfl (by omega) (gf := 32) (lb := #[.pointer (some ⟨w.heap.size + 1 + 1, 0, none⟩)]) rfl trivial (enters_of Try.func32 (by kernel_rfl) rfl)
    (utf16_Units.h_units_stops 2 (by omega) (w.heap.size + 1 + 1) w.heap.size c0 A zs hreach hok _ w rfl hB0 (by simp) bN.cell hr0) belowK_t (belowK_b (by simp; omega)) (Below.refl _ _) (fun _ => rfl)
    (fun (pre : List Int) W => (∃ v, Boxed W (w.heap.size + 1) 23 v ∧ W.ownsRow w.heap.size 43 1 v pre.length (pre.map (Value.int .u16)) ∧ True) ∧ Below w.heap.size w W)
    (fun _ _ _ => False)
    (OwnFrom.and (Own.from (holdsRow_own w.heap.size (w.heap.size + 1) 23 43 1 (fun pre : List Int => pre.length) (fun pre : List Int => pre.map (Value.int .u16)) (fun _ _ => True)) _) (ownFrom_below (Nat.le_refl _) (by simp; omega)))
    (fun _ _ _ _ _ hs _ _ => hs)
    ⟨⟨_, bO.alloc _, (hrow0.alloc _).alloc _, trivial⟩, hB0⟩
    (fun x => { tmps := #[.slice A zs.length c0, undef, .slice none 0 0, .pointer (some ⟨w.heap.size + 1, 0, none⟩), .int .u16 x, .slice A zs.length c0, .int .i64 zs.length, .slice (some ⟨w.heap.size, 0, none⟩) 0 zs.length, .slice A zs.length c0, .func (.func 32) #[] #[.pointer (some ⟨w.heap.size + 1 + 1, 0, none⟩)], .int .u16 x, undef, undef, undef, undef, undef], defers := [] }) ?assign ?body ?done ?stop
  case assign =>
    intro l x W K hK
    gi_wp2
    exact hK
  case body =>
    rintro l pre x W ⟨⟨v, hv, hrow, _⟩, hB⟩ hlt
    have hc := hv.cell
    gi_wp2_with (gi_at_builtin; refine wpListIn_append_own _ rfl _ _ 23 rfl w.heap.size 43 i0 (.int .u16 0) 1 2 Try.underlying23 hi hz0 hz1 hz2 rfl (by decide) _ _ _ rfl (hrow.alloc _) ⟨W.heap.size, 0, none⟩ 1 1 [.int .u16 x] rfl rfl (cell_one_new _ _ _) (by simp [Value.oneCell']) (by simp only [maxLen]; omega) (by omega) (by have := hB.size; simp; omega) ?_; intro v' w1 hown' hgrow _; obtain ⟨g', cap', rfl⟩ := ownsRow_succ hown'; obtain ⟨hv1, hv2, hr2, hk2, hb2⟩ := hv.appended (by decide) hrow hB.size (by omega) hown' hgrow; have hc1 := hv1.cell; have hf1 := hv1.frozen)
    exact ⟨hk2.from _, hb2, ⟨_, hv2, by simpa using hr2, trivial⟩, hB.trans hb2⟩
  case done =>
    rintro D ys W hD rfl ⟨⟨v, hv, hrow, _⟩, hB⟩ hK
    have hc := hv.cell
    gi_wp2
    refine ⟨by simp, .inl ⟨_, _, rfl, run_takeDeferred hK, ?_⟩⟩
    exact ⟨_, results_tmp rfl _ _ _, v, rfl, ownsRow_putObj hrow _ hK rfl, hB.trans (belowK_b (w := w) (Nat.le_refl _) W D _ _ (by simp at hD; omega) hK rfl rfl)⟩
  case stop =>
    rintro D c pre W _ _ h _
    exact h.elim
theorem utf16_Units.calls (A0 : Option Addr) (c0 : Nat) (l0 : List Int) (r : List Int) (w : World) (hr0 : Kd.C (Kd.int .i32) w A0 l0.length l0) (hc0 : l0.length ≤ c0) (h : utf16_Units.f l0 = some r) :
    Calls Try.prog 12 #[.slice A0 l0.length c0] w fun e w' => ∃ v0_ : Value, e = .returned (v0_) ∧ Kd.R (Kd.int .u16) 43 w' w.heap.size (fun _ => True) v0_ r ∧ Below w.heap.size w w' := by
  unfold utf16_Units.f at h
  split at h
  · rename_i hh
    injection h with h
    subst h
    refine ((callsIn_wide (n := 3)).1 (utf16_Units.h_Units_in A0 c0 l0 w hr0 hh.2 hh.1)).mono ?_
    rintro e w' ⟨v, rfl, ho, hb⟩
    exact ⟨v, rfl, Kd.R_of_own (h1 := fun _ => rfl) (ok := fun _ => True) ho (fun _ _ => trivial), hb⟩
  · cases h
end

/-! ### cmp_isNaN_uint16: function 37 -/
def cmp_isNaN_uint16.f (a0 : Int) : Option (Bool) := some (a0 != a0)
set_option maxHeartbeats 8000000 in
set_option maxRecDepth 100000 in
theorem cmp_isNaN_uint16.calls (a0 : Int) (r : Bool) (w : World) (h : cmp_isNaN_uint16.f a0 = some r) :
    Calls Try.prog 37 #[.int .u16 a0] w fun e w' => e = .returned (.bool r) ∧ Drawn0 w w' := by
  have H : (some (a0 != a0)) = some r := h
  clear h
  obtain rfl := Option.some.inj H
  go_enter Try.func37, Try.ntmps37
  go_wp2
  go_ret
  exact ⟨by first | rfl | (simp; done) | (simp [*]; done), by repeat (first | exact Drawn0.refl _ | apply Drawn0.step)⟩

end Go.Proofs.Ythgloaihgpcjjaa.PAll
