-- The machine's side of laws, written by a program of this session (wip/gen/pp.sh). Lean checks it.
import Derived.Test.YtajinnlaajhoeaaPThrx0
import Derived.Test.YtajinnlaajhoeaaPThrx1
import Derived.Test.YtajinnlaajhoeaaPThrx4
namespace Go.Proofs.Ytajinnlaajhoeaa.PThr
open Go.RowKit Go.Proofs.YtajinnlaajhoeaaW.PrintWords Go.Proofs.YtajinnlaajhoeaaW.PrintLast
set_option linter.unusedVariables false
set_option linter.unusedSimpArgs false

/-! ### orthoepylaw21_OrderTurned: function 7 -/
mutual
def orthoepylaw21_OrderTurned.l0 : Nat → List ByteArray → Int → List ByteArray → List ByteArray → Int → Option (Bool)
  | 0, _, _, _, _, _ => none
  | k + 1, x0, x1, x5, x6, x7 => if x7 < (x0.length : Int) then ((orthoepylaw00_Place.f x1 (x0.length : Int)).bind fun t207 => (if (x0.length : Int) = 0 then (none) else (if 0 ≤ (Int.tmod (wrap64 (x7 + t207)) (x0.length : Int)) then (if (Int.tmod (wrap64 (x7 + t207)) (x0.length : Int)) < (x0.length : Int) then (if x5.length < 8796093022208 then (if 0 ≤ (wrap64 ((wrap64 ((x0.length : Int) - 1)) - x7)) then (if (wrap64 ((wrap64 ((x0.length : Int) - 1)) - x7)) < (x0.length : Int) then (if x6.length < 8796093022208 then (orthoepylaw21_OrderTurned.l0 k x0 x1 (x5 ++ [rdOf ByteArray.empty x0 (Int.tmod (wrap64 (x7 + t207)) (x0.length : Int))]) (x6 ++ [rdOf ByteArray.empty x0 (wrap64 ((wrap64 ((x0.length : Int) - 1)) - x7))]) (wrap64 (x7 + 1))) else (none)) else (none)) else (none)) else (none)) else (none)) else (none)))) else ((order_Sort.f x0).bind fun t216 => ((order_Sort.f x5).bind fun t219 => ((order_Sort.f x6).bind fun t222 => (if (t216.length : Int) = (x0.length : Int) then (if (t219.length : Int) = (x0.length : Int) then (orthoepylaw21_OrderTurned.j1 k x0 x5 x6 t216 t219 t222 ((t222.length : Int) != (x0.length : Int))) else (orthoepylaw21_OrderTurned.j1 k x0 x5 x6 t216 t219 t222 true)) else (orthoepylaw21_OrderTurned.j1 k x0 x5 x6 t216 t219 t222 true)))))
def orthoepylaw21_OrderTurned.j1 : Nat → List ByteArray → List ByteArray → List ByteArray → List Int → List Int → List Int → Bool → Option (Bool)
  | 0, _, _, _, _, _, _, _ => none
  | k + 1, x0, x5, x6, x8, x9, x10, x75 => if x75 = true then (some false) else (orthoepylaw21_OrderTurned.l1 k x0 x5 x6 x8 x9 x10 0)
def orthoepylaw21_OrderTurned.l1 : Nat → List ByteArray → List ByteArray → List ByteArray → List Int → List Int → List Int → Int → Option (Bool)
  | 0, _, _, _, _, _, _, _ => none
  | k + 1, x0, x5, x6, x8, x9, x10, x11 => if x11 < (x0.length : Int) then (if 0 ≤ x11 then (if x11 < (x8.length : Int) then (if x11 < (x9.length : Int) then (if x11 < (x10.length : Int) then (if (rd x8 x11) < 0 then (some false) else (if (rd x9 x11) < 0 then (some false) else (if (rd x10 x11) < 0 then (some false) else (if (rd x8 x11) ≥ (x0.length : Int) then (some false) else (if (rd x9 x11) ≥ (x0.length : Int) then (some false) else (if (rd x10 x11) ≥ (x0.length : Int) then (some false) else (if 0 ≤ (rd x8 x11) then (if (rd x8 x11) < (x0.length : Int) then (if 0 ≤ (rd x9 x11) then (if (rd x9 x11) < (x5.length : Int) then (if (rdOf ByteArray.empty x0 (rd x8 x11)).toList = (rdOf ByteArray.empty x5 (rd x9 x11)).toList then (if 0 ≤ (rd x10 x11) then (if (rd x10 x11) < (x6.length : Int) then (if (rdOf ByteArray.empty x0 (rd x8 x11)).toList = (rdOf ByteArray.empty x6 (rd x10 x11)).toList then (orthoepylaw21_OrderTurned.l1 k x0 x5 x6 x8 x9 x10 (wrap64 (x11 + 1))) else (some false)) else (none)) else (none)) else (some false)) else (none)) else (none)) else (none)) else (none)))))))) else (none)) else (none)) else (none)) else (none)) else ((orthoepylaw21_awake.f).bind fun t232 => (some t232))
end
def orthoepylaw21_OrderTurned.f (k : Nat) (l0 : List ByteArray) (a1 : Int) : Option (Bool) := (orthoepylaw21_right.f k l0).bind fun t205 => (if t205 = true then (orthoepylaw21_OrderTurned.l0 k l0 a1 ([] : List ByteArray) ([] : List ByteArray) 0) else ((orthoepylaw21_awake.f).bind fun t206 => (some t206)))
theorem orthoepylaw21_OrderTurned.mono_l : ∀ k, (∀ y0 y1 y2 y3 y4, LeO (orthoepylaw21_OrderTurned.l0 k y0 y1 y2 y3 y4) (orthoepylaw21_OrderTurned.l0 (k + 1) y0 y1 y2 y3 y4)) ∧ (∀ y0 y1 y2 y3 y4 y5 y6, LeO (orthoepylaw21_OrderTurned.j1 k y0 y1 y2 y3 y4 y5 y6) (orthoepylaw21_OrderTurned.j1 (k + 1) y0 y1 y2 y3 y4 y5 y6)) ∧ (∀ y0 y1 y2 y3 y4 y5 y6, LeO (orthoepylaw21_OrderTurned.l1 k y0 y1 y2 y3 y4 y5 y6) (orthoepylaw21_OrderTurned.l1 (k + 1) y0 y1 y2 y3 y4 y5 y6))
  | 0 => ⟨fun _ _ _ _ _ r h => by simp [orthoepylaw21_OrderTurned.l0] at h, fun _ _ _ _ _ _ _ r h => by simp [orthoepylaw21_OrderTurned.j1] at h, fun _ _ _ _ _ _ _ r h => by simp [orthoepylaw21_OrderTurned.l1] at h⟩
  | k + 1 => by
    obtain ⟨ih0, ih1, ih2⟩ := orthoepylaw21_OrderTurned.mono_l k
    refine ⟨?_, ?_, ?_⟩
    · intro y0 y1 y2 y3 y4
      unfold orthoepylaw21_OrderTurned.l0
      repeat' first
      | (with_reducible exact ih0 _ _ _ _ _)
      | (with_reducible exact ih1 _ _ _ _ _ _ _)
      | (with_reducible exact ih2 _ _ _ _ _ _ _)
      | (with_reducible exact orthoepylaw21_right.mono _ _)
      | (with_reducible exact LeO.refl _)
      | (with_reducible exact LeO.none _)
      | (with_reducible refine LeO.ite ?_ ?_)
      | (with_reducible refine LeO.bind ?_ (fun _ => ?_))
      | exact ih0 _ _ _ _ _
      | exact ih1 _ _ _ _ _ _ _
      | exact ih2 _ _ _ _ _ _ _
      | exact orthoepylaw21_right.mono _ _
      | exact LeO.none _
      | refine LeO.ite ?_ ?_
      | refine LeO.bind ?_ (fun _ => ?_)
    · intro y0 y1 y2 y3 y4 y5 y6
      unfold orthoepylaw21_OrderTurned.j1
      repeat' first
      | (with_reducible exact ih0 _ _ _ _ _)
      | (with_reducible exact ih1 _ _ _ _ _ _ _)
      | (with_reducible exact ih2 _ _ _ _ _ _ _)
      | (with_reducible exact orthoepylaw21_right.mono _ _)
      | (with_reducible exact LeO.refl _)
      | (with_reducible exact LeO.none _)
      | (with_reducible refine LeO.ite ?_ ?_)
      | (with_reducible refine LeO.bind ?_ (fun _ => ?_))
      | exact ih0 _ _ _ _ _
      | exact ih1 _ _ _ _ _ _ _
      | exact ih2 _ _ _ _ _ _ _
      | exact orthoepylaw21_right.mono _ _
      | exact LeO.none _
      | refine LeO.ite ?_ ?_
      | refine LeO.bind ?_ (fun _ => ?_)
    · intro y0 y1 y2 y3 y4 y5 y6
      unfold orthoepylaw21_OrderTurned.l1
      repeat' first
      | (with_reducible exact ih0 _ _ _ _ _)
      | (with_reducible exact ih1 _ _ _ _ _ _ _)
      | (with_reducible exact ih2 _ _ _ _ _ _ _)
      | (with_reducible exact orthoepylaw21_right.mono _ _)
      | (with_reducible exact LeO.refl _)
      | (with_reducible exact LeO.none _)
      | (with_reducible refine LeO.ite ?_ ?_)
      | (with_reducible refine LeO.bind ?_ (fun _ => ?_))
      | exact ih0 _ _ _ _ _
      | exact ih1 _ _ _ _ _ _ _
      | exact ih2 _ _ _ _ _ _ _
      | exact orthoepylaw21_right.mono _ _
      | exact LeO.none _
      | refine LeO.ite ?_ ?_
      | refine LeO.bind ?_ (fun _ => ?_)
theorem orthoepylaw21_OrderTurned.mono : ∀ a0 a1 k, LeO (orthoepylaw21_OrderTurned.f k a0 a1) (orthoepylaw21_OrderTurned.f (k + 1) a0 a1) := by
  intro a0 a1 k
  obtain ⟨ih0, ih1, ih2⟩ := orthoepylaw21_OrderTurned.mono_l k
  unfold orthoepylaw21_OrderTurned.f
  repeat' first
      | (with_reducible exact ih0 _ _ _ _ _)
      | (with_reducible exact ih1 _ _ _ _ _ _ _)
      | (with_reducible exact ih2 _ _ _ _ _ _ _)
      | (with_reducible exact orthoepylaw21_right.mono _ _)
      | (with_reducible exact LeO.refl _)
      | (with_reducible exact LeO.none _)
      | (with_reducible refine LeO.ite ?_ ?_)
      | (with_reducible refine LeO.bind ?_ (fun _ => ?_))
      | exact ih0 _ _ _ _ _
      | exact ih1 _ _ _ _ _ _ _
      | exact ih2 _ _ _ _ _ _ _
      | exact orthoepylaw21_right.mono _ _
      | exact LeO.none _
      | refine LeO.ite ?_ ?_
      | refine LeO.bind ?_ (fun _ => ?_)
set_option maxHeartbeats 8000000 in
set_option maxRecDepth 100000 in
theorem orthoepylaw21_OrderTurned.calls (k : Nat) (A0 : Option Addr) (c0 : Nat) (l0 : List ByteArray) (a1 : Int) (r : Bool) (w : World) (hr0 : Kd.C Kd.string w A0 l0.length l0) (hc0 : l0.length ≤ c0) (h : orthoepylaw21_OrderTurned.f k l0 a1 = some r) (hT_ : Aside0 (r = true)) :
    Calls Try.prog 7 #[.slice A0 l0.length c0, .int .i64 a1] w fun e w' => e = .returned (.bool r) ∧ Below w.heap.size w w' := by
  have HR0 := Aside0.mk hr0
  have HC0 := Aside0.mk hc0
  clear hr0 hc0
  have HB := Aside0.mk (Below.refl w.heap.size w)
  have H : ((orthoepylaw21_right.f k l0).bind fun t205 => (if t205 = true then (orthoepylaw21_OrderTurned.l0 k l0 a1 ([] : List ByteArray) ([] : List ByteArray) 0) else ((orthoepylaw21_awake.f).bind fun t206 => (some t206)))) = some r := h
  clear h
  replace H := Option.bind_eq_some_iff.mp H
  obtain ⟨t205, A30, H⟩ := H
  replace H : (if t205 = true then (orthoepylaw21_OrderTurned.l0 k l0 a1 ([] : List ByteArray) ([] : List ByteArray) 0) else ((orthoepylaw21_awake.f).bind fun t206 => (some t206))) = some r := H
  have A3 := Aside0.mk A30
  clear A30
  by_cases c4 : t205 = true
  · subst c4
    have H1 : (orthoepylaw21_OrderTurned.l0 k l0 a1 ([] : List ByteArray) ([] : List ByteArray) 0) = some r := by rw [if_pos rfl] at H; exact H
    clear H
    have H := H1
    clear H1
    have H' := Aside0.mk H
    clear H
    go_enter Try.func7, Try.ntmps7
    go_wp2_with (first | (go_at_call 10; (with_reducible refine (orthoepylaw21_right.calls k _ _ l0 true _ ?side1 ?side2 A3.out).mono ?_); (case side1 => repeat (first | exact HR0.out | (with_reducible refine Kd.C_alloc ?_ _) | (with_reducible refine Kd.C_drewN ?_ _) | (with_reducible refine Kd.C_drew ?_))); (case side2 => exact HC0.out); rintro e w5 ⟨rfl, hb⟩; have n0_ := Aside0.mk (below_step (by repeat (first | (with_reducible first | exact HB.out | apply below_alloc | apply pw_below_drewN | apply below_drew1) | exact HB.out)) hb); clear HB; have HB := n0_; clear n0_; (try clear hb); (try clear hb2); (try clear hk); (try clear hi)))
    repeat (go_quiet (first | (go_at_call 10; (with_reducible refine (orthoepylaw21_right.calls k _ _ l0 true _ ?side1 ?side2 A3.out).mono ?_); (case side1 => repeat (first | exact HR0.out | (with_reducible refine Kd.C_alloc ?_ _) | (with_reducible refine Kd.C_drewN ?_ _) | (with_reducible refine Kd.C_drew ?_))); (case side2 => exact HC0.out); rintro e w5 ⟨rfl, hb⟩; have n0_ := Aside0.mk (below_step (by repeat (first | (with_reducible first | exact HB.out | apply below_alloc | apply pw_below_drewN | apply below_drew1) | exact HB.out)) hb); clear HB; have HB := n0_; clear n0_; (try clear hb); (try clear hb2); (try clear hk); (try clear hi))); try go_wp2_with (first | (go_at_call 10; (with_reducible refine (orthoepylaw21_right.calls k _ _ l0 true _ ?side1 ?side2 A3.out).mono ?_); (case side1 => repeat (first | exact HR0.out | (with_reducible refine Kd.C_alloc ?_ _) | (with_reducible refine Kd.C_drewN ?_ _) | (with_reducible refine Kd.C_drew ?_))); (case side2 => exact HC0.out); rintro e w5 ⟨rfl, hb⟩; have n0_ := Aside0.mk (below_step (by repeat (first | (with_reducible first | exact HB.out | apply below_alloc | apply pw_below_drewN | apply below_drew1) | exact HB.out)) hb); clear HB; have HB := n0_; clear n0_; (try clear hb); (try clear hb2); (try clear hk); (try clear hi))))
    go_loopg [5, 6, 7] k (fun kq v5 v6 v7 w' => ∃ (x5_1 : List ByteArray) (x6_1 : List ByteArray) (x7_1 : Int), v7 = .int .i64 x7_1 ∧ Aside0 (orthoepylaw21_OrderTurned.l0 kq l0 a1 x5_1 x6_1 x7_1 = some r) ∧ Aside0 (kq ≤ k) ∧ Aside0 (Kd.R Kd.string 9 w' w.heap.size (fun k_ => some k_ ≠ (v6 : Value).ownBlock) v5 x5_1) ∧ Aside0 (Kd.R Kd.string 9 w' w.heap.size (fun k_ => some k_ ≠ (v5 : Value).ownBlock) v6 x6_1) ∧ Aside0 (Below w.heap.size w w'))
    case atStart => exact ⟨(([] : List ByteArray)), (([] : List ByteArray)), (0), (by first | rfl | (simp; done) | (simp [*]; done)), H', ⟨Nat.le_refl _⟩, ⟨by first | exact Kd.R_nil _ _ _ _ _ | exact Kd.N_nil _ _ _ _ _ | exact Kd.V_nil _ _ _ _ _ | exact Kd.Q_nil _ _ _ _ _ | exact Kd.S_nil _ _ _ _ _⟩, ⟨by first | exact Kd.R_nil _ _ _ _ _ | exact Kd.N_nil _ _ _ _ _ | exact Kd.V_nil _ _ _ _ _ | exact Kd.Q_nil _ _ _ _ _ | exact Kd.S_nil _ _ _ _ _⟩, ⟨by repeat (first | (with_reducible first | exact HB.out | apply below_alloc | apply pw_below_drewN | apply below_drew1) | exact HB.out)⟩⟩
    case round =>
      clear H'
      try clear p2
      try clear c4
      obtain ⟨x5_1, x6_1, x7_1, rfl, HA, HK1, HO_5, HO_6, HB⟩ := hrel
      cases gk with
      | zero => exact absurd HA.out (by simp [orthoepylaw21_OrderTurned.l0])
      | succ k1 =>
        have H := HA.out
        clear HA
        simp only [orthoepylaw21_OrderTurned.l0] at H
        by_cases c6 : x7_1 < (l0.length : Int)
        · rw [if_pos c6] at H
          have c6b0 : decide (x7_1 < (l0.length : Int)) = true := decide_eq_true c6
          clear c6
          replace H := Option.bind_eq_some_iff.mp H
          obtain ⟨t207, A70, H⟩ := H
          replace H : (if (l0.length : Int) = 0 then (none) else (if 0 ≤ (Int.tmod (wrap64 (x7_1 + t207)) (l0.length : Int)) then (if (Int.tmod (wrap64 (x7_1 + t207)) (l0.length : Int)) < (l0.length : Int) then (if x5_1.length < 8796093022208 then (if 0 ≤ (wrap64 ((wrap64 ((l0.length : Int) - 1)) - x7_1)) then (if (wrap64 ((wrap64 ((l0.length : Int) - 1)) - x7_1)) < (l0.length : Int) then (if x6_1.length < 8796093022208 then (orthoepylaw21_OrderTurned.l0 k1 l0 a1 (x5_1 ++ [rdOf ByteArray.empty l0 (Int.tmod (wrap64 (x7_1 + t207)) (l0.length : Int))]) (x6_1 ++ [rdOf ByteArray.empty l0 (wrap64 ((wrap64 ((l0.length : Int) - 1)) - x7_1))]) (wrap64 (x7_1 + 1))) else (none)) else (none)) else (none)) else (none)) else (none)) else (none))) = some r := H
          have A7 := Aside0.mk A70
          clear A70
          by_cases c8 : (l0.length : Int) = 0
          · rw [if_pos c8] at H
            exact absurd H (by simp)
          · rw [if_neg c8] at H
            have c8b0 : ((l0.length : Int) == 0) = false := beq_eq_false_iff_ne.mpr c8
            have c8b1 : ((l0.length : Int) != 0) = true := bne_iff_ne.mpr c8
            have c8b2 : ¬ (l0 = []) := fun h_ => c8 (by rw [h_]; rfl)
            obtain ⟨ji9, hji9⟩ : ∃ j_ : Int, (Int.tmod (wrap64 (x7_1 + t207)) (l0.length : Int)) = j_ := ⟨_, rfl⟩
            replace H : (if 0 ≤ (ji9) then (if (ji9) < (l0.length : Int) then (if x5_1.length < 8796093022208 then (if 0 ≤ (wrap64 ((wrap64 ((l0.length : Int) - 1)) - x7_1)) then (if (wrap64 ((wrap64 ((l0.length : Int) - 1)) - x7_1)) < (l0.length : Int) then (if x6_1.length < 8796093022208 then (orthoepylaw21_OrderTurned.l0 k1 l0 a1 (x5_1 ++ [rdOf ByteArray.empty l0 (ji9)]) (x6_1 ++ [rdOf ByteArray.empty l0 (wrap64 ((wrap64 ((l0.length : Int) - 1)) - x7_1))]) (wrap64 (x7_1 + 1))) else (none)) else (none)) else (none)) else (none)) else (none)) else (none)) = some r := by first | (rw [hji9] at H; exact H) | (simp only [hji9] at H ⊢; exact H)
            (try rw [hji9] at A7)
            by_cases c10 : 0 ≤ (ji9)
            · rw [if_pos c10] at H
              have c10b0 : decide (0 ≤ (ji9)) = true := decide_eq_true c10
              clear c10
              by_cases c11 : (ji9) < (l0.length : Int)
              · rw [if_pos c11] at H
                have c11b0 : decide ((ji9) < (l0.length : Int)) = true := decide_eq_true c11
                clear c11
                by_cases c12 : x5_1.length < 8796093022208
                · rw [if_pos c12] at H
                  have LMc12 := Aside0.mk c12
                  clear c12
                  obtain ⟨y209, hy209⟩ : ∃ y_ : List ByteArray, y_ = (x5_1 ++ [rdOf ByteArray.empty l0 (ji9)]) := ⟨_, rfl⟩
                  replace H : (if 0 ≤ (wrap64 ((wrap64 ((l0.length : Int) - 1)) - x7_1)) then (if (wrap64 ((wrap64 ((l0.length : Int) - 1)) - x7_1)) < (l0.length : Int) then (if x6_1.length < 8796093022208 then (orthoepylaw21_OrderTurned.l0 k1 l0 a1 y209 (x6_1 ++ [rdOf ByteArray.empty l0 (wrap64 ((wrap64 ((l0.length : Int) - 1)) - x7_1))]) (wrap64 (x7_1 + 1))) else (none)) else (none)) else (none)) = some r := by first | (rw [hy209]; with_reducible exact H) | (have H2_ := (Option.bind_some _ _).symm.trans H; rw [hy209]; with_reducible exact H2_) | (have H2_ := (Option.bind_some _ _).symm.trans H; with_reducible exact H2_) | with_reducible exact H | (rw [hy209]; exact H) | exact H
                  have Ny209 := Aside0.mk hy209
                  clear hy209
                  obtain ⟨ji13, hji13⟩ : ∃ j_ : Int, (wrap64 ((wrap64 ((l0.length : Int) - 1)) - x7_1)) = j_ := ⟨_, rfl⟩
                  replace H : (if 0 ≤ (ji13) then (if (ji13) < (l0.length : Int) then (if x6_1.length < 8796093022208 then (orthoepylaw21_OrderTurned.l0 k1 l0 a1 y209 (x6_1 ++ [rdOf ByteArray.empty l0 (ji13)]) (wrap64 (x7_1 + 1))) else (none)) else (none)) else (none)) = some r := by first | (rw [hji13] at H; exact H) | (simp only [hji13] at H ⊢; exact H)
                  (try rw [hji13] at A7)
                  have hji13w : (IntKind.i64.wrap ((wrap64 ((l0.length : Int) - 1)) - x7_1)) = ji13 := (i64_w _).trans hji13
                  by_cases c14 : 0 ≤ (ji13)
                  · rw [if_pos c14] at H
                    have c14b0 : decide (0 ≤ (ji13)) = true := decide_eq_true c14
                    clear c14
                    by_cases c15 : (ji13) < (l0.length : Int)
                    · rw [if_pos c15] at H
                      have c15b0 : decide ((ji13) < (l0.length : Int)) = true := decide_eq_true c15
                      clear c15
                      by_cases c16 : x6_1.length < 8796093022208
                      · rw [if_pos c16] at H
                        have LMc16 := Aside0.mk c16
                        clear c16
                        obtain ⟨y213, hy213⟩ : ∃ y_ : List ByteArray, y_ = (x6_1 ++ [rdOf ByteArray.empty l0 (ji13)]) := ⟨_, rfl⟩
                        replace H : (orthoepylaw21_OrderTurned.l0 k1 l0 a1 y209 y213 (wrap64 (x7_1 + 1))) = some r := by first | (rw [hy213]; with_reducible exact H) | (have H2_ := (Option.bind_some _ _).symm.trans H; rw [hy213]; with_reducible exact H2_) | (have H2_ := (Option.bind_some _ _).symm.trans H; with_reducible exact H2_) | with_reducible exact H | (rw [hy213]; exact H) | exact H
                        have Ny213 := Aside0.mk hy213
                        clear hy213
                        have H' := Aside0.mk H
                        clear H
                        go_wp2_with (first | (go_at_call 17; (with_reducible refine (orthoepylaw00_Place.calls a1 (l0.length : Int) t207 _ A7.out).mono ?_); rintro e w' ⟨rfl, ⟨nd, rfl⟩⟩; (try first | exact ⟨rfl, _, World.drewN_drewN _ _ _⟩ | exact ⟨rfl, _, Eq.trans (World.drewN_drewN _ _ _) (congrArg (World.drewN _) (Nat.add_assoc _ _ _))⟩); have p208 : 0 ≤ ((ji9) : Int) := of_decide_eq_true (by first | (with_reducible assumption) | assumption); have q208 : (ji9) < (l0.length : Int) := of_decide_eq_true (by first | (with_reducible assumption) | assumption); obtain ⟨ad208, e208, hx208_0⟩ := Kd.at_string HR0.out (ji9) p208 q208; cases e208; replace hx208_0 := (HB.out.cell (World.block_lt_of_cell? w _ hx208_0)).trans hx208_0; replace p208 := eq_true p208; replace q208 := eq_true q208) | ((with_reducible refine gate_builtin (b := .append) (xs := #[.tmp 25, .tmp 38]) rfl ?_); (try (refine gate_guard (by rfl) ?_; dsimp only)); at_builtin; refine Kd.R_append Kd.string (w0 := w) w.heap.size rfl (.tmp 25) (.tmp 38) 22 9 (.string ⟨#[]⟩) 16 rfl Try.underlying22 info9 rfl (by decide) (by omega) u5 x5_1 (rdOf ByteArray.empty l0 (ji9)) [.string (rdOf ByteArray.empty l0 (ji9))] (fun k_ => some k_ ≠ (u6 : Value).ownBlock) (fun _ => False) rfl rfl ?aP (fun _ hk => hk.elim) ?aF ?aO ?aB ?aS ?aL ?_; (case aP => exact rfl); (case aB => exact (by repeat (first | (with_reducible first | exact HB.out | apply below_alloc | apply pw_below_drewN | apply below_drew1) | exact HB.out))); (case aF => exact (fun k_ hk => Kd.fresh' (Kd.R_lt (by (with_reducible repeat (first | apply Kd.R_alloc | apply Kd.R_drewN | apply Kd.R_drew)); exact HO_6.out)) k_ hk)); (case aO => exact (by (with_reducible repeat (first | apply Kd.R_alloc | apply Kd.R_drewN | apply Kd.R_drew)); exact HO_5.out)); (case aS => exact (below_size (by repeat (first | (with_reducible first | exact HB.out | apply below_alloc | apply pw_below_drewN | apply below_drew1) | exact HB.out)))); (case aL => have := LMc12.out; omega); intro v210 w17 ho hb hg hat; rw [← Ny209.out] at ho; have n0_ := Aside0.mk (Kd.R_after (ok := (fun _ => True)) (by (with_reducible repeat (first | apply Kd.R_alloc | apply Kd.R_drewN | apply Kd.R_drew)); exact Kd.R_mono HO_6.out (fun _ hk => ⟨trivial, hk⟩)) hg hat); have n1_ := Aside0.mk (hb); have n2_ := Aside0.mk (ho); clear HO_6; clear HB; clear HO_5; have HO_6 := n0_; have HB := n1_; have HO211 := n2_; clear n0_ n1_ n2_; clear ho hb hg hat; have p212 : 0 ≤ ((ji13) : Int) := of_decide_eq_true (by first | (with_reducible assumption) | assumption); have q212 : (ji13) < (l0.length : Int) := of_decide_eq_true (by first | (with_reducible assumption) | assumption); obtain ⟨ad212, e212, hx212_0⟩ := Kd.at_string HR0.out (ji13) p212 q212; obtain rfl : ad208 = ad212 := (by injection e212); replace hx212_0 := (HB.out.cell (World.block_lt_of_cell? w _ hx212_0)).trans hx212_0; replace p212 := eq_true p212; replace q212 := eq_true q212) | ((with_reducible refine gate_builtin (b := .append) (xs := #[.tmp 40, .tmp 49]) rfl ?_); (try (refine gate_guard (by rfl) ?_; dsimp only)); at_builtin; refine Kd.R_append Kd.string (w0 := w) w.heap.size rfl (.tmp 40) (.tmp 49) 22 9 (.string ⟨#[]⟩) 16 rfl Try.underlying22 info9 rfl (by decide) (by omega) u6 x6_1 (rdOf ByteArray.empty l0 (ji13)) [.string (rdOf ByteArray.empty l0 (ji13))] (fun k_ => some k_ ≠ (v210 : Value).ownBlock) (fun _ => False) rfl rfl ?aP (fun _ hk => hk.elim) ?aF ?aO ?aB ?aS ?aL ?_; (case aP => exact rfl); (case aB => exact (by repeat (first | (with_reducible first | exact HB.out | apply below_alloc | apply pw_below_drewN | apply below_drew1) | exact HB.out))); (case aF => exact (fun k_ hk => Kd.fresh' (Kd.R_lt (by (with_reducible repeat (first | apply Kd.R_alloc | apply Kd.R_drewN | apply Kd.R_drew)); exact HO211.out)) k_ hk)); (case aO => exact (by (with_reducible repeat (first | apply Kd.R_alloc | apply Kd.R_drewN | apply Kd.R_drew)); exact Kd.R_mono HO_6.out (fun _ hk => hk.2))); (case aS => exact (below_size (by repeat (first | (with_reducible first | exact HB.out | apply below_alloc | apply pw_below_drewN | apply below_drew1) | exact HB.out)))); (case aL => have := LMc16.out; omega); intro v214 w18 ho hb hg hat; rw [← Ny213.out] at ho; have n0_ := Aside0.mk (Kd.R_after (ok := (fun _ => True)) (by (with_reducible repeat (first | apply Kd.R_alloc | apply Kd.R_drewN | apply Kd.R_drew)); exact Kd.R_mono HO211.out (fun _ hk => ⟨trivial, hk⟩)) hg hat); have n1_ := Aside0.mk (hb); have n2_ := Aside0.mk (ho); clear HO211; clear HB; clear HO_6; have HO211 := n0_; have HB := n1_; have HO215 := n2_; clear n0_ n1_ n2_; clear ho hb hg hat))
                        repeat (go_quiet (first | (go_at_call 17; (with_reducible refine (orthoepylaw00_Place.calls a1 (l0.length : Int) t207 _ A7.out).mono ?_); rintro e w' ⟨rfl, ⟨nd, rfl⟩⟩; (try first | exact ⟨rfl, _, World.drewN_drewN _ _ _⟩ | exact ⟨rfl, _, Eq.trans (World.drewN_drewN _ _ _) (congrArg (World.drewN _) (Nat.add_assoc _ _ _))⟩); have p208 : 0 ≤ ((ji9) : Int) := of_decide_eq_true (by first | (with_reducible assumption) | assumption); have q208 : (ji9) < (l0.length : Int) := of_decide_eq_true (by first | (with_reducible assumption) | assumption); obtain ⟨ad208, e208, hx208_0⟩ := Kd.at_string HR0.out (ji9) p208 q208; cases e208; replace hx208_0 := (HB.out.cell (World.block_lt_of_cell? w _ hx208_0)).trans hx208_0; replace p208 := eq_true p208; replace q208 := eq_true q208) | ((with_reducible refine gate_builtin (b := .append) (xs := #[.tmp 25, .tmp 38]) rfl ?_); (try (refine gate_guard (by rfl) ?_; dsimp only)); at_builtin; refine Kd.R_append Kd.string (w0 := w) w.heap.size rfl (.tmp 25) (.tmp 38) 22 9 (.string ⟨#[]⟩) 16 rfl Try.underlying22 info9 rfl (by decide) (by omega) u5 x5_1 (rdOf ByteArray.empty l0 (ji9)) [.string (rdOf ByteArray.empty l0 (ji9))] (fun k_ => some k_ ≠ (u6 : Value).ownBlock) (fun _ => False) rfl rfl ?aP (fun _ hk => hk.elim) ?aF ?aO ?aB ?aS ?aL ?_; (case aP => exact rfl); (case aB => exact (by repeat (first | (with_reducible first | exact HB.out | apply below_alloc | apply pw_below_drewN | apply below_drew1) | exact HB.out))); (case aF => exact (fun k_ hk => Kd.fresh' (Kd.R_lt (by (with_reducible repeat (first | apply Kd.R_alloc | apply Kd.R_drewN | apply Kd.R_drew)); exact HO_6.out)) k_ hk)); (case aO => exact (by (with_reducible repeat (first | apply Kd.R_alloc | apply Kd.R_drewN | apply Kd.R_drew)); exact HO_5.out)); (case aS => exact (below_size (by repeat (first | (with_reducible first | exact HB.out | apply below_alloc | apply pw_below_drewN | apply below_drew1) | exact HB.out)))); (case aL => have := LMc12.out; omega); intro v210 w17 ho hb hg hat; rw [← Ny209.out] at ho; have n0_ := Aside0.mk (Kd.R_after (ok := (fun _ => True)) (by (with_reducible repeat (first | apply Kd.R_alloc | apply Kd.R_drewN | apply Kd.R_drew)); exact Kd.R_mono HO_6.out (fun _ hk => ⟨trivial, hk⟩)) hg hat); have n1_ := Aside0.mk (hb); have n2_ := Aside0.mk (ho); clear HO_6; clear HB; clear HO_5; have HO_6 := n0_; have HB := n1_; have HO211 := n2_; clear n0_ n1_ n2_; clear ho hb hg hat; have p212 : 0 ≤ ((ji13) : Int) := of_decide_eq_true (by first | (with_reducible assumption) | assumption); have q212 : (ji13) < (l0.length : Int) := of_decide_eq_true (by first | (with_reducible assumption) | assumption); obtain ⟨ad212, e212, hx212_0⟩ := Kd.at_string HR0.out (ji13) p212 q212; obtain rfl : ad208 = ad212 := (by injection e212); replace hx212_0 := (HB.out.cell (World.block_lt_of_cell? w _ hx212_0)).trans hx212_0; replace p212 := eq_true p212; replace q212 := eq_true q212) | ((with_reducible refine gate_builtin (b := .append) (xs := #[.tmp 40, .tmp 49]) rfl ?_); (try (refine gate_guard (by rfl) ?_; dsimp only)); at_builtin; refine Kd.R_append Kd.string (w0 := w) w.heap.size rfl (.tmp 40) (.tmp 49) 22 9 (.string ⟨#[]⟩) 16 rfl Try.underlying22 info9 rfl (by decide) (by omega) u6 x6_1 (rdOf ByteArray.empty l0 (ji13)) [.string (rdOf ByteArray.empty l0 (ji13))] (fun k_ => some k_ ≠ (v210 : Value).ownBlock) (fun _ => False) rfl rfl ?aP (fun _ hk => hk.elim) ?aF ?aO ?aB ?aS ?aL ?_; (case aP => exact rfl); (case aB => exact (by repeat (first | (with_reducible first | exact HB.out | apply below_alloc | apply pw_below_drewN | apply below_drew1) | exact HB.out))); (case aF => exact (fun k_ hk => Kd.fresh' (Kd.R_lt (by (with_reducible repeat (first | apply Kd.R_alloc | apply Kd.R_drewN | apply Kd.R_drew)); exact HO211.out)) k_ hk)); (case aO => exact (by (with_reducible repeat (first | apply Kd.R_alloc | apply Kd.R_drewN | apply Kd.R_drew)); exact Kd.R_mono HO_6.out (fun _ hk => hk.2))); (case aS => exact (below_size (by repeat (first | (with_reducible first | exact HB.out | apply below_alloc | apply pw_below_drewN | apply below_drew1) | exact HB.out)))); (case aL => have := LMc16.out; omega); intro v214 w18 ho hb hg hat; rw [← Ny213.out] at ho; have n0_ := Aside0.mk (Kd.R_after (ok := (fun _ => True)) (by (with_reducible repeat (first | apply Kd.R_alloc | apply Kd.R_drewN | apply Kd.R_drew)); exact Kd.R_mono HO211.out (fun _ hk => ⟨trivial, hk⟩)) hg hat); have n1_ := Aside0.mk (hb); have n2_ := Aside0.mk (ho); clear HO211; clear HB; clear HO_6; have HO211 := n0_; have HB := n1_; have HO215 := n2_; clear n0_ n1_ n2_; clear ho hb hg hat)); try go_wp2_with (first | (go_at_call 17; (with_reducible refine (orthoepylaw00_Place.calls a1 (l0.length : Int) t207 _ A7.out).mono ?_); rintro e w' ⟨rfl, ⟨nd, rfl⟩⟩; (try first | exact ⟨rfl, _, World.drewN_drewN _ _ _⟩ | exact ⟨rfl, _, Eq.trans (World.drewN_drewN _ _ _) (congrArg (World.drewN _) (Nat.add_assoc _ _ _))⟩); have p208 : 0 ≤ ((ji9) : Int) := of_decide_eq_true (by first | (with_reducible assumption) | assumption); have q208 : (ji9) < (l0.length : Int) := of_decide_eq_true (by first | (with_reducible assumption) | assumption); obtain ⟨ad208, e208, hx208_0⟩ := Kd.at_string HR0.out (ji9) p208 q208; cases e208; replace hx208_0 := (HB.out.cell (World.block_lt_of_cell? w _ hx208_0)).trans hx208_0; replace p208 := eq_true p208; replace q208 := eq_true q208) | ((with_reducible refine gate_builtin (b := .append) (xs := #[.tmp 25, .tmp 38]) rfl ?_); (try (refine gate_guard (by rfl) ?_; dsimp only)); at_builtin; refine Kd.R_append Kd.string (w0 := w) w.heap.size rfl (.tmp 25) (.tmp 38) 22 9 (.string ⟨#[]⟩) 16 rfl Try.underlying22 info9 rfl (by decide) (by omega) u5 x5_1 (rdOf ByteArray.empty l0 (ji9)) [.string (rdOf ByteArray.empty l0 (ji9))] (fun k_ => some k_ ≠ (u6 : Value).ownBlock) (fun _ => False) rfl rfl ?aP (fun _ hk => hk.elim) ?aF ?aO ?aB ?aS ?aL ?_; (case aP => exact rfl); (case aB => exact (by repeat (first | (with_reducible first | exact HB.out | apply below_alloc | apply pw_below_drewN | apply below_drew1) | exact HB.out))); (case aF => exact (fun k_ hk => Kd.fresh' (Kd.R_lt (by (with_reducible repeat (first | apply Kd.R_alloc | apply Kd.R_drewN | apply Kd.R_drew)); exact HO_6.out)) k_ hk)); (case aO => exact (by (with_reducible repeat (first | apply Kd.R_alloc | apply Kd.R_drewN | apply Kd.R_drew)); exact HO_5.out)); (case aS => exact (below_size (by repeat (first | (with_reducible first | exact HB.out | apply below_alloc | apply pw_below_drewN | apply below_drew1) | exact HB.out)))); (case aL => have := LMc12.out; omega); intro v210 w17 ho hb hg hat; rw [← Ny209.out] at ho; have n0_ := Aside0.mk (Kd.R_after (ok := (fun _ => True)) (by (with_reducible repeat (first | apply Kd.R_alloc | apply Kd.R_drewN | apply Kd.R_drew)); exact Kd.R_mono HO_6.out (fun _ hk => ⟨trivial, hk⟩)) hg hat); have n1_ := Aside0.mk (hb); have n2_ := Aside0.mk (ho); clear HO_6; clear HB; clear HO_5; have HO_6 := n0_; have HB := n1_; have HO211 := n2_; clear n0_ n1_ n2_; clear ho hb hg hat; have p212 : 0 ≤ ((ji13) : Int) := of_decide_eq_true (by first | (with_reducible assumption) | assumption); have q212 : (ji13) < (l0.length : Int) := of_decide_eq_true (by first | (with_reducible assumption) | assumption); obtain ⟨ad212, e212, hx212_0⟩ := Kd.at_string HR0.out (ji13) p212 q212; obtain rfl : ad208 = ad212 := (by injection e212); replace hx212_0 := (HB.out.cell (World.block_lt_of_cell? w _ hx212_0)).trans hx212_0; replace p212 := eq_true p212; replace q212 := eq_true q212) | ((with_reducible refine gate_builtin (b := .append) (xs := #[.tmp 40, .tmp 49]) rfl ?_); (try (refine gate_guard (by rfl) ?_; dsimp only)); at_builtin; refine Kd.R_append Kd.string (w0 := w) w.heap.size rfl (.tmp 40) (.tmp 49) 22 9 (.string ⟨#[]⟩) 16 rfl Try.underlying22 info9 rfl (by decide) (by omega) u6 x6_1 (rdOf ByteArray.empty l0 (ji13)) [.string (rdOf ByteArray.empty l0 (ji13))] (fun k_ => some k_ ≠ (v210 : Value).ownBlock) (fun _ => False) rfl rfl ?aP (fun _ hk => hk.elim) ?aF ?aO ?aB ?aS ?aL ?_; (case aP => exact rfl); (case aB => exact (by repeat (first | (with_reducible first | exact HB.out | apply below_alloc | apply pw_below_drewN | apply below_drew1) | exact HB.out))); (case aF => exact (fun k_ hk => Kd.fresh' (Kd.R_lt (by (with_reducible repeat (first | apply Kd.R_alloc | apply Kd.R_drewN | apply Kd.R_drew)); exact HO211.out)) k_ hk)); (case aO => exact (by (with_reducible repeat (first | apply Kd.R_alloc | apply Kd.R_drewN | apply Kd.R_drew)); exact Kd.R_mono HO_6.out (fun _ hk => hk.2))); (case aS => exact (below_size (by repeat (first | (with_reducible first | exact HB.out | apply below_alloc | apply pw_below_drewN | apply below_drew1) | exact HB.out)))); (case aL => have := LMc16.out; omega); intro v214 w18 ho hb hg hat; rw [← Ny213.out] at ho; have n0_ := Aside0.mk (Kd.R_after (ok := (fun _ => True)) (by (with_reducible repeat (first | apply Kd.R_alloc | apply Kd.R_drewN | apply Kd.R_drew)); exact Kd.R_mono HO211.out (fun _ hk => ⟨trivial, hk⟩)) hg hat); have n1_ := Aside0.mk (hb); have n2_ := Aside0.mk (ho); clear HO211; clear HB; clear HO_6; have HO211 := n0_; have HB := n1_; have HO215 := n2_; clear n0_ n1_ n2_; clear ho hb hg hat)))
                        go_roundg k1
                        case measure => have := HK1.out; omega
                        case rel => exact ⟨(y209), (y213), (wrap64 (x7_1 + 1)), (by first | rfl | (simp; done) | (simp [*]; done)), H', ⟨by have := HK1.out; omega⟩, ⟨by (with_reducible repeat (first | apply Kd.R_alloc | apply Kd.R_drewN | apply Kd.R_drew)); exact Kd.R_mono HO211.out (fun _ hk => hk.2)⟩, ⟨by (with_reducible repeat (first | apply Kd.R_alloc | apply Kd.R_drewN | apply Kd.R_drew)); exact HO215.out⟩, ⟨by repeat (first | (with_reducible first | exact HB.out | apply below_alloc | apply pw_below_drewN | apply below_drew1) | exact HB.out)⟩⟩
                      · rw [if_neg c16] at H
                        exact absurd H (by simp)
                    · rw [if_neg c15] at H
                      exact absurd H (by simp)
                  · rw [if_neg c14] at H
                    exact absurd H (by simp)
                · rw [if_neg c12] at H
                  exact absurd H (by simp)
              · rw [if_neg c11] at H
                exact absurd H (by simp)
            · rw [if_neg c10] at H
              exact absurd H (by simp)
        · rw [if_neg c6] at H
          have c6b0 : decide (x7_1 < (l0.length : Int)) = false := decide_eq_false c6
          clear c6
          replace H := Option.bind_eq_some_iff.mp H
          obtain ⟨t216, A190, H⟩ := H
          replace H : ((order_Sort.f x5_1).bind fun t219 => ((order_Sort.f x6_1).bind fun t222 => (if (t216.length : Int) = (l0.length : Int) then (if (t219.length : Int) = (l0.length : Int) then (orthoepylaw21_OrderTurned.j1 k1 l0 x5_1 x6_1 t216 t219 t222 ((t222.length : Int) != (l0.length : Int))) else (orthoepylaw21_OrderTurned.j1 k1 l0 x5_1 x6_1 t216 t219 t222 true)) else (orthoepylaw21_OrderTurned.j1 k1 l0 x5_1 x6_1 t216 t219 t222 true)))) = some r := H
          have A19 := Aside0.mk A190
          clear A190
          replace H := Option.bind_eq_some_iff.mp H
          obtain ⟨t219, A200, H⟩ := H
          replace H : ((order_Sort.f x6_1).bind fun t222 => (if (t216.length : Int) = (l0.length : Int) then (if (t219.length : Int) = (l0.length : Int) then (orthoepylaw21_OrderTurned.j1 k1 l0 x5_1 x6_1 t216 t219 t222 ((t222.length : Int) != (l0.length : Int))) else (orthoepylaw21_OrderTurned.j1 k1 l0 x5_1 x6_1 t216 t219 t222 true)) else (orthoepylaw21_OrderTurned.j1 k1 l0 x5_1 x6_1 t216 t219 t222 true))) = some r := H
          have A20 := Aside0.mk A200
          clear A200
          replace H := Option.bind_eq_some_iff.mp H
          obtain ⟨t222, A210, H⟩ := H
          replace H : (if (t216.length : Int) = (l0.length : Int) then (if (t219.length : Int) = (l0.length : Int) then (orthoepylaw21_OrderTurned.j1 k1 l0 x5_1 x6_1 t216 t219 t222 ((t222.length : Int) != (l0.length : Int))) else (orthoepylaw21_OrderTurned.j1 k1 l0 x5_1 x6_1 t216 t219 t222 true)) else (orthoepylaw21_OrderTurned.j1 k1 l0 x5_1 x6_1 t216 t219 t222 true)) = some r := H
          have A21 := Aside0.mk A210
          clear A210
          have HC22 := Aside0.mk H
          clear H
          go_upto_region 10 with (first | (go_at_call 15; (with_reducible refine (order_Sort.calls _ _ l0 t216 _ ?side1 ?side2 A19.out).mono ?_); (case side1 => repeat (first | exact (Kd.C_below HR0.out HB.out) | (with_reducible refine Kd.C_alloc ?_ _) | (with_reducible refine Kd.C_drewN ?_ _) | (with_reducible refine Kd.C_drew ?_))); (case side2 => exact HC0.out); rintro e w23 ⟨v217, rfl, ho0, hb⟩; have n0_ := Aside0.mk (Kd.R_below (by (with_reducible repeat (first | apply Kd.R_alloc | apply Kd.R_drewN | apply Kd.R_drew)); exact HO_5.out) hb); have n1_ := Aside0.mk (Kd.R_below (by (with_reducible repeat (first | apply Kd.R_alloc | apply Kd.R_drewN | apply Kd.R_drew)); exact HO_6.out) hb); have n2_ := Aside0.mk (Kd.R_lower ho0 (below_size (by repeat (first | (with_reducible first | exact HB.out | apply below_alloc | apply pw_below_drewN | apply below_drew1) | exact HB.out)))); have n3_ := Aside0.mk (below_step (by repeat (first | (with_reducible first | exact HB.out | apply below_alloc | apply pw_below_drewN | apply below_drew1) | exact HB.out)) hb); clear HO_5; clear HO_6; clear HB; have HO_5 := n0_; have HO_6 := n1_; have HO218 := n2_; have HB := n3_; clear n0_ n1_ n2_ n3_; (try clear hb); (try clear hb2); (try clear hk); (try clear hi); (try clear ho0); obtain ⟨Ao24, co24, eo24⟩ := Kd.R_slice HO_5.out; subst eo24) | (go_at_call 15; (with_reducible refine (order_Sort.calls _ _ x5_1 t219 _ ?side1 ?side2 A20.out).mono ?_); (case side1 => repeat (first | exact (Kd.R_reads' HO_5.out).2.2 | (with_reducible refine Kd.C_alloc ?_ _) | (with_reducible refine Kd.C_drewN ?_ _) | (with_reducible refine Kd.C_drew ?_))); (case side2 => exact (Kd.R_reads' HO_5.out).2.1); rintro e w25 ⟨v220, rfl, ho0, hb⟩; have n0_ := Aside0.mk (Kd.R_below (by (with_reducible repeat (first | apply Kd.R_alloc | apply Kd.R_drewN | apply Kd.R_drew)); exact HO_5.out) hb); have n1_ := Aside0.mk (Kd.R_below (by (with_reducible repeat (first | apply Kd.R_alloc | apply Kd.R_drewN | apply Kd.R_drew)); exact HO_6.out) hb); have n2_ := Aside0.mk (Kd.R_elder' (by (with_reducible repeat (first | apply Kd.R_alloc | apply Kd.R_drewN | apply Kd.R_drew)); exact HO218.out) (Kd.R_base ho0) hb); have n3_ := Aside0.mk (Kd.R_lower (Kd.R_new' ho0 (Kd.R_lt (by (with_reducible repeat (first | apply Kd.R_alloc | apply Kd.R_drewN | apply Kd.R_drew)); exact HO218.out))) (below_size (by repeat (first | (with_reducible first | exact HB.out | apply below_alloc | apply pw_below_drewN | apply below_drew1) | exact HB.out)))); have n4_ := Aside0.mk (below_step (by repeat (first | (with_reducible first | exact HB.out | apply below_alloc | apply pw_below_drewN | apply below_drew1) | exact HB.out)) hb); clear HO_5; clear HO_6; clear HO218; clear HB; have HO_5 := n0_; have HO_6 := n1_; have HO218 := n2_; have HO221 := n3_; have HB := n4_; clear n0_ n1_ n2_ n3_ n4_; (try clear hb); (try clear hb2); (try clear hk); (try clear hi); (try clear ho0); obtain ⟨Ao26, co26, eo26⟩ := Kd.R_slice HO_6.out; subst eo26) | (go_at_call 15; (with_reducible refine (order_Sort.calls _ _ x6_1 t222 _ ?side1 ?side2 A21.out).mono ?_); (case side1 => repeat (first | exact (Kd.R_reads' HO_6.out).2.2 | (with_reducible refine Kd.C_alloc ?_ _) | (with_reducible refine Kd.C_drewN ?_ _) | (with_reducible refine Kd.C_drew ?_))); (case side2 => exact (Kd.R_reads' HO_6.out).2.1); rintro e w27 ⟨v223, rfl, ho0, hb⟩; have n0_ := Aside0.mk (Kd.R_below (by (with_reducible repeat (first | apply Kd.R_alloc | apply Kd.R_drewN | apply Kd.R_drew)); exact HO_5.out) hb); have n1_ := Aside0.mk (Kd.R_below (by (with_reducible repeat (first | apply Kd.R_alloc | apply Kd.R_drewN | apply Kd.R_drew)); exact HO_6.out) hb); have n2_ := Aside0.mk (Kd.R_elder' (by (with_reducible repeat (first | apply Kd.R_alloc | apply Kd.R_drewN | apply Kd.R_drew)); exact HO218.out) (Kd.R_base ho0) hb); have n3_ := Aside0.mk (Kd.R_elder' (by (with_reducible repeat (first | apply Kd.R_alloc | apply Kd.R_drewN | apply Kd.R_drew)); exact HO221.out) (Kd.R_base ho0) hb); have n4_ := Aside0.mk (Kd.R_lower (Kd.R_new' (Kd.R_new' ho0 (Kd.R_lt (by (with_reducible repeat (first | apply Kd.R_alloc | apply Kd.R_drewN | apply Kd.R_drew)); exact HO218.out))) (Kd.R_lt (by (with_reducible repeat (first | apply Kd.R_alloc | apply Kd.R_drewN | apply Kd.R_drew)); exact HO221.out))) (below_size (by repeat (first | (with_reducible first | exact HB.out | apply below_alloc | apply pw_below_drewN | apply below_drew1) | exact HB.out)))); have n5_ := Aside0.mk (below_step (by repeat (first | (with_reducible first | exact HB.out | apply below_alloc | apply pw_below_drewN | apply below_drew1) | exact HB.out)) hb); clear HO_5; clear HO_6; clear HO218; clear HO221; clear HB; have HO_5 := n0_; have HO_6 := n1_; have HO218 := n2_; have HO221 := n3_; have HO224 := n4_; have HB := n5_; clear n0_ n1_ n2_ n3_ n4_ n5_; (try clear hb); (try clear hb2); (try clear hk); (try clear hi); (try clear ho0)))
          repeat (go_quiet (first | (go_at_call 15; (with_reducible refine (order_Sort.calls _ _ l0 t216 _ ?side1 ?side2 A19.out).mono ?_); (case side1 => repeat (first | exact (Kd.C_below HR0.out HB.out) | (with_reducible refine Kd.C_alloc ?_ _) | (with_reducible refine Kd.C_drewN ?_ _) | (with_reducible refine Kd.C_drew ?_))); (case side2 => exact HC0.out); rintro e w23 ⟨v217, rfl, ho0, hb⟩; have n0_ := Aside0.mk (Kd.R_below (by (with_reducible repeat (first | apply Kd.R_alloc | apply Kd.R_drewN | apply Kd.R_drew)); exact HO_5.out) hb); have n1_ := Aside0.mk (Kd.R_below (by (with_reducible repeat (first | apply Kd.R_alloc | apply Kd.R_drewN | apply Kd.R_drew)); exact HO_6.out) hb); have n2_ := Aside0.mk (Kd.R_lower ho0 (below_size (by repeat (first | (with_reducible first | exact HB.out | apply below_alloc | apply pw_below_drewN | apply below_drew1) | exact HB.out)))); have n3_ := Aside0.mk (below_step (by repeat (first | (with_reducible first | exact HB.out | apply below_alloc | apply pw_below_drewN | apply below_drew1) | exact HB.out)) hb); clear HO_5; clear HO_6; clear HB; have HO_5 := n0_; have HO_6 := n1_; have HO218 := n2_; have HB := n3_; clear n0_ n1_ n2_ n3_; (try clear hb); (try clear hb2); (try clear hk); (try clear hi); (try clear ho0); obtain ⟨Ao24, co24, eo24⟩ := Kd.R_slice HO_5.out; subst eo24) | (go_at_call 15; (with_reducible refine (order_Sort.calls _ _ x5_1 t219 _ ?side1 ?side2 A20.out).mono ?_); (case side1 => repeat (first | exact (Kd.R_reads' HO_5.out).2.2 | (with_reducible refine Kd.C_alloc ?_ _) | (with_reducible refine Kd.C_drewN ?_ _) | (with_reducible refine Kd.C_drew ?_))); (case side2 => exact (Kd.R_reads' HO_5.out).2.1); rintro e w25 ⟨v220, rfl, ho0, hb⟩; have n0_ := Aside0.mk (Kd.R_below (by (with_reducible repeat (first | apply Kd.R_alloc | apply Kd.R_drewN | apply Kd.R_drew)); exact HO_5.out) hb); have n1_ := Aside0.mk (Kd.R_below (by (with_reducible repeat (first | apply Kd.R_alloc | apply Kd.R_drewN | apply Kd.R_drew)); exact HO_6.out) hb); have n2_ := Aside0.mk (Kd.R_elder' (by (with_reducible repeat (first | apply Kd.R_alloc | apply Kd.R_drewN | apply Kd.R_drew)); exact HO218.out) (Kd.R_base ho0) hb); have n3_ := Aside0.mk (Kd.R_lower (Kd.R_new' ho0 (Kd.R_lt (by (with_reducible repeat (first | apply Kd.R_alloc | apply Kd.R_drewN | apply Kd.R_drew)); exact HO218.out))) (below_size (by repeat (first | (with_reducible first | exact HB.out | apply below_alloc | apply pw_below_drewN | apply below_drew1) | exact HB.out)))); have n4_ := Aside0.mk (below_step (by repeat (first | (with_reducible first | exact HB.out | apply below_alloc | apply pw_below_drewN | apply below_drew1) | exact HB.out)) hb); clear HO_5; clear HO_6; clear HO218; clear HB; have HO_5 := n0_; have HO_6 := n1_; have HO218 := n2_; have HO221 := n3_; have HB := n4_; clear n0_ n1_ n2_ n3_ n4_; (try clear hb); (try clear hb2); (try clear hk); (try clear hi); (try clear ho0); obtain ⟨Ao26, co26, eo26⟩ := Kd.R_slice HO_6.out; subst eo26) | (go_at_call 15; (with_reducible refine (order_Sort.calls _ _ x6_1 t222 _ ?side1 ?side2 A21.out).mono ?_); (case side1 => repeat (first | exact (Kd.R_reads' HO_6.out).2.2 | (with_reducible refine Kd.C_alloc ?_ _) | (with_reducible refine Kd.C_drewN ?_ _) | (with_reducible refine Kd.C_drew ?_))); (case side2 => exact (Kd.R_reads' HO_6.out).2.1); rintro e w27 ⟨v223, rfl, ho0, hb⟩; have n0_ := Aside0.mk (Kd.R_below (by (with_reducible repeat (first | apply Kd.R_alloc | apply Kd.R_drewN | apply Kd.R_drew)); exact HO_5.out) hb); have n1_ := Aside0.mk (Kd.R_below (by (with_reducible repeat (first | apply Kd.R_alloc | apply Kd.R_drewN | apply Kd.R_drew)); exact HO_6.out) hb); have n2_ := Aside0.mk (Kd.R_elder' (by (with_reducible repeat (first | apply Kd.R_alloc | apply Kd.R_drewN | apply Kd.R_drew)); exact HO218.out) (Kd.R_base ho0) hb); have n3_ := Aside0.mk (Kd.R_elder' (by (with_reducible repeat (first | apply Kd.R_alloc | apply Kd.R_drewN | apply Kd.R_drew)); exact HO221.out) (Kd.R_base ho0) hb); have n4_ := Aside0.mk (Kd.R_lower (Kd.R_new' (Kd.R_new' ho0 (Kd.R_lt (by (with_reducible repeat (first | apply Kd.R_alloc | apply Kd.R_drewN | apply Kd.R_drew)); exact HO218.out))) (Kd.R_lt (by (with_reducible repeat (first | apply Kd.R_alloc | apply Kd.R_drewN | apply Kd.R_drew)); exact HO221.out))) (below_size (by repeat (first | (with_reducible first | exact HB.out | apply below_alloc | apply pw_below_drewN | apply below_drew1) | exact HB.out)))); have n5_ := Aside0.mk (below_step (by repeat (first | (with_reducible first | exact HB.out | apply below_alloc | apply pw_below_drewN | apply below_drew1) | exact HB.out)) hb); clear HO_5; clear HO_6; clear HO218; clear HO221; clear HB; have HO_5 := n0_; have HO_6 := n1_; have HO218 := n2_; have HO221 := n3_; have HO224 := n4_; have HB := n5_; clear n0_ n1_ n2_ n3_ n4_ n5_; (try clear hb); (try clear hb2); (try clear hk); (try clear hi); (try clear ho0))); go_upto_region 10 with (first | (go_at_call 15; (with_reducible refine (order_Sort.calls _ _ l0 t216 _ ?side1 ?side2 A19.out).mono ?_); (case side1 => repeat (first | exact (Kd.C_below HR0.out HB.out) | (with_reducible refine Kd.C_alloc ?_ _) | (with_reducible refine Kd.C_drewN ?_ _) | (with_reducible refine Kd.C_drew ?_))); (case side2 => exact HC0.out); rintro e w23 ⟨v217, rfl, ho0, hb⟩; have n0_ := Aside0.mk (Kd.R_below (by (with_reducible repeat (first | apply Kd.R_alloc | apply Kd.R_drewN | apply Kd.R_drew)); exact HO_5.out) hb); have n1_ := Aside0.mk (Kd.R_below (by (with_reducible repeat (first | apply Kd.R_alloc | apply Kd.R_drewN | apply Kd.R_drew)); exact HO_6.out) hb); have n2_ := Aside0.mk (Kd.R_lower ho0 (below_size (by repeat (first | (with_reducible first | exact HB.out | apply below_alloc | apply pw_below_drewN | apply below_drew1) | exact HB.out)))); have n3_ := Aside0.mk (below_step (by repeat (first | (with_reducible first | exact HB.out | apply below_alloc | apply pw_below_drewN | apply below_drew1) | exact HB.out)) hb); clear HO_5; clear HO_6; clear HB; have HO_5 := n0_; have HO_6 := n1_; have HO218 := n2_; have HB := n3_; clear n0_ n1_ n2_ n3_; (try clear hb); (try clear hb2); (try clear hk); (try clear hi); (try clear ho0); obtain ⟨Ao24, co24, eo24⟩ := Kd.R_slice HO_5.out; subst eo24) | (go_at_call 15; (with_reducible refine (order_Sort.calls _ _ x5_1 t219 _ ?side1 ?side2 A20.out).mono ?_); (case side1 => repeat (first | exact (Kd.R_reads' HO_5.out).2.2 | (with_reducible refine Kd.C_alloc ?_ _) | (with_reducible refine Kd.C_drewN ?_ _) | (with_reducible refine Kd.C_drew ?_))); (case side2 => exact (Kd.R_reads' HO_5.out).2.1); rintro e w25 ⟨v220, rfl, ho0, hb⟩; have n0_ := Aside0.mk (Kd.R_below (by (with_reducible repeat (first | apply Kd.R_alloc | apply Kd.R_drewN | apply Kd.R_drew)); exact HO_5.out) hb); have n1_ := Aside0.mk (Kd.R_below (by (with_reducible repeat (first | apply Kd.R_alloc | apply Kd.R_drewN | apply Kd.R_drew)); exact HO_6.out) hb); have n2_ := Aside0.mk (Kd.R_elder' (by (with_reducible repeat (first | apply Kd.R_alloc | apply Kd.R_drewN | apply Kd.R_drew)); exact HO218.out) (Kd.R_base ho0) hb); have n3_ := Aside0.mk (Kd.R_lower (Kd.R_new' ho0 (Kd.R_lt (by (with_reducible repeat (first | apply Kd.R_alloc | apply Kd.R_drewN | apply Kd.R_drew)); exact HO218.out))) (below_size (by repeat (first | (with_reducible first | exact HB.out | apply below_alloc | apply pw_below_drewN | apply below_drew1) | exact HB.out)))); have n4_ := Aside0.mk (below_step (by repeat (first | (with_reducible first | exact HB.out | apply below_alloc | apply pw_below_drewN | apply below_drew1) | exact HB.out)) hb); clear HO_5; clear HO_6; clear HO218; clear HB; have HO_5 := n0_; have HO_6 := n1_; have HO218 := n2_; have HO221 := n3_; have HB := n4_; clear n0_ n1_ n2_ n3_ n4_; (try clear hb); (try clear hb2); (try clear hk); (try clear hi); (try clear ho0); obtain ⟨Ao26, co26, eo26⟩ := Kd.R_slice HO_6.out; subst eo26) | (go_at_call 15; (with_reducible refine (order_Sort.calls _ _ x6_1 t222 _ ?side1 ?side2 A21.out).mono ?_); (case side1 => repeat (first | exact (Kd.R_reads' HO_6.out).2.2 | (with_reducible refine Kd.C_alloc ?_ _) | (with_reducible refine Kd.C_drewN ?_ _) | (with_reducible refine Kd.C_drew ?_))); (case side2 => exact (Kd.R_reads' HO_6.out).2.1); rintro e w27 ⟨v223, rfl, ho0, hb⟩; have n0_ := Aside0.mk (Kd.R_below (by (with_reducible repeat (first | apply Kd.R_alloc | apply Kd.R_drewN | apply Kd.R_drew)); exact HO_5.out) hb); have n1_ := Aside0.mk (Kd.R_below (by (with_reducible repeat (first | apply Kd.R_alloc | apply Kd.R_drewN | apply Kd.R_drew)); exact HO_6.out) hb); have n2_ := Aside0.mk (Kd.R_elder' (by (with_reducible repeat (first | apply Kd.R_alloc | apply Kd.R_drewN | apply Kd.R_drew)); exact HO218.out) (Kd.R_base ho0) hb); have n3_ := Aside0.mk (Kd.R_elder' (by (with_reducible repeat (first | apply Kd.R_alloc | apply Kd.R_drewN | apply Kd.R_drew)); exact HO221.out) (Kd.R_base ho0) hb); have n4_ := Aside0.mk (Kd.R_lower (Kd.R_new' (Kd.R_new' ho0 (Kd.R_lt (by (with_reducible repeat (first | apply Kd.R_alloc | apply Kd.R_drewN | apply Kd.R_drew)); exact HO218.out))) (Kd.R_lt (by (with_reducible repeat (first | apply Kd.R_alloc | apply Kd.R_drewN | apply Kd.R_drew)); exact HO221.out))) (below_size (by repeat (first | (with_reducible first | exact HB.out | apply below_alloc | apply pw_below_drewN | apply below_drew1) | exact HB.out)))); have n5_ := Aside0.mk (below_step (by repeat (first | (with_reducible first | exact HB.out | apply below_alloc | apply pw_below_drewN | apply below_drew1) | exact HB.out)) hb); clear HO_5; clear HO_6; clear HO218; clear HO221; clear HB; have HO_5 := n0_; have HO_6 := n1_; have HO218 := n2_; have HO221 := n3_; have HO224 := n4_; have HB := n5_; clear n0_ n1_ n2_ n3_ n4_ n5_; (try clear hb); (try clear hb2); (try clear hk); (try clear hi); (try clear ho0))))
          (try simp only [Act.put, List.setIfInBounds_toArray, List.set_cons_zero, List.set_cons_succ])
          go_cut [75] (fun v75 wc => ∃ (kq : Nat) (x75_21 : Bool), v75 = .bool x75_21 ∧ Aside0 (orthoepylaw21_OrderTurned.j1 kq l0 x5_1 x6_1 t216 t219 t222 x75_21 = some r) ∧ Aside0 (kq ≤ k1) ∧ Aside0 (Kd.R Kd.string 9 wc w.heap.size (fun k_ => some k_ ≠ ((.slice Ao26 x6_1.length co26) : Value).ownBlock) (.slice Ao24 x5_1.length co24) x5_1) ∧ Aside0 (Kd.R Kd.string 9 wc w.heap.size (fun k_ => some k_ ≠ ((.slice Ao24 x5_1.length co24) : Value).ownBlock) (.slice Ao26 x6_1.length co26) x6_1) ∧ Aside0 (Kd.R (Kd.int .i64) 3 wc w.heap.size (fun k_ => some k_ ≠ (v220 : Value).ownBlock ∧ some k_ ≠ (v223 : Value).ownBlock) v217 t216) ∧ Aside0 (Kd.R (Kd.int .i64) 3 wc w.heap.size (fun k_ => some k_ ≠ (v217 : Value).ownBlock ∧ some k_ ≠ (v223 : Value).ownBlock) v220 t219) ∧ Aside0 (Kd.R (Kd.int .i64) 3 wc w.heap.size (fun k_ => some k_ ≠ (v217 : Value).ownBlock ∧ some k_ ≠ (v220 : Value).ownBlock) v223 t222) ∧ Aside0 (Below w.heap.size w wc))
          case first =>
            have H := HC22.out
            clear HC22
            by_cases c28 : (t216.length : Int) = (l0.length : Int)
            · rw [if_pos c28] at H
              have c28b0 : ((t216.length : Int) == (l0.length : Int)) = true := beq_iff_eq.mpr c28
              have c28b1 : ((t216.length : Int) != (l0.length : Int)) = false := bne_eq_false_iff_eq.mpr c28
              have c28b2 : (t216.length == l0.length) = true := by first | simpa using c28 | (simp at c28 ⊢; omega)
              clear c28
              (first | rw [c28b0] | (simp only [i64_w, i32_w]; rw [c28b0]) | skip)
              by_cases c29 : (t219.length : Int) = (l0.length : Int)
              · rw [if_pos c29] at H
                have c29b0 : ((t219.length : Int) == (l0.length : Int)) = true := beq_iff_eq.mpr c29
                have c29b1 : ((t219.length : Int) != (l0.length : Int)) = false := bne_eq_false_iff_eq.mpr c29
                have c29b2 : (t219.length == l0.length) = true := by first | simpa using c29 | (simp at c29 ⊢; omega)
                clear c29
                have H' := Aside0.mk H
                clear H
                obtain ⟨Ao30, co30, eo30⟩ := Kd.R_slice HO218.out
                subst eo30
                obtain ⟨Ao31, co31, eo31⟩ := Kd.R_slice HO221.out
                subst eo31
                obtain ⟨Ao32, co32, eo32⟩ := Kd.R_slice HO224.out
                subst eo32
                go_wp2
                repeat (go_quiet (fail); try go_wp2)
                go_meet
                case rel => exact ⟨_, (((t222.length : Int) != (l0.length : Int))), (by first | rfl | (simp; done) | (simp [*]; done) | (simp; exact (show ∀ x_ y_ : Bool, (x_ == y_) = (!(x_ != y_)) by decide) _ _)), H', ⟨by have := HK1.out; first | omega | exact Nat.le_refl _⟩, ⟨by (with_reducible repeat (first | apply Kd.R_alloc | apply Kd.R_drewN | apply Kd.R_drew)); exact HO_5.out⟩, ⟨by (with_reducible repeat (first | apply Kd.R_alloc | apply Kd.R_drewN | apply Kd.R_drew)); exact HO_6.out⟩, ⟨by (with_reducible repeat (first | apply Kd.R_alloc | apply Kd.R_drewN | apply Kd.R_drew)); exact Kd.R_mono HO218.out (fun _ hk => ⟨hk.1.2, hk.2⟩)⟩, ⟨by (with_reducible repeat (first | apply Kd.R_alloc | apply Kd.R_drewN | apply Kd.R_drew)); exact Kd.R_mono HO221.out (fun _ hk => ⟨hk.1.2, hk.2⟩)⟩, ⟨by (with_reducible repeat (first | apply Kd.R_alloc | apply Kd.R_drewN | apply Kd.R_drew)); exact Kd.R_mono HO224.out (fun _ hk => ⟨hk.1.2, hk.2⟩)⟩, ⟨by repeat (first | (with_reducible first | exact HB.out | apply below_alloc | apply pw_below_drewN | apply below_drew1) | exact HB.out)⟩⟩
              · rw [if_neg c29] at H
                have c29b0 : ((t219.length : Int) == (l0.length : Int)) = false := beq_eq_false_iff_ne.mpr c29
                have c29b1 : ((t219.length : Int) != (l0.length : Int)) = true := bne_iff_ne.mpr c29
                have c29b2 : (t219.length == l0.length) = false := by first | simpa using c29 | (simp at c29 ⊢; omega)
                have H' := Aside0.mk H
                clear H
                obtain ⟨Ao33, co33, eo33⟩ := Kd.R_slice HO218.out
                subst eo33
                obtain ⟨Ao34, co34, eo34⟩ := Kd.R_slice HO221.out
                subst eo34
                go_wp2
                repeat (go_quiet (fail); try go_wp2)
                go_meet
                case rel => exact ⟨_, (true), (by first | rfl | (simp; done) | (simp [*]; done)), H', ⟨by have := HK1.out; first | omega | exact Nat.le_refl _⟩, ⟨by (with_reducible repeat (first | apply Kd.R_alloc | apply Kd.R_drewN | apply Kd.R_drew)); exact HO_5.out⟩, ⟨by (with_reducible repeat (first | apply Kd.R_alloc | apply Kd.R_drewN | apply Kd.R_drew)); exact HO_6.out⟩, ⟨by (with_reducible repeat (first | apply Kd.R_alloc | apply Kd.R_drewN | apply Kd.R_drew)); exact Kd.R_mono HO218.out (fun _ hk => ⟨hk.1.2, hk.2⟩)⟩, ⟨by (with_reducible repeat (first | apply Kd.R_alloc | apply Kd.R_drewN | apply Kd.R_drew)); exact Kd.R_mono HO221.out (fun _ hk => ⟨hk.1.2, hk.2⟩)⟩, ⟨by (with_reducible repeat (first | apply Kd.R_alloc | apply Kd.R_drewN | apply Kd.R_drew)); exact Kd.R_mono HO224.out (fun _ hk => ⟨hk.1.2, hk.2⟩)⟩, ⟨by repeat (first | (with_reducible first | exact HB.out | apply below_alloc | apply pw_below_drewN | apply below_drew1) | exact HB.out)⟩⟩
            · rw [if_neg c28] at H
              have c28b0 : ((t216.length : Int) == (l0.length : Int)) = false := beq_eq_false_iff_ne.mpr c28
              have c28b1 : ((t216.length : Int) != (l0.length : Int)) = true := bne_iff_ne.mpr c28
              have c28b2 : (t216.length == l0.length) = false := by first | simpa using c28 | (simp at c28 ⊢; omega)
              (first | rw [c28b0] | (simp only [i64_w, i32_w]; rw [c28b0]) | skip)
              have H' := Aside0.mk H
              clear H
              obtain ⟨Ao35, co35, eo35⟩ := Kd.R_slice HO218.out
              subst eo35
              go_wp2
              repeat (go_quiet (fail); try go_wp2)
              go_meet
              case rel => exact ⟨_, (true), (by first | rfl | (simp; done) | (simp [*]; done)), H', ⟨by have := HK1.out; first | omega | exact Nat.le_refl _⟩, ⟨by (with_reducible repeat (first | apply Kd.R_alloc | apply Kd.R_drewN | apply Kd.R_drew)); exact HO_5.out⟩, ⟨by (with_reducible repeat (first | apply Kd.R_alloc | apply Kd.R_drewN | apply Kd.R_drew)); exact HO_6.out⟩, ⟨by (with_reducible repeat (first | apply Kd.R_alloc | apply Kd.R_drewN | apply Kd.R_drew)); exact Kd.R_mono HO218.out (fun _ hk => ⟨hk.1.2, hk.2⟩)⟩, ⟨by (with_reducible repeat (first | apply Kd.R_alloc | apply Kd.R_drewN | apply Kd.R_drew)); exact Kd.R_mono HO221.out (fun _ hk => ⟨hk.1.2, hk.2⟩)⟩, ⟨by (with_reducible repeat (first | apply Kd.R_alloc | apply Kd.R_drewN | apply Kd.R_drew)); exact Kd.R_mono HO224.out (fun _ hk => ⟨hk.1.2, hk.2⟩)⟩, ⟨by repeat (first | (with_reducible first | exact HB.out | apply below_alloc | apply pw_below_drewN | apply below_drew1) | exact HB.out)⟩⟩
          case rest =>
            clear HC22
            try clear c1
            try clear c2
            try clear p2
            try clear q2
            try clear hx2
            try clear c4
            try clear c6
            try clear c6b0
            try clear p6
            try clear c7
            try clear c8
            try clear c8b0
            try clear c8b1
            try clear c8b2
            try clear c10
            try clear c10b0
            try clear c11
            try clear c11b0
            try clear c12
            try clear c14
            try clear c14b0
            try clear c15
            try clear c15b0
            try clear c16
            try clear p20
            try clear q20
            try clear hx20
            try clear p21
            try clear q21
            try clear hx21
            try clear c28
            try clear c28b0
            try clear c28b1
            try clear c28b2
            try clear c29
            try clear c29b0
            try clear c29b1
            try clear c29b2
            try clear hx208_0
            try clear hx212_0
            try clear p2
            try clear p208
            try clear p212
            try clear q208
            try clear q212
            obtain ⟨kq, x75_21, rfl, HA, HJ21, HO_5, HO_6, HO_8, HO_9, HO_10, HB⟩ := hcut
            cases kq with
            | zero => exact absurd HA.out (by simp [orthoepylaw21_OrderTurned.j1])
            | succ kj21 =>
              have H := HA.out
              clear HA
              simp only [orthoepylaw21_OrderTurned.j1] at H
              by_cases c36 : x75_21 = true
              · subst c36
                have H1 : (some false) = some r := by rw [if_pos rfl] at H; exact H
                clear H
                have H := H1
                clear H1
                obtain rfl := Option.some.inj H
                exact absurd hT_.out (by decide)
              · replace c36 := Bool.eq_false_iff.mpr c36
                subst c36
                have H1 : (orthoepylaw21_OrderTurned.l1 kj21 l0 x5_1 x6_1 t216 t219 t222 0) = some r := by rw [if_neg (show ¬ (false = true) by decide)] at H; exact H
                clear H
                have H := H1
                clear H1
                have H' := Aside0.mk H
                clear H
                go_wp2
                repeat (go_quiet (fail); try go_wp2)
                go_loopg [11] kj21 (fun kq v11 w' => ∃ (x11_3 : Int), v11 = .int .i64 x11_3 ∧ Aside0 (orthoepylaw21_OrderTurned.l1 kq l0 x5_1 x6_1 t216 t219 t222 x11_3 = some r) ∧ Aside0 (kq ≤ kj21) ∧ Aside0 (Kd.R Kd.string 9 w' w.heap.size (fun k_ => some k_ ≠ ((.slice Ao26 x6_1.length co26) : Value).ownBlock) (.slice Ao24 x5_1.length co24) x5_1) ∧ Aside0 (Kd.R Kd.string 9 w' w.heap.size (fun k_ => some k_ ≠ ((.slice Ao24 x5_1.length co24) : Value).ownBlock) (.slice Ao26 x6_1.length co26) x6_1) ∧ Aside0 (Kd.R (Kd.int .i64) 3 w' w.heap.size (fun k_ => some k_ ≠ (v220 : Value).ownBlock ∧ some k_ ≠ (v223 : Value).ownBlock) v217 t216) ∧ Aside0 (Kd.R (Kd.int .i64) 3 w' w.heap.size (fun k_ => some k_ ≠ (v217 : Value).ownBlock ∧ some k_ ≠ (v223 : Value).ownBlock) v220 t219) ∧ Aside0 (Kd.R (Kd.int .i64) 3 w' w.heap.size (fun k_ => some k_ ≠ (v217 : Value).ownBlock ∧ some k_ ≠ (v220 : Value).ownBlock) v223 t222) ∧ Aside0 (Below w.heap.size w w'))
                case atStart => exact ⟨(0), (by first | rfl | (simp; done) | (simp [*]; done)), H', ⟨Nat.le_refl _⟩, ⟨by (with_reducible repeat (first | apply Kd.R_alloc | apply Kd.R_drewN | apply Kd.R_drew)); exact HO_5.out⟩, ⟨by (with_reducible repeat (first | apply Kd.R_alloc | apply Kd.R_drewN | apply Kd.R_drew)); exact HO_6.out⟩, ⟨by (with_reducible repeat (first | apply Kd.R_alloc | apply Kd.R_drewN | apply Kd.R_drew)); exact HO_8.out⟩, ⟨by (with_reducible repeat (first | apply Kd.R_alloc | apply Kd.R_drewN | apply Kd.R_drew)); exact HO_9.out⟩, ⟨by (with_reducible repeat (first | apply Kd.R_alloc | apply Kd.R_drewN | apply Kd.R_drew)); exact HO_10.out⟩, ⟨by repeat (first | (with_reducible first | exact HB.out | apply below_alloc | apply pw_below_drewN | apply below_drew1) | exact HB.out)⟩⟩
                case round =>
                  clear H'
                  try clear c1
                  try clear c2
                  try clear p2
                  try clear q2
                  try clear hx2
                  try clear c3
                  try clear c4
                  try clear c6
                  try clear c6b0
                  try clear p6
                  try clear c7
                  try clear c8
                  try clear c8b0
                  try clear c8b1
                  try clear c8b2
                  try clear c10
                  try clear c10b0
                  try clear c11
                  try clear c11b0
                  try clear c12
                  try clear c14
                  try clear c14b0
                  try clear c15
                  try clear c15b0
                  try clear c16
                  try clear p20
                  try clear q20
                  try clear hx20
                  try clear p21
                  try clear q21
                  try clear hx21
                  try clear c28
                  try clear c28b0
                  try clear c28b1
                  try clear c28b2
                  try clear c29
                  try clear c29b0
                  try clear c29b1
                  try clear c29b2
                  try clear c36
                  try clear hx208_0
                  try clear hx212_0
                  try clear p2
                  try clear p20
                  try clear p208
                  try clear p21
                  try clear p212
                  try clear p6
                  try clear q2
                  try clear q20
                  try clear q208
                  try clear q21
                  try clear q212
                  obtain ⟨x11_3, rfl, HA, HK3, HO_5, HO_6, HO_8, HO_9, HO_10, HB⟩ := hrel
                  cases gk with
                  | zero => exact absurd HA.out (by simp [orthoepylaw21_OrderTurned.l1])
                  | succ k3 =>
                    have H := HA.out
                    clear HA
                    simp only [orthoepylaw21_OrderTurned.l1] at H
                    by_cases c37 : x11_3 < (l0.length : Int)
                    · rw [if_pos c37] at H
                      have c37b0 : decide (x11_3 < (l0.length : Int)) = true := decide_eq_true c37
                      clear c37
                      by_cases c38 : 0 ≤ x11_3
                      · rw [if_pos c38] at H
                        have c38b0 : decide (0 ≤ x11_3) = true := decide_eq_true c38
                        clear c38
                        by_cases c39 : x11_3 < (t216.length : Int)
                        · rw [if_pos c39] at H
                          have c39b0 : decide (x11_3 < (t216.length : Int)) = true := decide_eq_true c39
                          clear c39
                          by_cases c40 : x11_3 < (t219.length : Int)
                          · rw [if_pos c40] at H
                            have c40b0 : decide (x11_3 < (t219.length : Int)) = true := decide_eq_true c40
                            clear c40
                            by_cases c41 : x11_3 < (t222.length : Int)
                            · rw [if_pos c41] at H
                              have c41b0 : decide (x11_3 < (t222.length : Int)) = true := decide_eq_true c41
                              clear c41
                              by_cases c42 : (rd t216 x11_3) < 0
                              · rw [if_pos c42] at H
                                have c42b0 : decide ((rd t216 x11_3) < 0) = true := decide_eq_true c42
                                clear c42
                                obtain rfl := Option.some.inj H
                                exact absurd hT_.out (by decide)
                              · rw [if_neg c42] at H
                                have c42b0 : decide ((rd t216 x11_3) < 0) = false := decide_eq_false c42
                                clear c42
                                by_cases c43 : (rd t219 x11_3) < 0
                                · rw [if_pos c43] at H
                                  have c43b0 : decide ((rd t219 x11_3) < 0) = true := decide_eq_true c43
                                  clear c43
                                  obtain rfl := Option.some.inj H
                                  exact absurd hT_.out (by decide)
                                · rw [if_neg c43] at H
                                  have c43b0 : decide ((rd t219 x11_3) < 0) = false := decide_eq_false c43
                                  clear c43
                                  by_cases c44 : (rd t222 x11_3) < 0
                                  · rw [if_pos c44] at H
                                    have c44b0 : decide ((rd t222 x11_3) < 0) = true := decide_eq_true c44
                                    clear c44
                                    obtain rfl := Option.some.inj H
                                    exact absurd hT_.out (by decide)
                                  · rw [if_neg c44] at H
                                    have c44b0 : decide ((rd t222 x11_3) < 0) = false := decide_eq_false c44
                                    clear c44
                                    by_cases c45 : (rd t216 x11_3) ≥ (l0.length : Int)
                                    · rw [if_pos c45] at H
                                      have c45b0 : decide ((l0.length : Int) ≤ (rd t216 x11_3)) = true := decide_eq_true c45
                                      clear c45
                                      obtain rfl := Option.some.inj H
                                      exact absurd hT_.out (by decide)
                                    · rw [if_neg c45] at H
                                      have c45b0 : decide ((l0.length : Int) ≤ (rd t216 x11_3)) = false := decide_eq_false c45
                                      clear c45
                                      by_cases c46 : (rd t219 x11_3) ≥ (l0.length : Int)
                                      · rw [if_pos c46] at H
                                        have c46b0 : decide ((l0.length : Int) ≤ (rd t219 x11_3)) = true := decide_eq_true c46
                                        clear c46
                                        obtain rfl := Option.some.inj H
                                        exact absurd hT_.out (by decide)
                                      · rw [if_neg c46] at H
                                        have c46b0 : decide ((l0.length : Int) ≤ (rd t219 x11_3)) = false := decide_eq_false c46
                                        clear c46
                                        by_cases c47 : (rd t222 x11_3) ≥ (l0.length : Int)
                                        · rw [if_pos c47] at H
                                          have c47b0 : decide ((l0.length : Int) ≤ (rd t222 x11_3)) = true := decide_eq_true c47
                                          clear c47
                                          obtain rfl := Option.some.inj H
                                          exact absurd hT_.out (by decide)
                                        · rw [if_neg c47] at H
                                          have c47b0 : decide ((l0.length : Int) ≤ (rd t222 x11_3)) = false := decide_eq_false c47
                                          clear c47
                                          by_cases c48 : 0 ≤ (rd t216 x11_3)
                                          · rw [if_pos c48] at H
                                            have c48b0 : decide (0 ≤ (rd t216 x11_3)) = true := decide_eq_true c48
                                            clear c48
                                            by_cases c49 : (rd t216 x11_3) < (l0.length : Int)
                                            · rw [if_pos c49] at H
                                              have c49b0 : decide ((rd t216 x11_3) < (l0.length : Int)) = true := decide_eq_true c49
                                              clear c49
                                              by_cases c50 : 0 ≤ (rd t219 x11_3)
                                              · rw [if_pos c50] at H
                                                have c50b0 : decide (0 ≤ (rd t219 x11_3)) = true := decide_eq_true c50
                                                clear c50
                                                by_cases c51 : (rd t219 x11_3) < (x5_1.length : Int)
                                                · rw [if_pos c51] at H
                                                  have c51b0 : decide ((rd t219 x11_3) < (x5_1.length : Int)) = true := decide_eq_true c51
                                                  clear c51
                                                  by_cases c52 : (rdOf ByteArray.empty l0 (rd t216 x11_3)).toList = (rdOf ByteArray.empty x5_1 (rd t219 x11_3)).toList
                                                  · rw [if_pos c52] at H
                                                    have c52b0 : ((rdOf ByteArray.empty l0 (rd t216 x11_3)).toList == (rdOf ByteArray.empty x5_1 (rd t219 x11_3)).toList) = true := beq_iff_eq.mpr c52
                                                    have c52b1 : ((rdOf ByteArray.empty l0 (rd t216 x11_3)).toList != (rdOf ByteArray.empty x5_1 (rd t219 x11_3)).toList) = false := bne_eq_false_iff_eq.mpr c52
                                                    clear c52
                                                    by_cases c53 : 0 ≤ (rd t222 x11_3)
                                                    · rw [if_pos c53] at H
                                                      have c53b0 : decide (0 ≤ (rd t222 x11_3)) = true := decide_eq_true c53
                                                      clear c53
                                                      by_cases c54 : (rd t222 x11_3) < (x6_1.length : Int)
                                                      · rw [if_pos c54] at H
                                                        have c54b0 : decide ((rd t222 x11_3) < (x6_1.length : Int)) = true := decide_eq_true c54
                                                        clear c54
                                                        by_cases c55 : (rdOf ByteArray.empty l0 (rd t216 x11_3)).toList = (rdOf ByteArray.empty x6_1 (rd t222 x11_3)).toList
                                                        · rw [if_pos c55] at H
                                                          have c55b0 : ((rdOf ByteArray.empty l0 (rd t216 x11_3)).toList == (rdOf ByteArray.empty x6_1 (rd t222 x11_3)).toList) = true := beq_iff_eq.mpr c55
                                                          have c55b1 : ((rdOf ByteArray.empty l0 (rd t216 x11_3)).toList != (rdOf ByteArray.empty x6_1 (rd t222 x11_3)).toList) = false := bne_eq_false_iff_eq.mpr c55
                                                          clear c55
                                                          have H' := Aside0.mk H
                                                          clear H
                                                          obtain ⟨Ao56, co56, eo56⟩ := Kd.R_slice HO_8.out
                                                          subst eo56
                                                          have p225 : 0 ≤ (x11_3 : Int) := of_decide_eq_true (by first | (with_reducible assumption) | assumption)
                                                          have q225 : x11_3 < (t216.length : Int) := of_decide_eq_true (by first | (with_reducible assumption) | assumption)
                                                          obtain ⟨ad225, e225, hx225_0⟩ := Kd.at_int (Kd.R_reads' HO_8.out).2.2 x11_3 p225 q225
                                                          cases e225
                                                          replace p225 := eq_true p225
                                                          replace q225 := eq_true q225
                                                          obtain ⟨Ao57, co57, eo57⟩ := Kd.R_slice HO_9.out
                                                          subst eo57
                                                          have p226 : 0 ≤ (x11_3 : Int) := of_decide_eq_true (by first | (with_reducible assumption) | assumption)
                                                          have q226 : x11_3 < (t219.length : Int) := of_decide_eq_true (by first | (with_reducible assumption) | assumption)
                                                          obtain ⟨ad226, e226, hx226_0⟩ := Kd.at_int (Kd.R_reads' HO_9.out).2.2 x11_3 p226 q226
                                                          cases e226
                                                          replace p226 := eq_true p226
                                                          replace q226 := eq_true q226
                                                          obtain ⟨Ao58, co58, eo58⟩ := Kd.R_slice HO_10.out
                                                          subst eo58
                                                          have p227 : 0 ≤ (x11_3 : Int) := of_decide_eq_true (by first | (with_reducible assumption) | assumption)
                                                          have q227 : x11_3 < (t222.length : Int) := of_decide_eq_true (by first | (with_reducible assumption) | assumption)
                                                          obtain ⟨ad227, e227, hx227_0⟩ := Kd.at_int (Kd.R_reads' HO_10.out).2.2 x11_3 p227 q227
                                                          cases e227
                                                          replace p227 := eq_true p227
                                                          replace q227 := eq_true q227
                                                          have p228 : 0 ≤ ((rd t216 x11_3) : Int) := of_decide_eq_true (by first | (with_reducible assumption) | assumption)
                                                          have q228 : (rd t216 x11_3) < (l0.length : Int) := of_decide_eq_true (by first | (with_reducible assumption) | assumption)
                                                          obtain ⟨ad228, e228, hx228_0⟩ := Kd.at_string HR0.out (rd t216 x11_3) p228 q228
                                                          cases e228
                                                          replace hx228_0 := (HB.out.cell (World.block_lt_of_cell? w _ hx228_0)).trans hx228_0
                                                          replace p228 := eq_true p228
                                                          replace q228 := eq_true q228
                                                          have p229 : 0 ≤ ((rd t219 x11_3) : Int) := of_decide_eq_true (by first | (with_reducible assumption) | assumption)
                                                          have q229 : (rd t219 x11_3) < (x5_1.length : Int) := of_decide_eq_true (by first | (with_reducible assumption) | assumption)
                                                          obtain ⟨ad229, e229, hx229_0⟩ := Kd.at_string (Kd.R_reads' HO_5.out).2.2 (rd t219 x11_3) p229 q229
                                                          cases e229
                                                          replace p229 := eq_true p229
                                                          replace q229 := eq_true q229
                                                          have p230 : 0 ≤ ((rd t216 x11_3) : Int) := of_decide_eq_true (by first | (with_reducible assumption) | assumption)
                                                          have q230 : (rd t216 x11_3) < (l0.length : Int) := of_decide_eq_true (by first | (with_reducible assumption) | assumption)
                                                          obtain ⟨ad230, e230, hx230_0⟩ := Kd.at_string HR0.out (rd t216 x11_3) p230 q230
                                                          obtain rfl : ad228 = ad230 := (by injection e230)
                                                          replace hx230_0 := (HB.out.cell (World.block_lt_of_cell? w _ hx230_0)).trans hx230_0
                                                          replace p230 := eq_true p230
                                                          replace q230 := eq_true q230
                                                          have p231 : 0 ≤ ((rd t222 x11_3) : Int) := of_decide_eq_true (by first | (with_reducible assumption) | assumption)
                                                          have q231 : (rd t222 x11_3) < (x6_1.length : Int) := of_decide_eq_true (by first | (with_reducible assumption) | assumption)
                                                          obtain ⟨ad231, e231, hx231_0⟩ := Kd.at_string (Kd.R_reads' HO_6.out).2.2 (rd t222 x11_3) p231 q231
                                                          cases e231
                                                          replace p231 := eq_true p231
                                                          replace q231 := eq_true q231
                                                          go_wp2
                                                          repeat (go_quiet (fail); try go_wp2)
                                                          go_roundg k3
                                                          case measure => have := HK1.out; have := HJ21.out; have := HK3.out; omega
                                                          case rel => exact ⟨(wrap64 (x11_3 + 1)), (by first | rfl | (simp; done) | (simp [*]; done)), H', ⟨by have := HK1.out; have := HJ21.out; have := HK3.out; omega⟩, ⟨by (with_reducible repeat (first | apply Kd.R_alloc | apply Kd.R_drewN | apply Kd.R_drew)); exact HO_5.out⟩, ⟨by (with_reducible repeat (first | apply Kd.R_alloc | apply Kd.R_drewN | apply Kd.R_drew)); exact HO_6.out⟩, ⟨by (with_reducible repeat (first | apply Kd.R_alloc | apply Kd.R_drewN | apply Kd.R_drew)); exact HO_8.out⟩, ⟨by (with_reducible repeat (first | apply Kd.R_alloc | apply Kd.R_drewN | apply Kd.R_drew)); exact HO_9.out⟩, ⟨by (with_reducible repeat (first | apply Kd.R_alloc | apply Kd.R_drewN | apply Kd.R_drew)); exact HO_10.out⟩, ⟨by repeat (first | (with_reducible first | exact HB.out | apply below_alloc | apply pw_below_drewN | apply below_drew1) | exact HB.out)⟩⟩
                                                        · rw [if_neg c55] at H
                                                          have c55b0 : ((rdOf ByteArray.empty l0 (rd t216 x11_3)).toList == (rdOf ByteArray.empty x6_1 (rd t222 x11_3)).toList) = false := beq_eq_false_iff_ne.mpr c55
                                                          have c55b1 : ((rdOf ByteArray.empty l0 (rd t216 x11_3)).toList != (rdOf ByteArray.empty x6_1 (rd t222 x11_3)).toList) = true := bne_iff_ne.mpr c55
                                                          obtain rfl := Option.some.inj H
                                                          exact absurd hT_.out (by decide)
                                                      · rw [if_neg c54] at H
                                                        exact absurd H (by simp)
                                                    · rw [if_neg c53] at H
                                                      exact absurd H (by simp)
                                                  · rw [if_neg c52] at H
                                                    have c52b0 : ((rdOf ByteArray.empty l0 (rd t216 x11_3)).toList == (rdOf ByteArray.empty x5_1 (rd t219 x11_3)).toList) = false := beq_eq_false_iff_ne.mpr c52
                                                    have c52b1 : ((rdOf ByteArray.empty l0 (rd t216 x11_3)).toList != (rdOf ByteArray.empty x5_1 (rd t219 x11_3)).toList) = true := bne_iff_ne.mpr c52
                                                    obtain rfl := Option.some.inj H
                                                    exact absurd hT_.out (by decide)
                                                · rw [if_neg c51] at H
                                                  exact absurd H (by simp)
                                              · rw [if_neg c50] at H
                                                exact absurd H (by simp)
                                            · rw [if_neg c49] at H
                                              exact absurd H (by simp)
                                          · rw [if_neg c48] at H
                                            exact absurd H (by simp)
                            · rw [if_neg c41] at H
                              exact absurd H (by simp)
                          · rw [if_neg c40] at H
                            exact absurd H (by simp)
                        · rw [if_neg c39] at H
                          exact absurd H (by simp)
                      · rw [if_neg c38] at H
                        exact absurd H (by simp)
                    · rw [if_neg c37] at H
                      have c37b0 : decide (x11_3 < (l0.length : Int)) = false := decide_eq_false c37
                      clear c37
                      replace H := Option.bind_eq_some_iff.mp H
                      obtain ⟨t232, A590, H⟩ := H
                      replace H : (some t232) = some r := H
                      have A59 := Aside0.mk A590
                      clear A590
                      obtain rfl := Option.some.inj H
                      go_wp2_with (first | (go_at_call 11; (with_reducible refine (orthoepylaw21_awake.calls  t232 _ A59.out).mono ?_); rintro e w60 ⟨rfl, hb⟩; have n0_ := Aside0.mk (Kd.R_below (by (with_reducible repeat (first | apply Kd.R_alloc | apply Kd.R_drewN | apply Kd.R_drew)); exact HO_5.out) hb); have n1_ := Aside0.mk (Kd.R_below (by (with_reducible repeat (first | apply Kd.R_alloc | apply Kd.R_drewN | apply Kd.R_drew)); exact HO_6.out) hb); have n2_ := Aside0.mk (Kd.R_below (by (with_reducible repeat (first | apply Kd.R_alloc | apply Kd.R_drewN | apply Kd.R_drew)); exact HO_8.out) hb); have n3_ := Aside0.mk (Kd.R_below (by (with_reducible repeat (first | apply Kd.R_alloc | apply Kd.R_drewN | apply Kd.R_drew)); exact HO_9.out) hb); have n4_ := Aside0.mk (Kd.R_below (by (with_reducible repeat (first | apply Kd.R_alloc | apply Kd.R_drewN | apply Kd.R_drew)); exact HO_10.out) hb); have n5_ := Aside0.mk (below_step (by repeat (first | (with_reducible first | exact HB.out | apply below_alloc | apply pw_below_drewN | apply below_drew1) | exact HB.out)) hb); clear HO_5; clear HO_6; clear HO_8; clear HO_9; clear HO_10; clear HB; have HO_5 := n0_; have HO_6 := n1_; have HO_8 := n2_; have HO_9 := n3_; have HO_10 := n4_; have HB := n5_; clear n0_ n1_ n2_ n3_ n4_ n5_; (try clear hb); (try clear hb2); (try clear hk); (try clear hi)))
                      repeat (go_quiet (first | (go_at_call 11; (with_reducible refine (orthoepylaw21_awake.calls  t232 _ A59.out).mono ?_); rintro e w60 ⟨rfl, hb⟩; have n0_ := Aside0.mk (Kd.R_below (by (with_reducible repeat (first | apply Kd.R_alloc | apply Kd.R_drewN | apply Kd.R_drew)); exact HO_5.out) hb); have n1_ := Aside0.mk (Kd.R_below (by (with_reducible repeat (first | apply Kd.R_alloc | apply Kd.R_drewN | apply Kd.R_drew)); exact HO_6.out) hb); have n2_ := Aside0.mk (Kd.R_below (by (with_reducible repeat (first | apply Kd.R_alloc | apply Kd.R_drewN | apply Kd.R_drew)); exact HO_8.out) hb); have n3_ := Aside0.mk (Kd.R_below (by (with_reducible repeat (first | apply Kd.R_alloc | apply Kd.R_drewN | apply Kd.R_drew)); exact HO_9.out) hb); have n4_ := Aside0.mk (Kd.R_below (by (with_reducible repeat (first | apply Kd.R_alloc | apply Kd.R_drewN | apply Kd.R_drew)); exact HO_10.out) hb); have n5_ := Aside0.mk (below_step (by repeat (first | (with_reducible first | exact HB.out | apply below_alloc | apply pw_below_drewN | apply below_drew1) | exact HB.out)) hb); clear HO_5; clear HO_6; clear HO_8; clear HO_9; clear HO_10; clear HB; have HO_5 := n0_; have HO_6 := n1_; have HO_8 := n2_; have HO_9 := n3_; have HO_10 := n4_; have HB := n5_; clear n0_ n1_ n2_ n3_ n4_ n5_; (try clear hb); (try clear hb2); (try clear hk); (try clear hi))); try go_wp2_with (first | (go_at_call 11; (with_reducible refine (orthoepylaw21_awake.calls  t232 _ A59.out).mono ?_); rintro e w60 ⟨rfl, hb⟩; have n0_ := Aside0.mk (Kd.R_below (by (with_reducible repeat (first | apply Kd.R_alloc | apply Kd.R_drewN | apply Kd.R_drew)); exact HO_5.out) hb); have n1_ := Aside0.mk (Kd.R_below (by (with_reducible repeat (first | apply Kd.R_alloc | apply Kd.R_drewN | apply Kd.R_drew)); exact HO_6.out) hb); have n2_ := Aside0.mk (Kd.R_below (by (with_reducible repeat (first | apply Kd.R_alloc | apply Kd.R_drewN | apply Kd.R_drew)); exact HO_8.out) hb); have n3_ := Aside0.mk (Kd.R_below (by (with_reducible repeat (first | apply Kd.R_alloc | apply Kd.R_drewN | apply Kd.R_drew)); exact HO_9.out) hb); have n4_ := Aside0.mk (Kd.R_below (by (with_reducible repeat (first | apply Kd.R_alloc | apply Kd.R_drewN | apply Kd.R_drew)); exact HO_10.out) hb); have n5_ := Aside0.mk (below_step (by repeat (first | (with_reducible first | exact HB.out | apply below_alloc | apply pw_below_drewN | apply below_drew1) | exact HB.out)) hb); clear HO_5; clear HO_6; clear HO_8; clear HO_9; clear HO_10; clear HB; have HO_5 := n0_; have HO_6 := n1_; have HO_8 := n2_; have HO_9 := n3_; have HO_10 := n4_; have HB := n5_; clear n0_ n1_ n2_ n3_ n4_ n5_; (try clear hb); (try clear hb2); (try clear hk); (try clear hi))))
                      go_ret
                      exact ⟨by first | rfl | (simp [errW_none, errW_some] <;> rfl) | (simp [*, errW_none, errW_some] <;> rfl), by repeat (first | (with_reducible first | exact HB.out | apply below_alloc | apply pw_below_drewN | apply below_drew1) | exact HB.out)⟩
  · replace c4 := Bool.eq_false_iff.mpr c4
    subst c4
    have H1 : ((orthoepylaw21_awake.f).bind fun t206 => (some t206)) = some r := by rw [if_neg (show ¬ (false = true) by decide)] at H; exact H
    clear H
    have H := H1
    clear H1
    replace H := Option.bind_eq_some_iff.mp H
    obtain ⟨t206, A610, H⟩ := H
    replace H : (some t206) = some r := H
    have A61 := Aside0.mk A610
    clear A610
    obtain rfl := Option.some.inj H
    go_enter Try.func7, Try.ntmps7
    go_wp2_with (first | (go_at_call 10; (with_reducible refine (orthoepylaw21_right.calls k _ _ l0 false _ ?side1 ?side2 A3.out).mono ?_); (case side1 => repeat (first | exact HR0.out | (with_reducible refine Kd.C_alloc ?_ _) | (with_reducible refine Kd.C_drewN ?_ _) | (with_reducible refine Kd.C_drew ?_))); (case side2 => exact HC0.out); rintro e w62 ⟨rfl, hb⟩; have n0_ := Aside0.mk (below_step (by repeat (first | (with_reducible first | exact HB.out | apply below_alloc | apply pw_below_drewN | apply below_drew1) | exact HB.out)) hb); clear HB; have HB := n0_; clear n0_; (try clear hb); (try clear hb2); (try clear hk); (try clear hi)) | (go_at_call 11; (with_reducible refine (orthoepylaw21_awake.calls  t206 _ A61.out).mono ?_); rintro e w63 ⟨rfl, hb⟩; have n0_ := Aside0.mk (below_step (by repeat (first | (with_reducible first | exact HB.out | apply below_alloc | apply pw_below_drewN | apply below_drew1) | exact HB.out)) hb); clear HB; have HB := n0_; clear n0_; (try clear hb); (try clear hb2); (try clear hk); (try clear hi)))
    repeat (go_quiet (first | (go_at_call 10; (with_reducible refine (orthoepylaw21_right.calls k _ _ l0 false _ ?side1 ?side2 A3.out).mono ?_); (case side1 => repeat (first | exact HR0.out | (with_reducible refine Kd.C_alloc ?_ _) | (with_reducible refine Kd.C_drewN ?_ _) | (with_reducible refine Kd.C_drew ?_))); (case side2 => exact HC0.out); rintro e w62 ⟨rfl, hb⟩; have n0_ := Aside0.mk (below_step (by repeat (first | (with_reducible first | exact HB.out | apply below_alloc | apply pw_below_drewN | apply below_drew1) | exact HB.out)) hb); clear HB; have HB := n0_; clear n0_; (try clear hb); (try clear hb2); (try clear hk); (try clear hi)) | (go_at_call 11; (with_reducible refine (orthoepylaw21_awake.calls  t206 _ A61.out).mono ?_); rintro e w63 ⟨rfl, hb⟩; have n0_ := Aside0.mk (below_step (by repeat (first | (with_reducible first | exact HB.out | apply below_alloc | apply pw_below_drewN | apply below_drew1) | exact HB.out)) hb); clear HB; have HB := n0_; clear n0_; (try clear hb); (try clear hb2); (try clear hk); (try clear hi))); try go_wp2_with (first | (go_at_call 10; (with_reducible refine (orthoepylaw21_right.calls k _ _ l0 false _ ?side1 ?side2 A3.out).mono ?_); (case side1 => repeat (first | exact HR0.out | (with_reducible refine Kd.C_alloc ?_ _) | (with_reducible refine Kd.C_drewN ?_ _) | (with_reducible refine Kd.C_drew ?_))); (case side2 => exact HC0.out); rintro e w62 ⟨rfl, hb⟩; have n0_ := Aside0.mk (below_step (by repeat (first | (with_reducible first | exact HB.out | apply below_alloc | apply pw_below_drewN | apply below_drew1) | exact HB.out)) hb); clear HB; have HB := n0_; clear n0_; (try clear hb); (try clear hb2); (try clear hk); (try clear hi)) | (go_at_call 11; (with_reducible refine (orthoepylaw21_awake.calls  t206 _ A61.out).mono ?_); rintro e w63 ⟨rfl, hb⟩; have n0_ := Aside0.mk (below_step (by repeat (first | (with_reducible first | exact HB.out | apply below_alloc | apply pw_below_drewN | apply below_drew1) | exact HB.out)) hb); clear HB; have HB := n0_; clear n0_; (try clear hb); (try clear hb2); (try clear hk); (try clear hi))))
    go_ret
    exact ⟨by first | rfl | (simp [errW_none, errW_some] <;> rfl) | (simp [*, errW_none, errW_some] <;> rfl), by repeat (first | (with_reducible first | exact HB.out | apply below_alloc | apply pw_below_drewN | apply below_drew1) | exact HB.out)⟩

-- NOT PRINTED: function 30 (orthoepylaw00_Rune)

-- NOT PRINTED: function 32 (orthoepyref01_Nonchar)

-- NOT PRINTED: function 39 (orthoepyref02_Bytes)

-- NOT PRINTED: function 33 (orthoepyref02_Text)

/-! ### orthoepylaw00_Str: function 21 -/
def orthoepylaw00_Str.f (k : Nat) (l0 : List Int) : Option (ByteArray) := Go.Proofs.Ytajinnlaajhoeaa.PAll.orthoepylaw00_Str.f k l0
theorem orthoepylaw00_Str.mono : ∀ a0 k, LeO (orthoepylaw00_Str.f k a0) (orthoepylaw00_Str.f (k + 1) a0) := Go.Proofs.Ytajinnlaajhoeaa.PAll.orthoepylaw00_Str.mono
theorem orthoepylaw00_Str.calls (k : Nat) (A0 : Option Addr) (c0 : Nat) (l0 : List Int) (r : ByteArray) (w : World) (hr0 : Kd.C (Kd.int .i64) w A0 l0.length l0) (hc0 : l0.length ≤ c0) (h : orthoepylaw00_Str.f k l0 = some r) :
    Calls Try.prog 21 #[.slice A0 l0.length c0] w fun e w' => e = .returned (.string r) ∧ Below w.heap.size w w' := Go.Proofs.Ytajinnlaajhoeaa.PAll.orthoepylaw00_Str.calls k A0 c0 l0 r w hr0 hc0 h

end Go.Proofs.Ytajinnlaajhoeaa.PThr
