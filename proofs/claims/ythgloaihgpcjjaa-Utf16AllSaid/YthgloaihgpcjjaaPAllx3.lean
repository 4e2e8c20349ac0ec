-- The machine's side of laws, written by a program of this session (wip/gen/pp.sh). Lean checks it.
import Derived.Test.YthgloaihgpcjjaaPAllx0
import Derived.Test.YthgloaihgpcjjaaPAllx2
namespace Go.Proofs.Ythgloaihgpcjjaa.PAll
open Go.RowKit Go.Proofs.YthgloaihgpcjjaaW.PrintWords Go.Proofs.YthgloaihgpcjjaaW.PrintLast Go.Proofs.YthgloaihgpcjjaaW.PrintMore
attribute [local go_sem] max2_int min2_int max_two min_two max_three min_three max_four min_four   -- for this text's walks alone
set_option linter.unusedVariables false
set_option linter.unusedSimpArgs false

/-! ### orthoepyref03_Scalars: function 10 -/
mutual
def orthoepyref03_Scalars.l0 : Nat → List Int → List Int → Int → Option (List Int × Int × Bool)
  | 0, _, _, _ => none
  | k + 1, x0, x5, x6 => if x6 < (x0.length : Int) then (if (wrap64 (x6 + 1)) < (x0.length : Int) then (if 0 ≤ x6 then (if 0 ≤ (wrap64 (x6 + 1)) then ((orthoepyref01_Join.f (rd x0 x6) (rd x0 (wrap64 (x6 + 1)))).bind fun bt170 => (if bt170.2 = true then (if x5.length < 35184372088832 then (orthoepyref03_Scalars.l0 k x0 (x5 ++ [bt170.1]) (wrap64 ((wrap64 (x6 + 1)) + 1))) else (none)) else (orthoepyref03_Scalars.j1 k x0 x5 x6))) else (none)) else (none)) else (orthoepyref03_Scalars.j1 k x0 x5 x6)) else (some (x5, (x0.length : Int), true))
def orthoepyref03_Scalars.j1 : Nat → List Int → List Int → Int → Option (List Int × Int × Bool)
  | 0, _, _, _ => none
  | k + 1, x0, x5, x6 => if 0 ≤ x6 then (if x6 < (x0.length : Int) then ((orthoepyref01_High.f (rd x0 x6)).bind fun t176 => (if t176 = true then (some (([] : List Int), x6, false)) else ((orthoepyref01_Low.f (rd x0 x6)).bind fun t178 => (if t178 = true then (some (([] : List Int), x6, false)) else (if x5.length < 35184372088832 then (orthoepyref03_Scalars.l0 k x0 (x5 ++ [wrap32 (rd x0 x6)]) (wrap64 (x6 + 1))) else (none)))))) else (none)) else (none)
end
def orthoepyref03_Scalars.f (k : Nat) (l0 : List Int) : Option (List Int × Int × Bool) := orthoepyref03_Scalars.l0 k l0 ([] : List Int) 0
theorem orthoepyref03_Scalars.mono_l : ∀ k, (∀ y0 y1 y2, LeO (orthoepyref03_Scalars.l0 k y0 y1 y2) (orthoepyref03_Scalars.l0 (k + 1) y0 y1 y2)) ∧ (∀ y0 y1 y2, LeO (orthoepyref03_Scalars.j1 k y0 y1 y2) (orthoepyref03_Scalars.j1 (k + 1) y0 y1 y2))
  | 0 => ⟨fun _ _ _ r h => by simp [orthoepyref03_Scalars.l0] at h, fun _ _ _ r h => by simp [orthoepyref03_Scalars.j1] at h⟩
  | k + 1 => by
    obtain ⟨ih0, ih1⟩ := orthoepyref03_Scalars.mono_l k
    refine ⟨?_, ?_⟩
    · intro y0 y1 y2
      unfold orthoepyref03_Scalars.l0
      repeat' first
      | (with_reducible exact ih0 _ _ _)
      | (with_reducible exact ih1 _ _ _)
      | (with_reducible exact LeO.refl _)
      | (with_reducible exact LeO.none _)
      | (with_reducible refine LeO.ite ?_ ?_)
      | (with_reducible refine LeO.bind ?_ (fun _ => ?_))
      | exact ih0 _ _ _
      | exact ih1 _ _ _
      | exact LeO.none _
      | refine LeO.ite ?_ ?_
      | refine LeO.bind ?_ (fun _ => ?_)
    · intro y0 y1 y2
      unfold orthoepyref03_Scalars.j1
      repeat' first
      | (with_reducible exact ih0 _ _ _)
      | (with_reducible exact ih1 _ _ _)
      | (with_reducible exact LeO.refl _)
      | (with_reducible exact LeO.none _)
      | (with_reducible refine LeO.ite ?_ ?_)
      | (with_reducible refine LeO.bind ?_ (fun _ => ?_))
      | exact ih0 _ _ _
      | exact ih1 _ _ _
      | exact LeO.none _
      | refine LeO.ite ?_ ?_
      | refine LeO.bind ?_ (fun _ => ?_)
theorem orthoepyref03_Scalars.mono : ∀ a0 k, LeO (orthoepyref03_Scalars.f k a0) (orthoepyref03_Scalars.f (k + 1) a0) := by
  intro a0 k
  obtain ⟨ih0, ih1⟩ := orthoepyref03_Scalars.mono_l k
  unfold orthoepyref03_Scalars.f
  repeat' first
      | (with_reducible exact ih0 _ _ _)
      | (with_reducible exact ih1 _ _ _)
      | (with_reducible exact LeO.refl _)
      | (with_reducible exact LeO.none _)
      | (with_reducible refine LeO.ite ?_ ?_)
      | (with_reducible refine LeO.bind ?_ (fun _ => ?_))
      | exact ih0 _ _ _
      | exact ih1 _ _ _
      | exact LeO.none _
      | refine LeO.ite ?_ ?_
      | refine LeO.bind ?_ (fun _ => ?_)
set_option maxHeartbeats 8000000 in
set_option maxRecDepth 100000 in
theorem orthoepyref03_Scalars.calls (k : Nat) (A0 : Option Addr) (c0 : Nat) (l0 : List Int) (r1 : List Int) (r2 : Int) (r3 : Bool) (w : World) (hr0 : Kd.C (Kd.int .u16) w A0 l0.length l0) (hc0 : l0.length ≤ c0) (h : orthoepyref03_Scalars.f k l0 = some (r1, r2, r3)) :
    Calls Try.prog 10 #[.slice A0 l0.length c0] w fun e w' => ∃ v0_ : Value, e = .returned (.tuple #[v0_, .int .i64 r2, .bool r3]) ∧ Kd.R (Kd.int .i32) 21 w' w.heap.size (fun _ => True) v0_ r1 ∧ Below w.heap.size w w' := by
  have HR0 := Aside0.mk hr0
  have HC0 := Aside0.mk hc0
  clear hr0 hc0
  have HB := Aside0.mk (Below.refl w.heap.size w)
  have H : (orthoepyref03_Scalars.l0 k l0 ([] : List Int) 0) = some (r1, r2, r3) := h
  clear h
  have H' := Aside0.mk H
  clear H
  go_enter Try.func10, Try.ntmps10
  go_wp2
  repeat (go_quiet (fail); try go_wp2)
  go_loopg [5, 6] k (fun kq v5 v6 w' => ∃ (x5_1 : List Int) (x6_1 : Int), v6 = .int .i64 x6_1 ∧ Aside0 (orthoepyref03_Scalars.l0 kq l0 x5_1 x6_1 = some (r1, r2, r3)) ∧ Aside0 (kq ≤ k) ∧ Aside0 (Kd.R (Kd.int .i32) 21 w' w.heap.size (fun _ => True) v5 x5_1) ∧ Aside0 (Below w.heap.size w w'))
  case atStart => exact ⟨(([] : List Int)), (0), (by first | rfl | (simp; done) | (simp [*]; done)), H', ⟨Nat.le_refl _⟩, ⟨by first | exact Kd.R_nil _ _ _ _ _ | exact Kd.N_nil _ _ _ _ _ | exact Kd.V_nil _ _ _ _ _ | exact Kd.Q_nil _ _ _ _ _ | exact Kd.S_nil _ _ _ _ _⟩, ⟨by repeat (first | (with_reducible first | exact HB.out | apply below_alloc | apply pw_below_drewN | apply below_drew1) | exact HB.out)⟩⟩
  case round =>
    clear H'
    try clear c1
    obtain ⟨x5_1, x6_1, rfl, HA, HK1, HO_5, HB⟩ := hrel
    cases gk with
    | zero => exact absurd HA.out (by simp [orthoepyref03_Scalars.l0])
    | succ k1 =>
      have H := HA.out
      clear HA
      simp only [orthoepyref03_Scalars.l0] at H
      by_cases c2 : x6_1 < (l0.length : Int)
      · rw [if_pos c2] at H
        have c2b0 : decide (x6_1 < (l0.length : Int)) = true := decide_eq_true c2
        clear c2
        have HC3 := Aside0.mk H
        clear H
        go_upto_if 19 with (fail)
        repeat (go_quiet (fail); go_upto_if 19 with (fail))
        go_cut [5, 6] (fun v5 v6 wc => ∃ (kq : Nat) (x5_2 : List Int) (x6_2 : Int), v6 = .int .i64 x6_2 ∧ Aside0 (orthoepyref03_Scalars.j1 kq l0 x5_2 x6_2 = some (r1, r2, r3)) ∧ Aside0 (kq ≤ k1) ∧ Aside0 (Kd.R (Kd.int .i32) 21 wc w.heap.size (fun _ => True) v5 x5_2) ∧ Aside0 (Below w.heap.size w wc))
        case first =>
          have H := HC3.out
          clear HC3
          by_cases c4 : (wrap64 (x6_1 + 1)) < (l0.length : Int)
          · rw [if_pos c4] at H
            have c4b0 : decide ((wrap64 (x6_1 + 1)) < (l0.length : Int)) = true := decide_eq_true c4
            clear c4
            (first | rw [c4b0] | (simp only [i64_w, i32_w]; rw [c4b0]) | skip)
            by_cases c5 : 0 ≤ x6_1
            · rw [if_pos c5] at H
              have c5b0 : decide (0 ≤ x6_1) = true := decide_eq_true c5
              clear c5
              obtain ⟨ji6, hji6⟩ : ∃ j_ : Int, (wrap64 (x6_1 + 1)) = j_ := ⟨_, rfl⟩
              replace H : (if 0 ≤ (ji6) then ((orthoepyref01_Join.f (rd l0 x6_1) (rd l0 (ji6))).bind fun bt170 => (if bt170.2 = true then (if x5_1.length < 35184372088832 then (orthoepyref03_Scalars.l0 k1 l0 (x5_1 ++ [bt170.1]) (wrap64 ((ji6) + 1))) else (none)) else (orthoepyref03_Scalars.j1 k1 l0 x5_1 x6_1))) else (none)) = some (r1, r2, r3) := by first | (rw [hji6] at H; exact H) | (simp only [hji6] at H ⊢; exact H)
              (try rw [hji6] at c4b0)
              have hji6w : (IntKind.i64.wrap (x6_1 + 1)) = ji6 := (i64_w _).trans hji6
              by_cases c7 : 0 ≤ (ji6)
              · rw [if_pos c7] at H
                have c7b0 : decide (0 ≤ (ji6)) = true := decide_eq_true c7
                clear c7
                replace H := Option.bind_eq_some_iff.mp H
                obtain ⟨⟨t170, t171⟩, A80, H⟩ := H
                replace H : (if t171 = true then (if x5_1.length < 35184372088832 then (orthoepyref03_Scalars.l0 k1 l0 (x5_1 ++ [t170]) (wrap64 ((ji6) + 1))) else (none)) else (orthoepyref03_Scalars.j1 k1 l0 x5_1 x6_1)) = some (r1, r2, r3) := H
                have A8 := Aside0.mk A80
                clear A80
                by_cases c9 : t171 = true
                · subst c9
                  have H1 : (if x5_1.length < 35184372088832 then (orthoepyref03_Scalars.l0 k1 l0 (x5_1 ++ [t170]) (wrap64 ((ji6) + 1))) else (none)) = some (r1, r2, r3) := by rw [if_pos rfl] at H; exact H
                  clear H
                  have H := H1
                  clear H1
                  by_cases c10 : x5_1.length < 35184372088832
                  · rw [if_pos c10] at H
                    have LMc10 := Aside0.mk c10
                    clear c10
                    obtain ⟨y172, hy172⟩ : ∃ y_ : List Int, y_ = (x5_1 ++ [t170]) := ⟨_, rfl⟩
                    replace H : (orthoepyref03_Scalars.l0 k1 l0 y172 (wrap64 ((ji6) + 1))) = some (r1, r2, r3) := by first | (rw [hy172]; with_reducible exact H) | (have H2_ := (Option.bind_some _ _).symm.trans H; rw [hy172]; with_reducible exact H2_) | (have H2_ := (Option.bind_some _ _).symm.trans H; with_reducible exact H2_) | with_reducible exact H | (rw [hy172]; exact H) | exact H
                    have Ny172 := Aside0.mk hy172
                    clear hy172
                    have H' := Aside0.mk H
                    clear H
                    have p168 : 0 ≤ (x6_1 : Int) := of_decide_eq_true (by first | (with_reducible assumption) | assumption)
                    have q168 : x6_1 < (l0.length : Int) := of_decide_eq_true (by first | (with_reducible assumption) | assumption)
                    obtain ⟨ad168, e168, hx168_0⟩ := Kd.at_int HR0.out x6_1 p168 q168
                    cases e168
                    replace hx168_0 := (HB.out.cell (World.block_lt_of_cell? w _ hx168_0)).trans hx168_0
                    replace p168 := eq_true p168
                    replace q168 := eq_true q168
                    have p169 : 0 ≤ ((ji6) : Int) := of_decide_eq_true (by first | (with_reducible assumption) | assumption)
                    have q169 : (ji6) < (l0.length : Int) := of_decide_eq_true (by first | (with_reducible assumption) | assumption)
                    obtain ⟨ad169, e169, hx169_0⟩ := Kd.at_int HR0.out (ji6) p169 q169
                    obtain rfl : ad168 = ad169 := (by injection e169)
                    replace hx169_0 := (HB.out.cell (World.block_lt_of_cell? w _ hx169_0)).trans hx169_0
                    replace p169 := eq_true p169
                    replace q169 := eq_true q169
                    go_wp2_with (first | (go_at_call 26; (with_reducible refine (orthoepyref01_Join.calls (rd l0 x6_1) (rd l0 (ji6)) t170 true _ A8.out).mono ?_); rintro e w' ⟨rfl, ⟨nd, rfl⟩⟩; (try first | exact ⟨rfl, _, World.drewN_drewN _ _ _⟩ | exact ⟨rfl, _, Eq.trans (World.drewN_drewN _ _ _) (congrArg (World.drewN _) (Nat.add_assoc _ _ _))⟩)) | ((with_reducible refine gate_builtin (b := .append) (xs := #[.tmp 34, .tmp 36]) rfl ?_); at_builtin; refine Kd.R_append (Kd.int .i32) (w0 := w) w.heap.size rfl (.tmp 34) (.tmp 36) 22 21 (.int .i32 0) 4 rfl Try.underlying22 info21 rfl (by decide) (by omega) u5 x5_1 t170 [.int .i32 t170] (fun _ => True) (fun _ => False) rfl rfl ?aP (fun _ hk => hk.elim) ?aF ?aO ?aB ?aS ?aL ?_; (case aP => exact rfl); (case aB => exact (by repeat (first | (with_reducible first | exact HB.out | apply below_alloc | apply pw_below_drewN | apply below_drew1) | exact HB.out))); (case aF => exact (fun _ _ => trivial)); (case aO => exact (by (with_reducible repeat (first | apply Kd.R_alloc | apply Kd.R_drewN | apply Kd.R_drew)); exact HO_5.out)); (case aS => exact (below_size (by repeat (first | (with_reducible first | exact HB.out | apply below_alloc | apply pw_below_drewN | apply below_drew1) | exact HB.out)))); (case aL => have := LMc10.out; omega); intro v173 w11 ho hb hg hat; rw [← Ny172.out] at ho; have n0_ := Aside0.mk (hb); have n1_ := Aside0.mk (ho); clear HB; clear HO_5; have HB := n0_; have HO174 := n1_; clear n0_ n1_; clear ho hb hg hat))
                    repeat (go_quiet (first | (go_at_call 26; (with_reducible refine (orthoepyref01_Join.calls (rd l0 x6_1) (rd l0 (ji6)) t170 true _ A8.out).mono ?_); rintro e w' ⟨rfl, ⟨nd, rfl⟩⟩; (try first | exact ⟨rfl, _, World.drewN_drewN _ _ _⟩ | exact ⟨rfl, _, Eq.trans (World.drewN_drewN _ _ _) (congrArg (World.drewN _) (Nat.add_assoc _ _ _))⟩)) | ((with_reducible refine gate_builtin (b := .append) (xs := #[.tmp 34, .tmp 36]) rfl ?_); at_builtin; refine Kd.R_append (Kd.int .i32) (w0 := w) w.heap.size rfl (.tmp 34) (.tmp 36) 22 21 (.int .i32 0) 4 rfl Try.underlying22 info21 rfl (by decide) (by omega) u5 x5_1 t170 [.int .i32 t170] (fun _ => True) (fun _ => False) rfl rfl ?aP (fun _ hk => hk.elim) ?aF ?aO ?aB ?aS ?aL ?_; (case aP => exact rfl); (case aB => exact (by repeat (first | (with_reducible first | exact HB.out | apply below_alloc | apply pw_below_drewN | apply below_drew1) | exact HB.out))); (case aF => exact (fun _ _ => trivial)); (case aO => exact (by (with_reducible repeat (first | apply Kd.R_alloc | apply Kd.R_drewN | apply Kd.R_drew)); exact HO_5.out)); (case aS => exact (below_size (by repeat (first | (with_reducible first | exact HB.out | apply below_alloc | apply pw_below_drewN | apply below_drew1) | exact HB.out)))); (case aL => have := LMc10.out; omega); intro v173 w11 ho hb hg hat; rw [← Ny172.out] at ho; have n0_ := Aside0.mk (hb); have n1_ := Aside0.mk (ho); clear HB; clear HO_5; have HB := n0_; have HO174 := n1_; clear n0_ n1_; clear ho hb hg hat)); try go_wp2_with (first | (go_at_call 26; (with_reducible refine (orthoepyref01_Join.calls (rd l0 x6_1) (rd l0 (ji6)) t170 true _ A8.out).mono ?_); rintro e w' ⟨rfl, ⟨nd, rfl⟩⟩; (try first | exact ⟨rfl, _, World.drewN_drewN _ _ _⟩ | exact ⟨rfl, _, Eq.trans (World.drewN_drewN _ _ _) (congrArg (World.drewN _) (Nat.add_assoc _ _ _))⟩)) | ((with_reducible refine gate_builtin (b := .append) (xs := #[.tmp 34, .tmp 36]) rfl ?_); at_builtin; refine Kd.R_append (Kd.int .i32) (w0 := w) w.heap.size rfl (.tmp 34) (.tmp 36) 22 21 (.int .i32 0) 4 rfl Try.underlying22 info21 rfl (by decide) (by omega) u5 x5_1 t170 [.int .i32 t170] (fun _ => True) (fun _ => False) rfl rfl ?aP (fun _ hk => hk.elim) ?aF ?aO ?aB ?aS ?aL ?_; (case aP => exact rfl); (case aB => exact (by repeat (first | (with_reducible first | exact HB.out | apply below_alloc | apply pw_below_drewN | apply below_drew1) | exact HB.out))); (case aF => exact (fun _ _ => trivial)); (case aO => exact (by (with_reducible repeat (first | apply Kd.R_alloc | apply Kd.R_drewN | apply Kd.R_drew)); exact HO_5.out)); (case aS => exact (below_size (by repeat (first | (with_reducible first | exact HB.out | apply below_alloc | apply pw_below_drewN | apply below_drew1) | exact HB.out)))); (case aL => have := LMc10.out; omega); intro v173 w11 ho hb hg hat; rw [← Ny172.out] at ho; have n0_ := Aside0.mk (hb); have n1_ := Aside0.mk (ho); clear HB; clear HO_5; have HB := n0_; have HO174 := n1_; clear n0_ n1_; clear ho hb hg hat)))
                    go_roundg k1
                    case measure => have := HK1.out; omega
                    case rel => exact ⟨(y172), (wrap64 ((ji6) + 1)), (by first | rfl | (simp; done) | (simp only [← hji6] <;> (first | rfl | simp)) | (simp [*]; done)), H', ⟨by have := HK1.out; omega⟩, ⟨by (with_reducible repeat (first | apply Kd.R_alloc | apply Kd.R_drewN | apply Kd.R_drew)); exact HO174.out⟩, ⟨by repeat (first | (with_reducible first | exact HB.out | apply below_alloc | apply pw_below_drewN | apply below_drew1) | exact HB.out)⟩⟩
                  · rw [if_neg c10] at H
                    exact absurd H (by simp)
                · replace c9 := Bool.eq_false_iff.mpr c9
                  subst c9
                  have H1 : (orthoepyref03_Scalars.j1 k1 l0 x5_1 x6_1) = some (r1, r2, r3) := by rw [if_neg (show ¬ (false = true) by decide)] at H; exact H
                  clear H
                  have H := H1
                  clear H1
                  have H' := Aside0.mk H
                  clear H
                  have p168 : 0 ≤ (x6_1 : Int) := of_decide_eq_true (by first | (with_reducible assumption) | assumption)
                  have q168 : x6_1 < (l0.length : Int) := of_decide_eq_true (by first | (with_reducible assumption) | assumption)
                  obtain ⟨ad168, e168, hx168_0⟩ := Kd.at_int HR0.out x6_1 p168 q168
                  cases e168
                  replace hx168_0 := (HB.out.cell (World.block_lt_of_cell? w _ hx168_0)).trans hx168_0
                  replace p168 := eq_true p168
                  replace q168 := eq_true q168
                  have p169 : 0 ≤ ((ji6) : Int) := of_decide_eq_true (by first | (with_reducible assumption) | assumption)
                  have q169 : (ji6) < (l0.length : Int) := of_decide_eq_true (by first | (with_reducible assumption) | assumption)
                  obtain ⟨ad169, e169, hx169_0⟩ := Kd.at_int HR0.out (ji6) p169 q169
                  obtain rfl : ad168 = ad169 := (by injection e169)
                  replace hx169_0 := (HB.out.cell (World.block_lt_of_cell? w _ hx169_0)).trans hx169_0
                  replace p169 := eq_true p169
                  replace q169 := eq_true q169
                  go_wp2_with (first | (go_at_call 26; (with_reducible refine (orthoepyref01_Join.calls (rd l0 x6_1) (rd l0 (ji6)) t170 false _ A8.out).mono ?_); rintro e w' ⟨rfl, ⟨nd, rfl⟩⟩; (try first | exact ⟨rfl, _, World.drewN_drewN _ _ _⟩ | exact ⟨rfl, _, Eq.trans (World.drewN_drewN _ _ _) (congrArg (World.drewN _) (Nat.add_assoc _ _ _))⟩)))
                  repeat (go_quiet (first | (go_at_call 26; (with_reducible refine (orthoepyref01_Join.calls (rd l0 x6_1) (rd l0 (ji6)) t170 false _ A8.out).mono ?_); rintro e w' ⟨rfl, ⟨nd, rfl⟩⟩; (try first | exact ⟨rfl, _, World.drewN_drewN _ _ _⟩ | exact ⟨rfl, _, Eq.trans (World.drewN_drewN _ _ _) (congrArg (World.drewN _) (Nat.add_assoc _ _ _))⟩))); try go_wp2_with (first | (go_at_call 26; (with_reducible refine (orthoepyref01_Join.calls (rd l0 x6_1) (rd l0 (ji6)) t170 false _ A8.out).mono ?_); rintro e w' ⟨rfl, ⟨nd, rfl⟩⟩; (try first | exact ⟨rfl, _, World.drewN_drewN _ _ _⟩ | exact ⟨rfl, _, Eq.trans (World.drewN_drewN _ _ _) (congrArg (World.drewN _) (Nat.add_assoc _ _ _))⟩))))
                  go_meet
                  case rel => exact ⟨_, (x5_1), (x6_1), (by first | rfl | (simp; done) | (simp [*]; done)), H', ⟨by have := HK1.out; first | omega | exact Nat.le_refl _⟩, ⟨by (with_reducible repeat (first | apply Kd.R_alloc | apply Kd.R_drewN | apply Kd.R_drew)); exact HO_5.out⟩, ⟨by repeat (first | (with_reducible first | exact HB.out | apply below_alloc | apply pw_below_drewN | apply below_drew1) | exact HB.out)⟩⟩
              · rw [if_neg c7] at H
                exact absurd H (by simp)
            · rw [if_neg c5] at H
              exact absurd H (by simp)
          · rw [if_neg c4] at H
            have c4b0 : decide ((wrap64 (x6_1 + 1)) < (l0.length : Int)) = false := decide_eq_false c4
            clear c4
            (first | rw [c4b0] | (simp only [i64_w, i32_w]; rw [c4b0]) | skip)
            have H' := Aside0.mk H
            clear H
            go_wp2
            repeat (go_quiet (fail); try go_wp2)
            go_meet
            case rel => exact ⟨_, (x5_1), (x6_1), (by first | rfl | (simp; done) | (simp [*]; done)), H', ⟨by have := HK1.out; first | omega | exact Nat.le_refl _⟩, ⟨by (with_reducible repeat (first | apply Kd.R_alloc | apply Kd.R_drewN | apply Kd.R_drew)); exact HO_5.out⟩, ⟨by repeat (first | (with_reducible first | exact HB.out | apply below_alloc | apply pw_below_drewN | apply below_drew1) | exact HB.out)⟩⟩
        case rest =>
          clear HC3
          try clear c1
          try clear p1
          try clear q1
          try clear hx1
          try clear c2
          try clear c2b0
          try clear p2
          try clear c4
          try clear c4b0
          try clear c5
          try clear c5b0
          try clear p6
          try clear c7
          try clear c7b0
          try clear c9
          try clear c10
          try clear hx168_0
          try clear hx169_0
          try clear p168
          try clear p169
          try clear q168
          try clear q169
          obtain ⟨kq, x5_2, x6_2, rfl, HA, HJ2, HO_5, HB⟩ := hcut
          cases kq with
          | zero => exact absurd HA.out (by simp [orthoepyref03_Scalars.j1])
          | succ kj2 =>
            have H := HA.out
            clear HA
            simp only [orthoepyref03_Scalars.j1] at H
            by_cases c12 : 0 ≤ x6_2
            · rw [if_pos c12] at H
              have c12b0 : decide (0 ≤ x6_2) = true := decide_eq_true c12
              clear c12
              by_cases c13 : x6_2 < (l0.length : Int)
              · rw [if_pos c13] at H
                have c13b0 : decide (x6_2 < (l0.length : Int)) = true := decide_eq_true c13
                clear c13
                replace H := Option.bind_eq_some_iff.mp H
                obtain ⟨t176, A140, H⟩ := H
                replace H : (if t176 = true then (some (([] : List Int), x6_2, false)) else ((orthoepyref01_Low.f (rd l0 x6_2)).bind fun t178 => (if t178 = true then (some (([] : List Int), x6_2, false)) else (if x5_2.length < 35184372088832 then (orthoepyref03_Scalars.l0 kj2 l0 (x5_2 ++ [wrap32 (rd l0 x6_2)]) (wrap64 (x6_2 + 1))) else (none))))) = some (r1, r2, r3) := H
                have A14 := Aside0.mk A140
                clear A140
                by_cases c15 : t176 = true
                · subst c15
                  have H1 : (some (([] : List Int), x6_2, false)) = some (r1, r2, r3) := by rw [if_pos rfl] at H; exact H
                  clear H
                  have H := H1
                  clear H1
                  simp only [Option.some.injEq, Prod.mk.injEq] at H
                  obtain ⟨rfl, rfl, rfl⟩ := H
                  have p175 : 0 ≤ (x6_2 : Int) := of_decide_eq_true (by first | (with_reducible assumption) | assumption)
                  have q175 : x6_2 < (l0.length : Int) := of_decide_eq_true (by first | (with_reducible assumption) | assumption)
                  obtain ⟨ad175, e175, hx175_0⟩ := Kd.at_int HR0.out x6_2 p175 q175
                  cases e175
                  replace hx175_0 := (HB.out.cell (World.block_lt_of_cell? w _ hx175_0)).trans hx175_0
                  replace p175 := eq_true p175
                  replace q175 := eq_true q175
                  go_wp2_with (first | (go_at_call 27; (with_reducible refine (orthoepyref01_High.calls (rd l0 x6_2) true _ A14.out).mono ?_); rintro e w' ⟨rfl, ⟨nd, rfl⟩⟩; (try first | exact ⟨rfl, _, World.drewN_drewN _ _ _⟩ | exact ⟨rfl, _, Eq.trans (World.drewN_drewN _ _ _) (congrArg (World.drewN _) (Nat.add_assoc _ _ _))⟩)))
                  repeat (go_quiet (first | (go_at_call 27; (with_reducible refine (orthoepyref01_High.calls (rd l0 x6_2) true _ A14.out).mono ?_); rintro e w' ⟨rfl, ⟨nd, rfl⟩⟩; (try first | exact ⟨rfl, _, World.drewN_drewN _ _ _⟩ | exact ⟨rfl, _, Eq.trans (World.drewN_drewN _ _ _) (congrArg (World.drewN _) (Nat.add_assoc _ _ _))⟩))); try go_wp2_with (first | (go_at_call 27; (with_reducible refine (orthoepyref01_High.calls (rd l0 x6_2) true _ A14.out).mono ?_); rintro e w' ⟨rfl, ⟨nd, rfl⟩⟩; (try first | exact ⟨rfl, _, World.drewN_drewN _ _ _⟩ | exact ⟨rfl, _, Eq.trans (World.drewN_drewN _ _ _) (congrArg (World.drewN _) (Nat.add_assoc _ _ _))⟩))))
                  go_ret3
                  exact ⟨_, by first | rfl | (simp [errW_none, errW_some] <;> rfl) | (simp [*, errW_none, errW_some] <;> rfl), by first | exact Kd.R_nil _ _ _ _ _ | exact Kd.N_nil _ _ _ _ _ | exact Kd.V_nil _ _ _ _ _ | exact Kd.Q_nil _ _ _ _ _ | exact Kd.S_nil _ _ _ _ _, by repeat (first | (with_reducible first | exact HB.out | apply below_alloc | apply pw_below_drewN | apply below_drew1) | exact HB.out)⟩
                · replace c15 := Bool.eq_false_iff.mpr c15
                  subst c15
                  have H1 : ((orthoepyref01_Low.f (rd l0 x6_2)).bind fun t178 => (if t178 = true then (some (([] : List Int), x6_2, false)) else (if x5_2.length < 35184372088832 then (orthoepyref03_Scalars.l0 kj2 l0 (x5_2 ++ [wrap32 (rd l0 x6_2)]) (wrap64 (x6_2 + 1))) else (none)))) = some (r1, r2, r3) := by rw [if_neg (show ¬ (false = true) by decide)] at H; exact H
                  clear H
                  have H := H1
                  clear H1
                  replace H := Option.bind_eq_some_iff.mp H
                  obtain ⟨t178, A160, H⟩ := H
                  replace H : (if t178 = true then (some (([] : List Int), x6_2, false)) else (if x5_2.length < 35184372088832 then (orthoepyref03_Scalars.l0 kj2 l0 (x5_2 ++ [wrap32 (rd l0 x6_2)]) (wrap64 (x6_2 + 1))) else (none))) = some (r1, r2, r3) := H
                  have A16 := Aside0.mk A160
                  clear A160
                  by_cases c17 : t178 = true
                  · subst c17
                    have H1 : (some (([] : List Int), x6_2, false)) = some (r1, r2, r3) := by rw [if_pos rfl] at H; exact H
                    clear H
                    have H := H1
                    clear H1
                    simp only [Option.some.injEq, Prod.mk.injEq] at H
                    obtain ⟨rfl, rfl, rfl⟩ := H
                    have p175 : 0 ≤ (x6_2 : Int) := of_decide_eq_true (by first | (with_reducible assumption) | assumption)
                    have q175 : x6_2 < (l0.length : Int) := of_decide_eq_true (by first | (with_reducible assumption) | assumption)
                    obtain ⟨ad175, e175, hx175_0⟩ := Kd.at_int HR0.out x6_2 p175 q175
                    cases e175
                    replace hx175_0 := (HB.out.cell (World.block_lt_of_cell? w _ hx175_0)).trans hx175_0
                    replace p175 := eq_true p175
                    replace q175 := eq_true q175
                    go_wp2_with (first | (go_at_call 27; (with_reducible refine (orthoepyref01_High.calls (rd l0 x6_2) false _ A14.out).mono ?_); rintro e w' ⟨rfl, ⟨nd, rfl⟩⟩; (try first | exact ⟨rfl, _, World.drewN_drewN _ _ _⟩ | exact ⟨rfl, _, Eq.trans (World.drewN_drewN _ _ _) (congrArg (World.drewN _) (Nat.add_assoc _ _ _))⟩); have p177 : 0 ≤ (x6_2 : Int) := of_decide_eq_true (by first | (with_reducible assumption) | assumption); have q177 : x6_2 < (l0.length : Int) := of_decide_eq_true (by first | (with_reducible assumption) | assumption); obtain ⟨ad177, e177, hx177_0⟩ := Kd.at_int HR0.out x6_2 p177 q177; obtain rfl : ad175 = ad177 := (by injection e177); replace hx177_0 := (HB.out.cell (World.block_lt_of_cell? w _ hx177_0)).trans hx177_0; replace p177 := eq_true p177; replace q177 := eq_true q177) | (go_at_call 28; (with_reducible refine (orthoepyref01_Low.calls (rd l0 x6_2) true _ A16.out).mono ?_); rintro e w' ⟨rfl, ⟨nd, rfl⟩⟩; (try first | exact ⟨rfl, _, World.drewN_drewN _ _ _⟩ | exact ⟨rfl, _, Eq.trans (World.drewN_drewN _ _ _) (congrArg (World.drewN _) (Nat.add_assoc _ _ _))⟩)))
                    repeat (go_quiet (first | (go_at_call 27; (with_reducible refine (orthoepyref01_High.calls (rd l0 x6_2) false _ A14.out).mono ?_); rintro e w' ⟨rfl, ⟨nd, rfl⟩⟩; (try first | exact ⟨rfl, _, World.drewN_drewN _ _ _⟩ | exact ⟨rfl, _, Eq.trans (World.drewN_drewN _ _ _) (congrArg (World.drewN _) (Nat.add_assoc _ _ _))⟩); have p177 : 0 ≤ (x6_2 : Int) := of_decide_eq_true (by first | (with_reducible assumption) | assumption); have q177 : x6_2 < (l0.length : Int) := of_decide_eq_true (by first | (with_reducible assumption) | assumption); obtain ⟨ad177, e177, hx177_0⟩ := Kd.at_int HR0.out x6_2 p177 q177; obtain rfl : ad175 = ad177 := (by injection e177); replace hx177_0 := (HB.out.cell (World.block_lt_of_cell? w _ hx177_0)).trans hx177_0; replace p177 := eq_true p177; replace q177 := eq_true q177) | (go_at_call 28; (with_reducible refine (orthoepyref01_Low.calls (rd l0 x6_2) true _ A16.out).mono ?_); rintro e w' ⟨rfl, ⟨nd, rfl⟩⟩; (try first | exact ⟨rfl, _, World.drewN_drewN _ _ _⟩ | exact ⟨rfl, _, Eq.trans (World.drewN_drewN _ _ _) (congrArg (World.drewN _) (Nat.add_assoc _ _ _))⟩))); try go_wp2_with (first | (go_at_call 27; (with_reducible refine (orthoepyref01_High.calls (rd l0 x6_2) false _ A14.out).mono ?_); rintro e w' ⟨rfl, ⟨nd, rfl⟩⟩; (try first | exact ⟨rfl, _, World.drewN_drewN _ _ _⟩ | exact ⟨rfl, _, Eq.trans (World.drewN_drewN _ _ _) (congrArg (World.drewN _) (Nat.add_assoc _ _ _))⟩); have p177 : 0 ≤ (x6_2 : Int) := of_decide_eq_true (by first | (with_reducible assumption) | assumption); have q177 : x6_2 < (l0.length : Int) := of_decide_eq_true (by first | (with_reducible assumption) | assumption); obtain ⟨ad177, e177, hx177_0⟩ := Kd.at_int HR0.out x6_2 p177 q177; obtain rfl : ad175 = ad177 := (by injection e177); replace hx177_0 := (HB.out.cell (World.block_lt_of_cell? w _ hx177_0)).trans hx177_0; replace p177 := eq_true p177; replace q177 := eq_true q177) | (go_at_call 28; (with_reducible refine (orthoepyref01_Low.calls (rd l0 x6_2) true _ A16.out).mono ?_); rintro e w' ⟨rfl, ⟨nd, rfl⟩⟩; (try first | exact ⟨rfl, _, World.drewN_drewN _ _ _⟩ | exact ⟨rfl, _, Eq.trans (World.drewN_drewN _ _ _) (congrArg (World.drewN _) (Nat.add_assoc _ _ _))⟩))))
                    go_ret3
                    exact ⟨_, by first | rfl | (simp [errW_none, errW_some] <;> rfl) | (simp [*, errW_none, errW_some] <;> rfl), by first | exact Kd.R_nil _ _ _ _ _ | exact Kd.N_nil _ _ _ _ _ | exact Kd.V_nil _ _ _ _ _ | exact Kd.Q_nil _ _ _ _ _ | exact Kd.S_nil _ _ _ _ _, by repeat (first | (with_reducible first | exact HB.out | apply below_alloc | apply pw_below_drewN | apply below_drew1) | exact HB.out)⟩
                  · replace c17 := Bool.eq_false_iff.mpr c17
                    subst c17
                    have H1 : (if x5_2.length < 35184372088832 then (orthoepyref03_Scalars.l0 kj2 l0 (x5_2 ++ [wrap32 (rd l0 x6_2)]) (wrap64 (x6_2 + 1))) else (none)) = some (r1, r2, r3) := by rw [if_neg (show ¬ (false = true) by decide)] at H; exact H
                    clear H
                    have H := H1
                    clear H1
                    by_cases c18 : x5_2.length < 35184372088832
                    · rw [if_pos c18] at H
                      have LMc18 := Aside0.mk c18
                      clear c18
                      obtain ⟨y180, hy180⟩ : ∃ y_ : List Int, y_ = (x5_2 ++ [wrap32 (rd l0 x6_2)]) := ⟨_, rfl⟩
                      replace H : (orthoepyref03_Scalars.l0 kj2 l0 y180 (wrap64 (x6_2 + 1))) = some (r1, r2, r3) := by first | (rw [hy180]; with_reducible exact H) | (have H2_ := (Option.bind_some _ _).symm.trans H; rw [hy180]; with_reducible exact H2_) | (have H2_ := (Option.bind_some _ _).symm.trans H; with_reducible exact H2_) | with_reducible exact H | (rw [hy180]; exact H) | exact H
                      have Ny180 := Aside0.mk hy180
                      clear hy180
                      have H' := Aside0.mk H
                      clear H
                      have p175 : 0 ≤ (x6_2 : Int) := of_decide_eq_true (by first | (with_reducible assumption) | assumption)
                      have q175 : x6_2 < (l0.length : Int) := of_decide_eq_true (by first | (with_reducible assumption) | assumption)
                      obtain ⟨ad175, e175, hx175_0⟩ := Kd.at_int HR0.out x6_2 p175 q175
                      cases e175
                      replace hx175_0 := (HB.out.cell (World.block_lt_of_cell? w _ hx175_0)).trans hx175_0
                      replace p175 := eq_true p175
                      replace q175 := eq_true q175
                      go_wp2_with (first | (go_at_call 27; (with_reducible refine (orthoepyref01_High.calls (rd l0 x6_2) false _ A14.out).mono ?_); rintro e w' ⟨rfl, ⟨nd, rfl⟩⟩; (try first | exact ⟨rfl, _, World.drewN_drewN _ _ _⟩ | exact ⟨rfl, _, Eq.trans (World.drewN_drewN _ _ _) (congrArg (World.drewN _) (Nat.add_assoc _ _ _))⟩); have p177 : 0 ≤ (x6_2 : Int) := of_decide_eq_true (by first | (with_reducible assumption) | assumption); have q177 : x6_2 < (l0.length : Int) := of_decide_eq_true (by first | (with_reducible assumption) | assumption); obtain ⟨ad177, e177, hx177_0⟩ := Kd.at_int HR0.out x6_2 p177 q177; obtain rfl : ad175 = ad177 := (by injection e177); replace hx177_0 := (HB.out.cell (World.block_lt_of_cell? w _ hx177_0)).trans hx177_0; replace p177 := eq_true p177; replace q177 := eq_true q177) | (go_at_call 28; (with_reducible refine (orthoepyref01_Low.calls (rd l0 x6_2) false _ A16.out).mono ?_); rintro e w' ⟨rfl, ⟨nd, rfl⟩⟩; (try first | exact ⟨rfl, _, World.drewN_drewN _ _ _⟩ | exact ⟨rfl, _, Eq.trans (World.drewN_drewN _ _ _) (congrArg (World.drewN _) (Nat.add_assoc _ _ _))⟩); have p179 : 0 ≤ (x6_2 : Int) := of_decide_eq_true (by first | (with_reducible assumption) | assumption); have q179 : x6_2 < (l0.length : Int) := of_decide_eq_true (by first | (with_reducible assumption) | assumption); obtain ⟨ad179, e179, hx179_0⟩ := Kd.at_int HR0.out x6_2 p179 q179; obtain rfl : ad175 = ad179 := (by injection e179); replace hx179_0 := (HB.out.cell (World.block_lt_of_cell? w _ hx179_0)).trans hx179_0; replace p179 := eq_true p179; replace q179 := eq_true q179) | ((with_reducible refine gate_builtin (b := .append) (xs := #[.tmp 53, .tmp 59]) rfl ?_); at_builtin; refine Kd.R_append (Kd.int .i32) (w0 := w) w.heap.size rfl (.tmp 53) (.tmp 59) 22 21 (.int .i32 0) 4 rfl Try.underlying22 info21 rfl (by decide) (by omega) u5 x5_2 (wrap32 (rd l0 x6_2)) [.int .i32 (wrap32 (rd l0 x6_2))] (fun _ => True) (fun _ => False) rfl rfl ?aP (fun _ hk => hk.elim) ?aF ?aO ?aB ?aS ?aL ?_; (case aP => exact rfl); (case aB => exact (by repeat (first | (with_reducible first | exact HB.out | apply below_alloc | apply pw_below_drewN | apply below_drew1) | exact HB.out))); (case aF => exact (fun _ _ => trivial)); (case aO => exact (by (with_reducible repeat (first | apply Kd.R_alloc | apply Kd.R_drewN | apply Kd.R_drew)); exact HO_5.out)); (case aS => exact (below_size (by repeat (first | (with_reducible first | exact HB.out | apply below_alloc | apply pw_below_drewN | apply below_drew1) | exact HB.out)))); (case aL => have := LMc18.out; omega); intro v181 w19 ho hb hg hat; rw [← Ny180.out] at ho; have n0_ := Aside0.mk (hb); have n1_ := Aside0.mk (ho); clear HB; clear HO_5; have HB := n0_; have HO182 := n1_; clear n0_ n1_; clear ho hb hg hat))
                      repeat (go_quiet (first | (go_at_call 27; (with_reducible refine (orthoepyref01_High.calls (rd l0 x6_2) false _ A14.out).mono ?_); rintro e w' ⟨rfl, ⟨nd, rfl⟩⟩; (try first | exact ⟨rfl, _, World.drewN_drewN _ _ _⟩ | exact ⟨rfl, _, Eq.trans (World.drewN_drewN _ _ _) (congrArg (World.drewN _) (Nat.add_assoc _ _ _))⟩); have p177 : 0 ≤ (x6_2 : Int) := of_decide_eq_true (by first | (with_reducible assumption) | assumption); have q177 : x6_2 < (l0.length : Int) := of_decide_eq_true (by first | (with_reducible assumption) | assumption); obtain ⟨ad177, e177, hx177_0⟩ := Kd.at_int HR0.out x6_2 p177 q177; obtain rfl : ad175 = ad177 := (by injection e177); replace hx177_0 := (HB.out.cell (World.block_lt_of_cell? w _ hx177_0)).trans hx177_0; replace p177 := eq_true p177; replace q177 := eq_true q177) | (go_at_call 28; (with_reducible refine (orthoepyref01_Low.calls (rd l0 x6_2) false _ A16.out).mono ?_); rintro e w' ⟨rfl, ⟨nd, rfl⟩⟩; (try first | exact ⟨rfl, _, World.drewN_drewN _ _ _⟩ | exact ⟨rfl, _, Eq.trans (World.drewN_drewN _ _ _) (congrArg (World.drewN _) (Nat.add_assoc _ _ _))⟩); have p179 : 0 ≤ (x6_2 : Int) := of_decide_eq_true (by first | (with_reducible assumption) | assumption); have q179 : x6_2 < (l0.length : Int) := of_decide_eq_true (by first | (with_reducible assumption) | assumption); obtain ⟨ad179, e179, hx179_0⟩ := Kd.at_int HR0.out x6_2 p179 q179; obtain rfl : ad175 = ad179 := (by injection e179); replace hx179_0 := (HB.out.cell (World.block_lt_of_cell? w _ hx179_0)).trans hx179_0; replace p179 := eq_true p179; replace q179 := eq_true q179) | ((with_reducible refine gate_builtin (b := .append) (xs := #[.tmp 53, .tmp 59]) rfl ?_); at_builtin; refine Kd.R_append (Kd.int .i32) (w0 := w) w.heap.size rfl (.tmp 53) (.tmp 59) 22 21 (.int .i32 0) 4 rfl Try.underlying22 info21 rfl (by decide) (by omega) u5 x5_2 (wrap32 (rd l0 x6_2)) [.int .i32 (wrap32 (rd l0 x6_2))] (fun _ => True) (fun _ => False) rfl rfl ?aP (fun _ hk => hk.elim) ?aF ?aO ?aB ?aS ?aL ?_; (case aP => exact rfl); (case aB => exact (by repeat (first | (with_reducible first | exact HB.out | apply below_alloc | apply pw_below_drewN | apply below_drew1) | exact HB.out))); (case aF => exact (fun _ _ => trivial)); (case aO => exact (by (with_reducible repeat (first | apply Kd.R_alloc | apply Kd.R_drewN | apply Kd.R_drew)); exact HO_5.out)); (case aS => exact (below_size (by repeat (first | (with_reducible first | exact HB.out | apply below_alloc | apply pw_below_drewN | apply below_drew1) | exact HB.out)))); (case aL => have := LMc18.out; omega); intro v181 w19 ho hb hg hat; rw [← Ny180.out] at ho; have n0_ := Aside0.mk (hb); have n1_ := Aside0.mk (ho); clear HB; clear HO_5; have HB := n0_; have HO182 := n1_; clear n0_ n1_; clear ho hb hg hat)); try go_wp2_with (first | (go_at_call 27; (with_reducible refine (orthoepyref01_High.calls (rd l0 x6_2) false _ A14.out).mono ?_); rintro e w' ⟨rfl, ⟨nd, rfl⟩⟩; (try first | exact ⟨rfl, _, World.drewN_drewN _ _ _⟩ | exact ⟨rfl, _, Eq.trans (World.drewN_drewN _ _ _) (congrArg (World.drewN _) (Nat.add_assoc _ _ _))⟩); have p177 : 0 ≤ (x6_2 : Int) := of_decide_eq_true (by first | (with_reducible assumption) | assumption); have q177 : x6_2 < (l0.length : Int) := of_decide_eq_true (by first | (with_reducible assumption) | assumption); obtain ⟨ad177, e177, hx177_0⟩ := Kd.at_int HR0.out x6_2 p177 q177; obtain rfl : ad175 = ad177 := (by injection e177); replace hx177_0 := (HB.out.cell (World.block_lt_of_cell? w _ hx177_0)).trans hx177_0; replace p177 := eq_true p177; replace q177 := eq_true q177) | (go_at_call 28; (with_reducible refine (orthoepyref01_Low.calls (rd l0 x6_2) false _ A16.out).mono ?_); rintro e w' ⟨rfl, ⟨nd, rfl⟩⟩; (try first | exact ⟨rfl, _, World.drewN_drewN _ _ _⟩ | exact ⟨rfl, _, Eq.trans (World.drewN_drewN _ _ _) (congrArg (World.drewN _) (Nat.add_assoc _ _ _))⟩); have p179 : 0 ≤ (x6_2 : Int) := of_decide_eq_true (by first | (with_reducible assumption) | assumption); have q179 : x6_2 < (l0.length : Int) := of_decide_eq_true (by first | (with_reducible assumption) | assumption); obtain ⟨ad179, e179, hx179_0⟩ := Kd.at_int HR0.out x6_2 p179 q179; obtain rfl : ad175 = ad179 := (by injection e179); replace hx179_0 := (HB.out.cell (World.block_lt_of_cell? w _ hx179_0)).trans hx179_0; replace p179 := eq_true p179; replace q179 := eq_true q179) | ((with_reducible refine gate_builtin (b := .append) (xs := #[.tmp 53, .tmp 59]) rfl ?_); at_builtin; refine Kd.R_append (Kd.int .i32) (w0 := w) w.heap.size rfl (.tmp 53) (.tmp 59) 22 21 (.int .i32 0) 4 rfl Try.underlying22 info21 rfl (by decide) (by omega) u5 x5_2 (wrap32 (rd l0 x6_2)) [.int .i32 (wrap32 (rd l0 x6_2))] (fun _ => True) (fun _ => False) rfl rfl ?aP (fun _ hk => hk.elim) ?aF ?aO ?aB ?aS ?aL ?_; (case aP => exact rfl); (case aB => exact (by repeat (first | (with_reducible first | exact HB.out | apply below_alloc | apply pw_below_drewN | apply below_drew1) | exact HB.out))); (case aF => exact (fun _ _ => trivial)); (case aO => exact (by (with_reducible repeat (first | apply Kd.R_alloc | apply Kd.R_drewN | apply Kd.R_drew)); exact HO_5.out)); (case aS => exact (below_size (by repeat (first | (with_reducible first | exact HB.out | apply below_alloc | apply pw_below_drewN | apply below_drew1) | exact HB.out)))); (case aL => have := LMc18.out; omega); intro v181 w19 ho hb hg hat; rw [← Ny180.out] at ho; have n0_ := Aside0.mk (hb); have n1_ := Aside0.mk (ho); clear HB; clear HO_5; have HB := n0_; have HO182 := n1_; clear n0_ n1_; clear ho hb hg hat)))
                      go_roundg kj2
                      case measure => have := HK1.out; have := HJ2.out; omega
                      case rel => exact ⟨(y180), (wrap64 (x6_2 + 1)), (by first | rfl | (simp; done) | (simp [*]; done)), H', ⟨by have := HK1.out; have := HJ2.out; omega⟩, ⟨by (with_reducible repeat (first | apply Kd.R_alloc | apply Kd.R_drewN | apply Kd.R_drew)); exact HO182.out⟩, ⟨by repeat (first | (with_reducible first | exact HB.out | apply below_alloc | apply pw_below_drewN | apply below_drew1) | exact HB.out)⟩⟩
                    · rw [if_neg c18] at H
                      exact absurd H (by simp)
              · rw [if_neg c13] at H
                exact absurd H (by simp)
            · rw [if_neg c12] at H
              exact absurd H (by simp)
      · rw [if_neg c2] at H
        have c2b0 : decide (x6_1 < (l0.length : Int)) = false := decide_eq_false c2
        clear c2
        simp only [Option.some.injEq, Prod.mk.injEq] at H
        obtain ⟨rfl, rfl, rfl⟩ := H
        go_wp2
        repeat (go_quiet (fail); try go_wp2)
        go_ret3
        exact ⟨_, by first | rfl | (simp [errW_none, errW_some] <;> rfl) | (simp [*, errW_none, errW_some] <;> rfl), by (with_reducible repeat (first | apply Kd.R_alloc | apply Kd.R_drewN | apply Kd.R_drew)); exact HO_5.out, by repeat (first | (with_reducible first | exact HB.out | apply below_alloc | apply pw_below_drewN | apply below_drew1) | exact HB.out)⟩

/-! ### orthoepylaw03_same: function 11 -/
def orthoepylaw03_same.l0 : Nat → List Int → List Int → Int → Option (Bool)
  | 0, _, _, _ => none
  | k + 1, x0, x1, x5 => if x5 < (x0.length : Int) then (if 0 ≤ x5 then (if x5 < (x1.length : Int) then (if (rd x0 x5) = (rd x1 x5) then (orthoepylaw03_same.l0 k x0 x1 (wrap64 (x5 + 1))) else (some false)) else (none)) else (none)) else (some true)
def orthoepylaw03_same.f (k : Nat) (l0 : List Int) (l1 : List Int) : Option (Bool) := if (l0.length : Int) = (l1.length : Int) then (orthoepylaw03_same.l0 k l0 l1 0) else (some false)
theorem orthoepylaw03_same.mono_l : ∀ k, (∀ y0 y1 y2, LeO (orthoepylaw03_same.l0 k y0 y1 y2) (orthoepylaw03_same.l0 (k + 1) y0 y1 y2))
  | 0 => fun _ _ _ r h => by simp [orthoepylaw03_same.l0] at h
  | k + 1 => by
    have ih0 := orthoepylaw03_same.mono_l k
    · intro y0 y1 y2
      unfold orthoepylaw03_same.l0
      repeat' first
      | (with_reducible exact ih0 _ _ _)
      | (with_reducible exact LeO.refl _)
      | (with_reducible exact LeO.none _)
      | (with_reducible refine LeO.ite ?_ ?_)
      | (with_reducible refine LeO.bind ?_ (fun _ => ?_))
      | exact ih0 _ _ _
      | exact LeO.none _
      | refine LeO.ite ?_ ?_
      | refine LeO.bind ?_ (fun _ => ?_)
theorem orthoepylaw03_same.mono : ∀ a0 a1 k, LeO (orthoepylaw03_same.f k a0 a1) (orthoepylaw03_same.f (k + 1) a0 a1) := by
  intro a0 a1 k
  have ih0 := orthoepylaw03_same.mono_l k
  unfold orthoepylaw03_same.f
  repeat' first
      | (with_reducible exact ih0 _ _ _)
      | (with_reducible exact LeO.refl _)
      | (with_reducible exact LeO.none _)
      | (with_reducible refine LeO.ite ?_ ?_)
      | (with_reducible refine LeO.bind ?_ (fun _ => ?_))
      | exact ih0 _ _ _
      | exact LeO.none _
      | refine LeO.ite ?_ ?_
      | refine LeO.bind ?_ (fun _ => ?_)
set_option maxHeartbeats 8000000 in
set_option maxRecDepth 100000 in
theorem orthoepylaw03_same.calls (k : Nat) (A0 : Option Addr) (c0 : Nat) (l0 : List Int) (A1 : Option Addr) (c1 : Nat) (l1 : List Int) (r : Bool) (w : World) (hr0 : Kd.C (Kd.int .u16) w A0 l0.length l0) (hc0 : l0.length ≤ c0) (hr1 : Kd.C (Kd.int .u16) w A1 l1.length l1) (hc1 : l1.length ≤ c1) (h : orthoepylaw03_same.f k l0 l1 = some r) :
    Calls Try.prog 11 #[.slice A0 l0.length c0, .slice A1 l1.length c1] w fun e w' => e = .returned (.bool r) ∧ Drawn0 w w' := by
  have HR0 := Aside0.mk hr0
  have HC0 := Aside0.mk hc0
  clear hr0 hc0
  have HR1 := Aside0.mk hr1
  have HC1 := Aside0.mk hc1
  clear hr1 hc1
  have H : (if (l0.length : Int) = (l1.length : Int) then (orthoepylaw03_same.l0 k l0 l1 0) else (some false)) = some r := h
  clear h
  by_cases c3 : (l0.length : Int) = (l1.length : Int)
  · rw [if_pos c3] at H
    have c3b0 : ((l0.length : Int) == (l1.length : Int)) = true := beq_iff_eq.mpr c3
    have c3b1 : ((l0.length : Int) != (l1.length : Int)) = false := bne_eq_false_iff_eq.mpr c3
    have c3b2 : (l0.length == l1.length) = true := by first | simpa using c3 | (simp at c3 ⊢; omega)
    clear c3
    have H' := Aside0.mk H
    clear H
    go_enter Try.func11, Try.ntmps11
    go_wp2
    repeat (go_quiet (fail); try go_wp2)
    go_loopg [5] k (fun kq v5 w' => ∃ (x5_1 : Int), v5 = .int .i64 x5_1 ∧ Aside0 (orthoepylaw03_same.l0 kq l0 l1 x5_1 = some r) ∧ Aside0 (kq ≤ k) ∧ Drawn0 w w')
    case atStart => exact ⟨(0), (by first | rfl | (simp; done) | (simp [*]; done)), H', ⟨Nat.le_refl _⟩, by repeat (first | exact Drawn0.refl _ | apply Drawn0.step)⟩
    case round =>
      clear H'
      try clear c1
      try clear p2
      try clear c3
      try clear c3b0
      try clear c3b1
      try clear c3b2
      obtain ⟨x5_1, rfl, HA, HK1, ⟨m1, rfl⟩⟩ := hrel
      cases gk with
      | zero => exact absurd HA.out (by simp [orthoepylaw03_same.l0])
      | succ k1 =>
        have H := HA.out
        clear HA
        simp only [orthoepylaw03_same.l0] at H
        by_cases c4 : x5_1 < (l0.length : Int)
        · rw [if_pos c4] at H
          have c4b0 : decide (x5_1 < (l0.length : Int)) = true := decide_eq_true c4
          clear c4
          by_cases c5 : 0 ≤ x5_1
          · rw [if_pos c5] at H
            have c5b0 : decide (0 ≤ x5_1) = true := decide_eq_true c5
            clear c5
            by_cases c6 : x5_1 < (l1.length : Int)
            · rw [if_pos c6] at H
              have c6b0 : decide (x5_1 < (l1.length : Int)) = true := decide_eq_true c6
              clear c6
              by_cases c7 : (rd l0 x5_1) = (rd l1 x5_1)
              · rw [if_pos c7] at H
                have c7b0 : ((rd l0 x5_1) == (rd l1 x5_1)) = true := beq_iff_eq.mpr c7
                have c7b1 : ((rd l0 x5_1) != (rd l1 x5_1)) = false := bne_eq_false_iff_eq.mpr c7
                clear c7
                have H' := Aside0.mk H
                clear H
                have p183 : 0 ≤ (x5_1 : Int) := of_decide_eq_true (by first | (with_reducible assumption) | assumption)
                have q183 : x5_1 < (l0.length : Int) := of_decide_eq_true (by first | (with_reducible assumption) | assumption)
                obtain ⟨ad183, e183, hx183_0⟩ := Kd.at_int HR0.out x5_1 p183 q183
                cases e183
                replace p183 := eq_true p183
                replace q183 := eq_true q183
                have p184 : 0 ≤ (x5_1 : Int) := of_decide_eq_true (by first | (with_reducible assumption) | assumption)
                have q184 : x5_1 < (l1.length : Int) := of_decide_eq_true (by first | (with_reducible assumption) | assumption)
                obtain ⟨ad184, e184, hx184_0⟩ := Kd.at_int HR1.out x5_1 p184 q184
                cases e184
                replace p184 := eq_true p184
                replace q184 := eq_true q184
                go_wp2
                repeat (go_quiet (fail); try go_wp2)
                go_roundg k1
                case measure => have := HK1.out; omega
                case rel => exact ⟨(wrap64 (x5_1 + 1)), (by first | rfl | (simp; done) | (simp [*]; done)), H', ⟨by have := HK1.out; omega⟩, by repeat (first | exact Drawn0.refl _ | apply Drawn0.step)⟩
              · rw [if_neg c7] at H
                have c7b0 : ((rd l0 x5_1) == (rd l1 x5_1)) = false := beq_eq_false_iff_ne.mpr c7
                have c7b1 : ((rd l0 x5_1) != (rd l1 x5_1)) = true := bne_iff_ne.mpr c7
                obtain rfl := Option.some.inj H
                have p183 : 0 ≤ (x5_1 : Int) := of_decide_eq_true (by first | (with_reducible assumption) | assumption)
                have q183 : x5_1 < (l0.length : Int) := of_decide_eq_true (by first | (with_reducible assumption) | assumption)
                obtain ⟨ad183, e183, hx183_0⟩ := Kd.at_int HR0.out x5_1 p183 q183
                cases e183
                replace p183 := eq_true p183
                replace q183 := eq_true q183
                have p184 : 0 ≤ (x5_1 : Int) := of_decide_eq_true (by first | (with_reducible assumption) | assumption)
                have q184 : x5_1 < (l1.length : Int) := of_decide_eq_true (by first | (with_reducible assumption) | assumption)
                obtain ⟨ad184, e184, hx184_0⟩ := Kd.at_int HR1.out x5_1 p184 q184
                cases e184
                replace p184 := eq_true p184
                replace q184 := eq_true q184
                go_wp2
                repeat (go_quiet (fail); try go_wp2)
                go_ret
                exact ⟨by first | rfl | (simp; done) | (simp [*]; done), by repeat (first | exact Drawn0.refl _ | apply Drawn0.step)⟩
            · rw [if_neg c6] at H
              exact absurd H (by simp)
          · rw [if_neg c5] at H
            exact absurd H (by simp)
        · rw [if_neg c4] at H
          have c4b0 : decide (x5_1 < (l0.length : Int)) = false := decide_eq_false c4
          clear c4
          obtain rfl := Option.some.inj H
          go_wp2
          repeat (go_quiet (fail); try go_wp2)
          go_ret
          exact ⟨by first | rfl | (simp; done) | (simp [*]; done), by repeat (first | exact Drawn0.refl _ | apply Drawn0.step)⟩
  · rw [if_neg c3] at H
    have c3b0 : ((l0.length : Int) == (l1.length : Int)) = false := beq_eq_false_iff_ne.mpr c3
    have c3b1 : ((l0.length : Int) != (l1.length : Int)) = true := bne_iff_ne.mpr c3
    have c3b2 : (l0.length == l1.length) = false := by first | simpa using c3 | (simp at c3 ⊢; omega)
    obtain rfl := Option.some.inj H
    go_enter Try.func11, Try.ntmps11
    go_wp2
    repeat (go_quiet (fail); try go_wp2)
    go_ret
    exact ⟨by first | rfl | (simp; done) | (simp [*]; done), by repeat (first | exact Drawn0.refl _ | apply Drawn0.step)⟩

/-! ### orthoepyref01_Is: function 20 -/
def orthoepyref01_Is.f (a0 : Int) : Option (Bool) := if a0 ≥ 0 then (if a0 < 55296 then (some true) else (if a0 > 57343 then (some (decide (a0 ≤ 1114111))) else (some false))) else (if a0 > 57343 then (some (decide (a0 ≤ 1114111))) else (some false))
set_option maxHeartbeats 8000000 in
set_option maxRecDepth 100000 in
theorem orthoepyref01_Is.calls (a0 : Int) (r : Bool) (w : World) (h : orthoepyref01_Is.f a0 = some r) :
    Calls Try.prog 20 #[.int .i32 a0] w fun e w' => e = .returned (.bool r) ∧ Drawn0 w w' := by
  have H : (if a0 ≥ 0 then (if a0 < 55296 then (some true) else (if a0 > 57343 then (some (decide (a0 ≤ 1114111))) else (some false))) else (if a0 > 57343 then (some (decide (a0 ≤ 1114111))) else (some false))) = some r := h
  clear h
  by_cases c2 : a0 ≥ 0
  · rw [if_pos c2] at H
    have c2b0 : decide (0 ≤ a0) = true := decide_eq_true c2
    clear c2
    by_cases c3 : a0 < 55296
    · rw [if_pos c3] at H
      have c3b0 : decide (a0 < 55296) = true := decide_eq_true c3
      clear c3
      obtain rfl := Option.some.inj H
      go_enter Try.func20, Try.ntmps20
      go_wp2
      go_ret
      exact ⟨by first | rfl | (simp; done) | (simp [*]; done), by repeat (first | exact Drawn0.refl _ | apply Drawn0.step)⟩
    · rw [if_neg c3] at H
      have c3b0 : decide (a0 < 55296) = false := decide_eq_false c3
      clear c3
      by_cases c4 : a0 > 57343
      · rw [if_pos c4] at H
        have c4b0 : decide (57343 < a0) = true := decide_eq_true c4
        clear c4
        obtain rfl := Option.some.inj H
        go_enter Try.func20, Try.ntmps20
        go_wp2
        go_ret
        exact ⟨by first | rfl | (simp; done) | (simp [*]; done), by repeat (first | exact Drawn0.refl _ | apply Drawn0.step)⟩
      · rw [if_neg c4] at H
        have c4b0 : decide (57343 < a0) = false := decide_eq_false c4
        clear c4
        obtain rfl := Option.some.inj H
        go_enter Try.func20, Try.ntmps20
        go_wp2
        go_ret
        exact ⟨by first | rfl | (simp; done) | (simp [*]; done), by repeat (first | exact Drawn0.refl _ | apply Drawn0.step)⟩
  · rw [if_neg c2] at H
    have c2b0 : decide (0 ≤ a0) = false := decide_eq_false c2
    clear c2
    by_cases c5 : a0 > 57343
    · rw [if_pos c5] at H
      have c5b0 : decide (57343 < a0) = true := decide_eq_true c5
      clear c5
      obtain rfl := Option.some.inj H
      go_enter Try.func20, Try.ntmps20
      go_wp2
      go_ret
      exact ⟨by first | rfl | (simp; done) | (simp [*]; done), by repeat (first | exact Drawn0.refl _ | apply Drawn0.step)⟩
    · rw [if_neg c5] at H
      have c5b0 : decide (57343 < a0) = false := decide_eq_false c5
      clear c5
      obtain rfl := Option.some.inj H
      go_enter Try.func20, Try.ntmps20
      go_wp2
      go_ret
      exact ⟨by first | rfl | (simp; done) | (simp [*]; done), by repeat (first | exact Drawn0.refl _ | apply Drawn0.step)⟩

/-! ### orthoepyref01_Split: function 30 -/
def orthoepyref01_Split.f (a0 : Int) : Option (Int × Int × Bool) := if a0 < 65536 then (some (0, 0, false)) else (if a0 > 1114111 then (some (0, 0, false)) else (some (IntKind.u16.wrap (wrap32 (55296 + (wrap32 (Int.tdiv (wrap32 (a0 - 65536)) 1024)))), IntKind.u16.wrap (wrap32 (56320 + (Int.tmod (wrap32 (a0 - 65536)) 1024))), true)))
set_option maxHeartbeats 8000000 in
set_option maxRecDepth 100000 in
theorem orthoepyref01_Split.calls (a0 : Int) (r1 : Int) (r2 : Int) (r3 : Bool) (w : World) (h : orthoepyref01_Split.f a0 = some (r1, r2, r3)) :
    Calls Try.prog 30 #[.int .i32 a0] w fun e w' => e = .returned (.tuple #[.int .u16 r1, .int .u16 r2, .bool r3]) ∧ Drawn0 w w' := by
  have H : (if a0 < 65536 then (some (0, 0, false)) else (if a0 > 1114111 then (some (0, 0, false)) else (some (IntKind.u16.wrap (wrap32 (55296 + (wrap32 (Int.tdiv (wrap32 (a0 - 65536)) 1024)))), IntKind.u16.wrap (wrap32 (56320 + (Int.tmod (wrap32 (a0 - 65536)) 1024))), true)))) = some (r1, r2, r3) := h
  clear h
  by_cases c2 : a0 < 65536
  · rw [if_pos c2] at H
    have c2b0 : decide (a0 < 65536) = true := decide_eq_true c2
    clear c2
    simp only [Option.some.injEq, Prod.mk.injEq] at H
    obtain ⟨rfl, rfl, rfl⟩ := H
    go_enter Try.func30, Try.ntmps30
    go_wp2
    go_ret3
    exact ⟨by first | rfl | (simp; done) | (simp [*]; done), by repeat (first | exact Drawn0.refl _ | apply Drawn0.step)⟩
  · rw [if_neg c2] at H
    have c2b0 : decide (a0 < 65536) = false := decide_eq_false c2
    clear c2
    by_cases c3 : a0 > 1114111
    · rw [if_pos c3] at H
      have c3b0 : decide (1114111 < a0) = true := decide_eq_true c3
      clear c3
      simp only [Option.some.injEq, Prod.mk.injEq] at H
      obtain ⟨rfl, rfl, rfl⟩ := H
      go_enter Try.func30, Try.ntmps30
      go_wp2
      go_ret3
      exact ⟨by first | rfl | (simp; done) | (simp [*]; done), by repeat (first | exact Drawn0.refl _ | apply Drawn0.step)⟩
    · rw [if_neg c3] at H
      have c3b0 : decide (1114111 < a0) = false := decide_eq_false c3
      clear c3
      simp only [Option.some.injEq, Prod.mk.injEq] at H
      obtain ⟨rfl, rfl, rfl⟩ := H
      go_enter Try.func30, Try.ntmps30
      go_wp2
      go_ret3
      exact ⟨by first | rfl | (simp; done) | (simp [*]; done), by repeat (first | exact Drawn0.refl _ | apply Drawn0.step)⟩

/-! ### orthoepyref03_Units: function 13 -/
def orthoepyref03_Units.l0 : Nat → List Int → List Int → Int → Option (List Int)
  | 0, _, _, _ => none
  | k + 1, x0, x3, x4 => if x4 < (x0.length : Int) then (if 0 ≤ x4 then ((orthoepyref01_Split.f (rd x0 x4)).bind fun bt186 => (if bt186.2.2 = true then ((some (([bt186.1, bt186.2.1] : List Int) : List Int)).bind fun y189 => (if x3.length + y189.length < 70368744177664 then (orthoepyref03_Units.l0 k x0 (x3 ++ y189) (wrap64 (x4 + 1))) else (none))) else ((orthoepyref01_Is.f (rd x0 x4)).bind fun t196 => (if t196 = true then (if x3.length < 70368744177664 then (orthoepyref03_Units.l0 k x0 (x3 ++ [IntKind.u16.wrap (rd x0 x4)]) (wrap64 (x4 + 1))) else (none)) else (orthoepyref03_Units.l0 k x0 x3 (wrap64 (x4 + 1))))))) else (none)) else (some x3)
def orthoepyref03_Units.f (k : Nat) (l0 : List Int) : Option (List Int) := orthoepyref03_Units.l0 k l0 ([] : List Int) 0
theorem orthoepyref03_Units.mono_l : ∀ k, (∀ y0 y1 y2, LeO (orthoepyref03_Units.l0 k y0 y1 y2) (orthoepyref03_Units.l0 (k + 1) y0 y1 y2))
  | 0 => fun _ _ _ r h => by simp [orthoepyref03_Units.l0] at h
  | k + 1 => by
    have ih0 := orthoepyref03_Units.mono_l k
    · intro y0 y1 y2
      unfold orthoepyref03_Units.l0
      repeat' first
      | (with_reducible exact ih0 _ _ _)
      | (with_reducible exact LeO.refl _)
      | (with_reducible exact LeO.none _)
      | (with_reducible refine LeO.ite ?_ ?_)
      | (with_reducible refine LeO.bind ?_ (fun _ => ?_))
      | exact ih0 _ _ _
      | exact LeO.none _
      | refine LeO.ite ?_ ?_
      | refine LeO.bind ?_ (fun _ => ?_)
theorem orthoepyref03_Units.mono : ∀ a0 k, LeO (orthoepyref03_Units.f k a0) (orthoepyref03_Units.f (k + 1) a0) := by
  intro a0 k
  have ih0 := orthoepyref03_Units.mono_l k
  unfold orthoepyref03_Units.f
  repeat' first
      | (with_reducible exact ih0 _ _ _)
      | (with_reducible exact LeO.refl _)
      | (with_reducible exact LeO.none _)
      | (with_reducible refine LeO.ite ?_ ?_)
      | (with_reducible refine LeO.bind ?_ (fun _ => ?_))
      | exact ih0 _ _ _
      | exact LeO.none _
      | refine LeO.ite ?_ ?_
      | refine LeO.bind ?_ (fun _ => ?_)
set_option maxHeartbeats 8000000 in
set_option maxRecDepth 100000 in
theorem orthoepyref03_Units.calls (k : Nat) (A0 : Option Addr) (c0 : Nat) (l0 : List Int) (r : List Int) (w : World) (hr0 : Kd.C (Kd.int .i32) w A0 l0.length l0) (hc0 : l0.length ≤ c0) (h : orthoepyref03_Units.f k l0 = some r) :
    Calls Try.prog 13 #[.slice A0 l0.length c0] w fun e w' => ∃ v0_ : Value, e = .returned (v0_) ∧ Kd.R (Kd.int .u16) 43 w' w.heap.size (fun _ => True) v0_ r ∧ Below w.heap.size w w' := by
  have HR0 := Aside0.mk hr0
  have HC0 := Aside0.mk hc0
  clear hr0 hc0
  have HB := Aside0.mk (Below.refl w.heap.size w)
  have H : (orthoepyref03_Units.l0 k l0 ([] : List Int) 0) = some r := h
  clear h
  have H' := Aside0.mk H
  clear H
  go_enter Try.func13, Try.ntmps13
  go_wp2
  go_loopg [3, 4] k (fun kq v3 v4 w' => ∃ (x3_1 : List Int) (x4_1 : Int), v4 = .int .i64 x4_1 ∧ Aside0 (orthoepyref03_Units.l0 kq l0 x3_1 x4_1 = some r) ∧ Aside0 (kq ≤ k) ∧ Aside0 (Kd.R (Kd.int .u16) 43 w' w.heap.size (fun _ => True) v3 x3_1) ∧ Aside0 (Below w.heap.size w w'))
  case atStart => exact ⟨(([] : List Int)), (0), (by first | rfl | (simp; done) | (simp [*]; done)), H', ⟨Nat.le_refl _⟩, ⟨by first | exact Kd.R_nil _ _ _ _ _ | exact Kd.N_nil _ _ _ _ _ | exact Kd.V_nil _ _ _ _ _ | exact Kd.Q_nil _ _ _ _ _ | exact Kd.S_nil _ _ _ _ _⟩, ⟨by repeat (first | (with_reducible first | exact HB.out | apply below_alloc | apply pw_below_drewN | apply below_drew1) | exact HB.out)⟩⟩
  case round =>
    clear H'
    try clear c1
    obtain ⟨x3_1, x4_1, rfl, HA, HK1, HO_3, HB⟩ := hrel
    cases gk with
    | zero => exact absurd HA.out (by simp [orthoepyref03_Units.l0])
    | succ k1 =>
      have H := HA.out
      clear HA
      simp only [orthoepyref03_Units.l0] at H
      by_cases c2 : x4_1 < (l0.length : Int)
      · rw [if_pos c2] at H
        have c2b0 : decide (x4_1 < (l0.length : Int)) = true := decide_eq_true c2
        clear c2
        by_cases c3 : 0 ≤ x4_1
        · rw [if_pos c3] at H
          have c3b0 : decide (0 ≤ x4_1) = true := decide_eq_true c3
          clear c3
          replace H := Option.bind_eq_some_iff.mp H
          obtain ⟨⟨t186, t187, t188⟩, A40, H⟩ := H
          replace H : (if t188 = true then ((some (([t186, t187] : List Int) : List Int)).bind fun y189 => (if x3_1.length + y189.length < 70368744177664 then (orthoepyref03_Units.l0 k1 l0 (x3_1 ++ y189) (wrap64 (x4_1 + 1))) else (none))) else ((orthoepyref01_Is.f (rd l0 x4_1)).bind fun t196 => (if t196 = true then (if x3_1.length < 70368744177664 then (orthoepyref03_Units.l0 k1 l0 (x3_1 ++ [IntKind.u16.wrap (rd l0 x4_1)]) (wrap64 (x4_1 + 1))) else (none)) else (orthoepyref03_Units.l0 k1 l0 x3_1 (wrap64 (x4_1 + 1)))))) = some r := H
          have A4 := Aside0.mk A40
          clear A40
          by_cases c5 : t188 = true
          · subst c5
            have H1 : ((some (([t186, t187] : List Int) : List Int)).bind fun y189 => (if x3_1.length + y189.length < 70368744177664 then (orthoepyref03_Units.l0 k1 l0 (x3_1 ++ y189) (wrap64 (x4_1 + 1))) else (none))) = some r := by rw [if_pos rfl] at H; exact H
            clear H
            have H := H1
            clear H1
            obtain ⟨y189, hy189⟩ : ∃ y_ : List Int, y_ = (([t186, t187] : List Int)) := ⟨_, rfl⟩
            replace H : (if x3_1.length + y189.length < 70368744177664 then (orthoepyref03_Units.l0 k1 l0 (x3_1 ++ y189) (wrap64 (x4_1 + 1))) else (none)) = some r := by first | (rw [hy189]; with_reducible exact H) | (have H2_ := (Option.bind_some _ _).symm.trans H; rw [hy189]; with_reducible exact H2_) | (have H2_ := (Option.bind_some _ _).symm.trans H; with_reducible exact H2_) | with_reducible exact H | (rw [hy189]; exact H) | exact H
            have Ny189 := Aside0.mk hy189
            clear hy189
            by_cases c6 : x3_1.length + y189.length < 70368744177664
            · rw [if_pos c6] at H
              have LMc6 := Aside0.mk c6
              clear c6
              obtain ⟨y192, hy192⟩ : ∃ y_ : List Int, y_ = (x3_1 ++ y189) := ⟨_, rfl⟩
              replace H : (orthoepyref03_Units.l0 k1 l0 y192 (wrap64 (x4_1 + 1))) = some r := by first | (rw [hy192]; with_reducible exact H) | (have H2_ := (Option.bind_some _ _).symm.trans H; rw [hy192]; with_reducible exact H2_) | (have H2_ := (Option.bind_some _ _).symm.trans H; with_reducible exact H2_) | with_reducible exact H | (rw [hy192]; exact H) | exact H
              have Ny192 := Aside0.mk hy192
              clear hy192
              have H' := Aside0.mk H
              clear H
              have p185 : 0 ≤ (x4_1 : Int) := of_decide_eq_true (by first | (with_reducible assumption) | assumption)
              have q185 : x4_1 < (l0.length : Int) := of_decide_eq_true (by first | (with_reducible assumption) | assumption)
              obtain ⟨ad185, e185, hx185_0⟩ := Kd.at_int HR0.out x4_1 p185 q185
              cases e185
              replace hx185_0 := (HB.out.cell (World.block_lt_of_cell? w _ hx185_0)).trans hx185_0
              replace p185 := eq_true p185
              replace q185 := eq_true q185
              go_wp2_with (first | ((with_reducible refine gate_callee (f := 30) rfl ?_); refine goesL_ (some 19) rfl rfl Try.func30 (by kernel_rfl) rfl #[.int .i32 (rd l0 x4_1)] rfl (by (try simp only [List.map_toArray, List.map_cons, List.map_nil]); first | done | rfl | (simp only [List.length_drop, List.length_take]; rfl)) ?_; (with_reducible refine (orthoepyref01_Split.calls (rd l0 x4_1) t186 t187 true _ A4.out).mono ?_); rintro e w' ⟨rfl, ⟨nd, rfl⟩⟩; refine ⟨_, rfl, ?_⟩) | ((with_reducible refine gate_dst (N := 28) rfl ?_); refine Kd.R_lit (Kd.int .u16) _ 43 ?hg (N := 28) ?hd (xs := ([t186, t187] : List Int)) (inner := [.int .u16 t186, .int .u16 t187]) (ok := fun _ => True) (okp := fun _ => True) ?hr ?hp (fun _ hk => hk) trivial (Below.refl _ _) (Nat.le_refl _) (by simp) ?_; (case hd => rfl); (case hg => rfl); (case hr => first | (go_simp; done) | (go_simp; rfl)); (case hp => exact (Reps.one (show Kd.M (Kd.int .u16) _ _ _ t186 [.int .u16 t186] from rfl) (Reps.one (show Kd.M (Kd.int .u16) _ _ _ t187 [.int .u16 t187] from rfl) (Reps.none _ _)))); intro v190 w7 ho8 hb hg_ hnew_; clear hg_ hnew_; (first | rw [← Ny189.out] at ho8 | (simp only [Int.reduceToNat] at ho8; rw [← Ny189.out] at ho8)); have n0_ := Aside0.mk (Kd.R_elder' (by (with_reducible repeat (first | apply Kd.R_alloc | apply Kd.R_drewN | apply Kd.R_drew)); exact HO_3.out) (Kd.R_base ho8) hb); have n1_ := Aside0.mk (Kd.R_lower (Kd.R_new' ho8 (Kd.R_lt (by (with_reducible repeat (first | apply Kd.R_alloc | apply Kd.R_drewN | apply Kd.R_drew)); exact HO_3.out))) (below_size (by repeat (first | (with_reducible first | exact HB.out | apply below_alloc | apply pw_below_drewN | apply below_drew1) | exact HB.out)))); have n2_ := Aside0.mk (below_step (by repeat (first | (with_reducible first | exact HB.out | apply below_alloc | apply pw_below_drewN | apply below_drew1) | exact HB.out)) hb); clear HO_3; clear HB; have HO_3 := n0_; have HO191 := n1_; have HB := n2_; clear n0_ n1_ n2_; clear hb ho8; obtain ⟨Ao10, co10, eo10⟩ := Kd.R_slice HO191.out; subst eo10) | ((with_reducible refine gate_builtin (b := .append) (xs := #[.tmp 25, .tmp 28]) rfl ?_); at_builtin; refine Kd.R_append_rows (Kd.int .u16) (w0 := w) w.heap.size rfl (.tmp 25) (.tmp 28) 23 43 (.int .u16 0) 2 rfl Try.underlying23 info43 rfl (by decide) (by omega) u3 x3_1 y189 _ _ _ (fun k_ => some k_ ≠ (.slice Ao10 y189.length co10 : Value).ownBlock) (fun _ => False) rfl rfl ?aO ?aR (fun _ _ h => h) (fun _ h => h.elim) ?aF ?aB ?aS ?aL ?_; (case aR => repeat (first | exact (Kd.R_reads' HO191.out).2.2 | (with_reducible refine Kd.C_alloc ?_ _) | (with_reducible refine Kd.C_drewN ?_ _) | (with_reducible refine Kd.C_drew ?_))); (case aB => exact (by repeat (first | (with_reducible first | exact HB.out | apply below_alloc | apply pw_below_drewN | apply below_drew1) | exact HB.out))); (case aF => exact (fun k_ hk => Kd.fresh' (Kd.R_lt (by (with_reducible repeat (first | apply Kd.R_alloc | apply Kd.R_drewN | apply Kd.R_drew)); exact HO191.out)) k_ hk)); (case aO => exact (by (with_reducible repeat (first | apply Kd.R_alloc | apply Kd.R_drewN | apply Kd.R_drew)); exact Kd.R_mono HO_3.out (fun _ hk => hk.2))); (case aS => exact (below_size (by repeat (first | (with_reducible first | exact HB.out | apply below_alloc | apply pw_below_drewN | apply below_drew1) | exact HB.out)))); (case aL => have := LMc6.out; omega); intro v193 w9 ho hb hg hat; rw [← Ny192.out] at ho; have n0_ := Aside0.mk (Kd.R_after (ok := (fun _ => True)) (by (with_reducible repeat (first | apply Kd.R_alloc | apply Kd.R_drewN | apply Kd.R_drew)); exact HO191.out) hg hat); have n1_ := Aside0.mk (hb); have n2_ := Aside0.mk (ho); clear HO191; clear HB; clear HO_3; have HO191 := n0_; have HB := n1_; have HO194 := n2_; clear n0_ n1_ n2_; clear ho hb hg hat))
              go_roundg k1
              case measure => have := HK1.out; omega
              case rel => exact ⟨(y192), (wrap64 (x4_1 + 1)), (by first | rfl | (simp; done) | (simp [*]; done)), H', ⟨by have := HK1.out; omega⟩, ⟨by (with_reducible repeat (first | apply Kd.R_alloc | apply Kd.R_drewN | apply Kd.R_drew)); exact Kd.R_mono HO194.out (fun _ hk => trivial)⟩, ⟨by repeat (first | (with_reducible first | exact HB.out | apply below_alloc | apply pw_below_drewN | apply below_drew1) | exact HB.out)⟩⟩
            · rw [if_neg c6] at H
              exact absurd H (by simp)
          · replace c5 := Bool.eq_false_iff.mpr c5
            subst c5
            have H1 : ((orthoepyref01_Is.f (rd l0 x4_1)).bind fun t196 => (if t196 = true then (if x3_1.length < 70368744177664 then (orthoepyref03_Units.l0 k1 l0 (x3_1 ++ [IntKind.u16.wrap (rd l0 x4_1)]) (wrap64 (x4_1 + 1))) else (none)) else (orthoepyref03_Units.l0 k1 l0 x3_1 (wrap64 (x4_1 + 1))))) = some r := by rw [if_neg (show ¬ (false = true) by decide)] at H; exact H
            clear H
            have H := H1
            clear H1
            replace H := Option.bind_eq_some_iff.mp H
            obtain ⟨t196, A110, H⟩ := H
            replace H : (if t196 = true then (if x3_1.length < 70368744177664 then (orthoepyref03_Units.l0 k1 l0 (x3_1 ++ [IntKind.u16.wrap (rd l0 x4_1)]) (wrap64 (x4_1 + 1))) else (none)) else (orthoepyref03_Units.l0 k1 l0 x3_1 (wrap64 (x4_1 + 1)))) = some r := H
            have A11 := Aside0.mk A110
            clear A110
            by_cases c12 : t196 = true
            · subst c12
              have H1 : (if x3_1.length < 70368744177664 then (orthoepyref03_Units.l0 k1 l0 (x3_1 ++ [IntKind.u16.wrap (rd l0 x4_1)]) (wrap64 (x4_1 + 1))) else (none)) = some r := by rw [if_pos rfl] at H; exact H
              clear H
              have H := H1
              clear H1
              by_cases c13 : x3_1.length < 70368744177664
              · rw [if_pos c13] at H
                have LMc13 := Aside0.mk c13
                clear c13
                obtain ⟨y198, hy198⟩ : ∃ y_ : List Int, y_ = (x3_1 ++ [IntKind.u16.wrap (rd l0 x4_1)]) := ⟨_, rfl⟩
                replace H : (orthoepyref03_Units.l0 k1 l0 y198 (wrap64 (x4_1 + 1))) = some r := by first | (rw [hy198]; with_reducible exact H) | (have H2_ := (Option.bind_some _ _).symm.trans H; rw [hy198]; with_reducible exact H2_) | (have H2_ := (Option.bind_some _ _).symm.trans H; with_reducible exact H2_) | with_reducible exact H | (rw [hy198]; exact H) | exact H
                have Ny198 := Aside0.mk hy198
                clear hy198
                have H' := Aside0.mk H
                clear H
                have p185 : 0 ≤ (x4_1 : Int) := of_decide_eq_true (by first | (with_reducible assumption) | assumption)
                have q185 : x4_1 < (l0.length : Int) := of_decide_eq_true (by first | (with_reducible assumption) | assumption)
                obtain ⟨ad185, e185, hx185_0⟩ := Kd.at_int HR0.out x4_1 p185 q185
                cases e185
                replace hx185_0 := (HB.out.cell (World.block_lt_of_cell? w _ hx185_0)).trans hx185_0
                replace p185 := eq_true p185
                replace q185 := eq_true q185
                go_wp2_with (first | ((with_reducible refine gate_callee (f := 30) rfl ?_); refine goesL_ (some 19) rfl rfl Try.func30 (by kernel_rfl) rfl #[.int .i32 (rd l0 x4_1)] rfl (by (try simp only [List.map_toArray, List.map_cons, List.map_nil]); first | done | rfl | (simp only [List.length_drop, List.length_take]; rfl)) ?_; (with_reducible refine (orthoepyref01_Split.calls (rd l0 x4_1) t186 t187 false _ A4.out).mono ?_); rintro e w' ⟨rfl, ⟨nd, rfl⟩⟩; refine ⟨_, rfl, ?_⟩; have p195 : 0 ≤ (x4_1 : Int) := of_decide_eq_true (by first | (with_reducible assumption) | assumption); have q195 : x4_1 < (l0.length : Int) := of_decide_eq_true (by first | (with_reducible assumption) | assumption); obtain ⟨ad195, e195, hx195_0⟩ := Kd.at_int HR0.out x4_1 p195 q195; obtain rfl : ad185 = ad195 := (by injection e195); replace hx195_0 := (HB.out.cell (World.block_lt_of_cell? w _ hx195_0)).trans hx195_0; replace p195 := eq_true p195; replace q195 := eq_true q195) | ((with_reducible refine gate_callee (f := 20) rfl ?_); refine goesL_ (some 35) rfl rfl Try.func20 (by kernel_rfl) rfl #[.int .i32 (rd l0 x4_1)] rfl (by (try simp only [List.map_toArray, List.map_cons, List.map_nil]); first | done | rfl | (simp only [List.length_drop, List.length_take]; rfl)) ?_; (with_reducible refine (orthoepyref01_Is.calls (rd l0 x4_1) true _ A11.out).mono ?_); rintro e w' ⟨rfl, ⟨nd, rfl⟩⟩; refine ⟨_, rfl, ?_⟩; have p197 : 0 ≤ (x4_1 : Int) := of_decide_eq_true (by first | (with_reducible assumption) | assumption); have q197 : x4_1 < (l0.length : Int) := of_decide_eq_true (by first | (with_reducible assumption) | assumption); obtain ⟨ad197, e197, hx197_0⟩ := Kd.at_int HR0.out x4_1 p197 q197; obtain rfl : ad185 = ad197 := (by injection e197); replace hx197_0 := (HB.out.cell (World.block_lt_of_cell? w _ hx197_0)).trans hx197_0; replace p197 := eq_true p197; replace q197 := eq_true q197) | ((with_reducible refine gate_builtin (b := .append) (xs := #[.tmp 36, .tmp 42]) rfl ?_); at_builtin; refine Kd.R_append (Kd.int .u16) (w0 := w) w.heap.size rfl (.tmp 36) (.tmp 42) 23 43 (.int .u16 0) 2 rfl Try.underlying23 info43 rfl (by decide) (by omega) u3 x3_1 (IntKind.u16.wrap (rd l0 x4_1)) [.int .u16 (IntKind.u16.wrap (rd l0 x4_1))] (fun _ => True) (fun _ => False) rfl rfl ?aP (fun _ hk => hk.elim) ?aF ?aO ?aB ?aS ?aL ?_; (case aP => exact rfl); (case aB => exact (by repeat (first | (with_reducible first | exact HB.out | apply below_alloc | apply pw_below_drewN | apply below_drew1) | exact HB.out))); (case aF => exact (fun _ _ => trivial)); (case aO => exact (by (with_reducible repeat (first | apply Kd.R_alloc | apply Kd.R_drewN | apply Kd.R_drew)); exact HO_3.out)); (case aS => exact (below_size (by repeat (first | (with_reducible first | exact HB.out | apply below_alloc | apply pw_below_drewN | apply below_drew1) | exact HB.out)))); (case aL => have := LMc13.out; omega); intro v199 w14 ho hb hg hat; rw [← Ny198.out] at ho; have n0_ := Aside0.mk (hb); have n1_ := Aside0.mk (ho); clear HB; clear HO_3; have HB := n0_; have HO200 := n1_; clear n0_ n1_; clear ho hb hg hat))
                go_roundg k1
                case measure => have := HK1.out; omega
                case rel => exact ⟨(y198), (wrap64 (x4_1 + 1)), (by first | rfl | (simp; done) | (simp [*]; done)), H', ⟨by have := HK1.out; omega⟩, ⟨by (with_reducible repeat (first | apply Kd.R_alloc | apply Kd.R_drewN | apply Kd.R_drew)); exact HO200.out⟩, ⟨by repeat (first | (with_reducible first | exact HB.out | apply below_alloc | apply pw_below_drewN | apply below_drew1) | exact HB.out)⟩⟩
              · rw [if_neg c13] at H
                exact absurd H (by simp)
            · replace c12 := Bool.eq_false_iff.mpr c12
              subst c12
              have H1 : (orthoepyref03_Units.l0 k1 l0 x3_1 (wrap64 (x4_1 + 1))) = some r := by rw [if_neg (show ¬ (false = true) by decide)] at H; exact H
              clear H
              have H := H1
              clear H1
              have H' := Aside0.mk H
              clear H
              have p185 : 0 ≤ (x4_1 : Int) := of_decide_eq_true (by first | (with_reducible assumption) | assumption)
              have q185 : x4_1 < (l0.length : Int) := of_decide_eq_true (by first | (with_reducible assumption) | assumption)
              obtain ⟨ad185, e185, hx185_0⟩ := Kd.at_int HR0.out x4_1 p185 q185
              cases e185
              replace hx185_0 := (HB.out.cell (World.block_lt_of_cell? w _ hx185_0)).trans hx185_0
              replace p185 := eq_true p185
              replace q185 := eq_true q185
              go_wp2_with (first | ((with_reducible refine gate_callee (f := 30) rfl ?_); refine goesL_ (some 19) rfl rfl Try.func30 (by kernel_rfl) rfl #[.int .i32 (rd l0 x4_1)] rfl (by (try simp only [List.map_toArray, List.map_cons, List.map_nil]); first | done | rfl | (simp only [List.length_drop, List.length_take]; rfl)) ?_; (with_reducible refine (orthoepyref01_Split.calls (rd l0 x4_1) t186 t187 false _ A4.out).mono ?_); rintro e w' ⟨rfl, ⟨nd, rfl⟩⟩; refine ⟨_, rfl, ?_⟩; have p195 : 0 ≤ (x4_1 : Int) := of_decide_eq_true (by first | (with_reducible assumption) | assumption); have q195 : x4_1 < (l0.length : Int) := of_decide_eq_true (by first | (with_reducible assumption) | assumption); obtain ⟨ad195, e195, hx195_0⟩ := Kd.at_int HR0.out x4_1 p195 q195; obtain rfl : ad185 = ad195 := (by injection e195); replace hx195_0 := (HB.out.cell (World.block_lt_of_cell? w _ hx195_0)).trans hx195_0; replace p195 := eq_true p195; replace q195 := eq_true q195) | ((with_reducible refine gate_callee (f := 20) rfl ?_); refine goesL_ (some 35) rfl rfl Try.func20 (by kernel_rfl) rfl #[.int .i32 (rd l0 x4_1)] rfl (by (try simp only [List.map_toArray, List.map_cons, List.map_nil]); first | done | rfl | (simp only [List.length_drop, List.length_take]; rfl)) ?_; (with_reducible refine (orthoepyref01_Is.calls (rd l0 x4_1) false _ A11.out).mono ?_); rintro e w' ⟨rfl, ⟨nd, rfl⟩⟩; refine ⟨_, rfl, ?_⟩))
              go_roundg k1
              case measure => have := HK1.out; omega
              case rel => exact ⟨(x3_1), (wrap64 (x4_1 + 1)), (by first | rfl | (simp; done) | (simp [*]; done)), H', ⟨by have := HK1.out; omega⟩, ⟨by (with_reducible repeat (first | apply Kd.R_alloc | apply Kd.R_drewN | apply Kd.R_drew)); exact HO_3.out⟩, ⟨by repeat (first | (with_reducible first | exact HB.out | apply below_alloc | apply pw_below_drewN | apply below_drew1) | exact HB.out)⟩⟩
        · rw [if_neg c3] at H
          exact absurd H (by simp)
      · rw [if_neg c2] at H
        have c2b0 : decide (x4_1 < (l0.length : Int)) = false := decide_eq_false c2
        clear c2
        obtain rfl := Option.some.inj H
        go_wp2
        go_ret
        exact ⟨_, by first | rfl | (simp [errW_none, errW_some] <;> rfl) | (simp [*, errW_none, errW_some] <;> rfl), by (with_reducible repeat (first | apply Kd.R_alloc | apply Kd.R_drewN | apply Kd.R_drew)); exact HO_3.out, by repeat (first | (with_reducible first | exact HB.out | apply below_alloc | apply pw_below_drewN | apply below_drew1) | exact HB.out)⟩

end Go.Proofs.Ythgloaihgpcjjaa.PAll
