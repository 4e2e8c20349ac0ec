-- The machine's side of laws, written by a program of this session (wip/gen/pp.sh). Lean checks it.
import Derived.Test.YtajinnlaajhoeaaPAllx0
import Derived.Test.YtajinnlaajhoeaaPAllx3
import Derived.Test.YtajinnlaajhoeaaPAllx4
namespace Go.Proofs.Ytajinnlaajhoeaa.PAll
open Go.RowKit Go.Proofs.YtajinnlaajhoeaaW.PrintWords Go.Proofs.YtajinnlaajhoeaaW.PrintLast
set_option linter.unusedVariables false
set_option linter.unusedSimpArgs false

/-! ### utf8_All: function 36 -/
def utf8_All.l0 : Nat → List Int → List Int → List Int → Int → Int → Int → Int → Int → Int → Option (List Int × Int × Bool)
  | 0, _, _, _, _, _, _, _, _, _ => none
  | k + 1, x0, x6, x15, x16, x17, x154000, x154001, x154002, x154003 => if x17 < x16 then (if 0 ≤ x17 then (if x17 < (x15.length : Int) then ((utf8_Reader_Push.f k x154000 x154001 x154002 x154003 (rd x15 x17)).bind fun bt163 => (if bt163.2.1 = 2 then (if x6.length < 35184372088832 then (utf8_All.l0 k x0 (x6 ++ [bt163.1]) x15 x16 (wrap64 (x17 + 1)) bt163.2.2.1 bt163.2.2.2.1 bt163.2.2.2.2.1 bt163.2.2.2.2.2) else (none)) else (if bt163.2.1 = 3 then (some (([] : List Int), x17, false)) else (utf8_All.l0 k x0 x6 x15 x16 (wrap64 (x17 + 1)) bt163.2.2.1 bt163.2.2.2.1 bt163.2.2.2.2.1 bt163.2.2.2.2.2)))) else (none)) else (none)) else ((utf8_Reader_Left.f x154000 x154001 x154002 x154003).bind fun bt157 => (if bt157.1 > 0 then (some (([] : List Int), (x0.length : Int), false)) else (some (x6, (x0.length : Int), true))))
def utf8_All.f (k : Nat) (l0 : List Int) : Option (List Int × Int × Bool) := (utf8_New.f).bind fun bt149 => (if 0 ≤ (l0.length : Int) then (if ((l0.length : Int) : Int).toNat ≤ 70368744177664 then (utf8_All.l0 k l0 ([]) l0 (l0.length : Int) 0 bt149.1 bt149.2.1 bt149.2.2.1 bt149.2.2.2) else (none)) else (none))
theorem utf8_All.mono_l : ∀ k, (∀ y0 y1 y2 y3 y4 y5 y6 y7 y8, LeO (utf8_All.l0 k y0 y1 y2 y3 y4 y5 y6 y7 y8) (utf8_All.l0 (k + 1) y0 y1 y2 y3 y4 y5 y6 y7 y8))
  | 0 => fun _ _ _ _ _ _ _ _ _ r h => by simp [utf8_All.l0] at h
  | k + 1 => by
    have ih0 := utf8_All.mono_l k
    · intro y0 y1 y2 y3 y4 y5 y6 y7 y8
      unfold utf8_All.l0
      repeat' first
      | (with_reducible exact ih0 _ _ _ _ _ _ _ _ _)
      | (with_reducible exact utf8_Reader_Push.mono _ _ _ _ _ _)
      | (with_reducible exact LeO.refl _)
      | (with_reducible exact LeO.none _)
      | (with_reducible refine LeO.ite ?_ ?_)
      | (with_reducible refine LeO.bind ?_ (fun _ => ?_))
      | exact ih0 _ _ _ _ _ _ _ _ _
      | exact utf8_Reader_Push.mono _ _ _ _ _ _
      | exact LeO.none _
      | refine LeO.ite ?_ ?_
      | refine LeO.bind ?_ (fun _ => ?_)
theorem utf8_All.mono : ∀ a0 k, LeO (utf8_All.f k a0) (utf8_All.f (k + 1) a0) := by
  intro a0 k
  have ih0 := utf8_All.mono_l k
  unfold utf8_All.f
  repeat' first
      | (with_reducible exact ih0 _ _ _ _ _ _ _ _ _)
      | (with_reducible exact utf8_Reader_Push.mono _ _ _ _ _ _)
      | (with_reducible exact LeO.refl _)
      | (with_reducible exact LeO.none _)
      | (with_reducible refine LeO.ite ?_ ?_)
      | (with_reducible refine LeO.bind ?_ (fun _ => ?_))
      | exact ih0 _ _ _ _ _ _ _ _ _
      | exact utf8_Reader_Push.mono _ _ _ _ _ _
      | exact LeO.none _
      | refine LeO.ite ?_ ?_
      | refine LeO.bind ?_ (fun _ => ?_)
set_option maxHeartbeats 8000000 in
set_option maxRecDepth 100000 in
theorem utf8_All.calls (k : Nat) (A0 : Option Addr) (c0 : Nat) (l0 : List Int) (r1 : List Int) (r2 : Int) (r3 : Bool) (w : World) (hr0 : Kd.C (Kd.int .u8) w A0 l0.length l0) (hc0 : l0.length ≤ c0) (h : utf8_All.f k l0 = some (r1, r2, r3)) :
    Calls Try.prog 36 #[.slice A0 l0.length c0] w fun e w' => ∃ v0_ : Value, e = .returned (.tuple #[v0_, .int .i64 r2, .bool r3]) ∧ Kd.R (Kd.int .i32) 21 w' w.heap.size (fun _ => True) v0_ r1 ∧ Below w.heap.size w w' := by
  have HR0 := Aside0.mk hr0
  have HC0 := Aside0.mk hc0
  clear hr0 hc0
  have HB := Aside0.mk (Below.refl w.heap.size w)
  have H : ((utf8_New.f).bind fun bt149 => (if 0 ≤ (l0.length : Int) then (if ((l0.length : Int) : Int).toNat ≤ 70368744177664 then (utf8_All.l0 k l0 ([]) l0 (l0.length : Int) 0 bt149.1 bt149.2.1 bt149.2.2.1 bt149.2.2.2) else (none)) else (none))) = some (r1, r2, r3) := h
  clear h
  replace H := Option.bind_eq_some_iff.mp H
  obtain ⟨⟨t149, t150, t151, t152⟩, A20, H⟩ := H
  replace H : (if 0 ≤ (l0.length : Int) then (if ((l0.length : Int) : Int).toNat ≤ 70368744177664 then (utf8_All.l0 k l0 ([]) l0 (l0.length : Int) 0 t149 t150 t151 t152) else (none)) else (none)) = some (r1, r2, r3) := H
  have A2 := Aside0.mk A20
  clear A20
  by_cases c3 : 0 ≤ (l0.length : Int)
  · rw [if_pos c3] at H
    have c3b0 := eq_true c3
    have c3b1 : decide (0 ≤ (l0.length : Int)) = true := decide_eq_true c3
    clear c3
    by_cases c4 : ((l0.length : Int) : Int).toNat ≤ 70368744177664
    · rw [if_pos c4] at H
      have c4b0 := eq_true c4
      have c4b1 : decide (((l0.length : Int) : Int).toNat ≤ 70368744177664) = true := decide_eq_true c4
      clear c4
      obtain ⟨y154, hy154⟩ : ∃ y_ : List Int, y_ = ([]) := ⟨_, rfl⟩
      replace H : (utf8_All.l0 k l0 y154 l0 (l0.length : Int) 0 t149 t150 t151 t152) = some (r1, r2, r3) := by first | (rw [hy154]; with_reducible exact H) | (have H2_ := (Option.bind_some _ _).symm.trans H; rw [hy154]; with_reducible exact H2_) | (have H2_ := (Option.bind_some _ _).symm.trans H; with_reducible exact H2_) | with_reducible exact H | (rw [hy154]; exact H) | exact H
      have Ny154 := Aside0.mk hy154
      clear hy154
      have H' := Aside0.mk H
      clear H
      go_enter Try.func36, Try.ntmps36
      go_wp2_with (first | ((with_reducible refine gate_callee (f := 43) rfl ?_); refine goesL_ (some 11) rfl rfl Try.func43 (by kernel_rfl) rfl #[] rfl (by (try simp only [List.map_toArray, List.map_cons, List.map_nil]); first | done | rfl | (simp only [List.length_drop, List.length_take]; rfl)) ?_; (with_reducible refine (utf8_New.calls  t149 t150 t151 t152 w _ ?side1 A2.out).mono ?_); (case side1 => repeat (first | (with_reducible first | exact HB.out | apply below_alloc | apply pw_below_drewN | apply below_drew1) | exact HB.out)); rintro e w5 ⟨g153, rfl, hi, hb, hb2⟩; refine ⟨_, rfl, ?_⟩; have n0_ := Aside0.mk (hb); have n1_ := Aside0.mk (hi); clear HB; have HB := n0_; have HI153 := n1_; clear n0_ n1_; (try clear hb); (try clear hb2); (try clear hk); (try clear hi)) | ((with_reducible refine gate_dst (N := 14) rfl ?_); refine Kd.R_makecap (Kd.int .i32) _ 21 rfl (N := 14) rfl 39 _ _ rfl (l0.length : Int) rfl rfl Try.underlying39 (.int .i32 0) 4 info21 rfl (by decide) (by omega) 0 (ok := fun _ => True) (okp := fun _ => True) rfl (fun _ hk => hk) trivial (of_decide_eq_true (by first | (with_reducible assumption) | assumption)) (Nat.le_trans (Nat.mul_le_mul_right _ (of_decide_eq_true (by first | (with_reducible assumption) | assumption) : (l0.length : Int).toNat ≤ 70368744177664)) (by omega)) (Below.refl _ _) (Nat.le_refl _) ?_; intro v155 w6 ho7 hb hg_ hnew_; clear hg_ hnew_; (first | rw [← Ny154.out] at ho7 | (simp only [Int.reduceToNat] at ho7; rw [← Ny154.out] at ho7)); have n0_ := Aside0.mk (Kd.R_lower ho7 (below_size (by repeat (first | (with_reducible first | exact HB.out | apply below_alloc | apply pw_below_drewN | apply below_drew1 | refine below_set ?_ (IsS85.ge HI153.out)) | exact HB.out)))); have n1_ := Aside0.mk (IsS85.below (by repeat (first | (with_reducible first | exact HI153.out | apply IsS85.alloc | apply IsS85.drewN | apply IsS85.drew | apply IsS85.set_0 | apply IsS85.set_1 | apply IsS85.set_2 | apply IsS85.set_3) | exact HI153.out)) hb); have n2_ := Aside0.mk (below_step (by repeat (first | (with_reducible first | exact HB.out | apply below_alloc | apply pw_below_drewN | apply below_drew1 | refine below_set ?_ (IsS85.ge HI153.out)) | exact HB.out)) hb); clear HI153; clear HB; have HO156 := n0_; have HI153 := n1_; have HB := n2_; clear n0_ n1_ n2_; clear hb ho7))
      go_loopg [6, 17] k (fun kq v6 v17 w' => ∃ (x6_1 : List Int) (x17_1 : Int) (x154000_1 : Int) (x154001_1 : Int) (x154002_1 : Int) (x154003_1 : Int), v17 = .int .i64 x17_1 ∧ Aside0 (utf8_All.l0 kq l0 x6_1 l0 (l0.length : Int) x17_1 x154000_1 x154001_1 x154002_1 x154003_1 = some (r1, r2, r3)) ∧ Aside0 (kq ≤ k) ∧ Aside0 (Kd.R (Kd.int .i32) 21 w' w.heap.size (fun _ => True) v6 x6_1) ∧ Aside0 (IsS85 w w' g153 x154000_1 x154001_1 x154002_1 x154003_1) ∧ Aside0 (Below w.heap.size w w'))
      case atStart => exact ⟨(y154), (0), (t149), (t150), (t151), (t152), (by first | rfl | (simp; done) | (simp [*]; done)), H', ⟨Nat.le_refl _⟩, ⟨by (with_reducible repeat (first | apply Kd.R_alloc | apply Kd.R_drewN | apply Kd.R_drew)); exact HO156.out⟩, ⟨by repeat (first | (with_reducible first | exact HI153.out | apply IsS85.alloc | apply IsS85.drewN | apply IsS85.drew | apply IsS85.set_0 | apply IsS85.set_1 | apply IsS85.set_2 | apply IsS85.set_3) | exact HI153.out)⟩, ⟨by repeat (first | (with_reducible first | exact HB.out | apply below_alloc | apply pw_below_drewN | apply below_drew1 | refine below_set ?_ (IsS85.ge HI153.out)) | exact HB.out)⟩⟩
      case round =>
        clear H'
        try clear p2
        try clear c3
        try clear c3b0
        try clear c3b1
        try clear c4
        try clear c4b0
        try clear c4b1
        obtain ⟨x6_1, x17_1, x154000_1, x154001_1, x154002_1, x154003_1, rfl, HA, HK1, HO_6, HI153, HB⟩ := hrel
        cases gk with
        | zero => exact absurd HA.out (by simp [utf8_All.l0])
        | succ k1 =>
          have H := HA.out
          clear HA
          simp only [utf8_All.l0] at H
          by_cases c8 : x17_1 < (l0.length : Int)
          · rw [if_pos c8] at H
            have c8b0 : decide (x17_1 < (l0.length : Int)) = true := decide_eq_true c8
            clear c8
            by_cases c9 : 0 ≤ x17_1
            · rw [if_pos c9] at H
              have c9b0 : decide (0 ≤ x17_1) = true := decide_eq_true c9
              clear c9
              by_cases c10 : x17_1 < (l0.length : Int)
              · rw [if_pos c10] at H
                have c10b0 : decide (x17_1 < (l0.length : Int)) = true := decide_eq_true c10
                clear c10
                replace H := Option.bind_eq_some_iff.mp H
                obtain ⟨⟨t163, t164, t165, t166, t167, t168⟩, A110, H⟩ := H
                replace H : (if t164 = 2 then (if x6_1.length < 35184372088832 then (utf8_All.l0 k1 l0 (x6_1 ++ [t163]) l0 (l0.length : Int) (wrap64 (x17_1 + 1)) t165 t166 t167 t168) else (none)) else (if t164 = 3 then (some (([] : List Int), x17_1, false)) else (utf8_All.l0 k1 l0 x6_1 l0 (l0.length : Int) (wrap64 (x17_1 + 1)) t165 t166 t167 t168))) = some (r1, r2, r3) := H
                have A11 := Aside0.mk A110
                clear A110
                by_cases c12 : t164 = 2
                · rw [if_pos c12] at H
                  have c12b0 : (t164 == 2) = true := beq_iff_eq.mpr c12
                  have c12b1 : (t164 != 2) = false := bne_eq_false_iff_eq.mpr c12
                  clear c12
                  by_cases c13 : x6_1.length < 35184372088832
                  · rw [if_pos c13] at H
                    have LMc13 := Aside0.mk c13
                    clear c13
                    obtain ⟨y169, hy169⟩ : ∃ y_ : List Int, y_ = (x6_1 ++ [t163]) := ⟨_, rfl⟩
                    replace H : (utf8_All.l0 k1 l0 y169 l0 (l0.length : Int) (wrap64 (x17_1 + 1)) t165 t166 t167 t168) = some (r1, r2, r3) := by first | (rw [hy169]; with_reducible exact H) | (have H2_ := (Option.bind_some _ _).symm.trans H; rw [hy169]; with_reducible exact H2_) | (have H2_ := (Option.bind_some _ _).symm.trans H; with_reducible exact H2_) | with_reducible exact H | (rw [hy169]; exact H) | exact H
                    have Ny169 := Aside0.mk hy169
                    clear hy169
                    have H' := Aside0.mk H
                    clear H
                    have p162 : 0 ≤ (x17_1 : Int) := of_decide_eq_true (by first | (with_reducible assumption) | assumption)
                    have q162 : x17_1 < (l0.length : Int) := of_decide_eq_true (by first | (with_reducible assumption) | assumption)
                    obtain ⟨ad162, e162, hx162_0⟩ := Kd.at_int HR0.out x17_1 p162 q162
                    cases e162
                    replace hx162_0 := (HB.out.cell (World.block_lt_of_cell? w _ hx162_0)).trans hx162_0
                    replace p162 := eq_true p162
                    replace q162 := eq_true q162
                    go_wp2_with (first | ((with_reducible refine gate_callee (f := 44) rfl ?_); refine goesL_ (some 25) rfl rfl Try.func44 (by kernel_rfl) rfl #[.pointer (some ⟨g153, 0, none⟩), .int .u8 (rd l0 x17_1)] rfl (by (try simp only [List.map_toArray, List.map_cons, List.map_nil]); first | done | rfl | (simp only [List.length_drop, List.length_take]; rfl)) ?_; (with_reducible refine (utf8_Reader_Push.calls k1 g153 x154000_1 x154001_1 x154002_1 x154003_1 (rd l0 x17_1) t163 t164 t165 t166 t167 t168 w _ ?side1 ?side2 A11.out).mono ?_); (case side1 => repeat (first | (with_reducible first | exact HI153.out | apply IsS85.alloc | apply IsS85.drewN | apply IsS85.drew | apply IsS85.set_0 | apply IsS85.set_1 | apply IsS85.set_2 | apply IsS85.set_3) | exact HI153.out)); (case side2 => repeat (first | (with_reducible first | exact HB.out | apply below_alloc | apply pw_below_drewN | apply below_drew1 | refine below_set ?_ (IsS85.ge HI153.out)) | exact HB.out)); rintro e w14 ⟨rfl, hi, hb, hk⟩; refine ⟨_, rfl, ?_⟩; have n0_ := Aside0.mk (Kd.R_mono (Kd.R_keep (IsS85.apart (show IsS85 w _ g153 x154000_1 x154001_1 x154002_1 x154003_1 from by repeat (first | (with_reducible first | exact HI153.out | apply IsS85.alloc | apply IsS85.drewN | apply IsS85.drew | apply IsS85.set_0 | apply IsS85.set_1 | apply IsS85.set_2 | apply IsS85.set_3) | exact HI153.out)) (by (with_reducible repeat (first | apply Kd.R_alloc | apply Kd.R_drewN | apply Kd.R_drew)); exact HO_6.out) (by decide)) hk (fun _ h => h.2)) (fun _ h => h.1)); have n1_ := Aside0.mk (hb); have n2_ := Aside0.mk (hi); clear HO_6; clear HB; clear HI153; have HO_6 := n0_; have HB := n1_; have HI153 := n2_; clear n0_ n1_ n2_; (try clear hb); (try clear hb2); (try clear hk); (try clear hi)) | ((with_reducible refine gate_builtin (b := .append) (xs := #[.tmp 31, .tmp 33]) rfl ?_); at_builtin; refine Kd.R_append (Kd.int .i32) (w0 := w) w.heap.size rfl (.tmp 31) (.tmp 33) 39 21 (.int .i32 0) 4 rfl Try.underlying39 info21 rfl (by decide) (by omega) u6 x6_1 t163 [.int .i32 t163] (fun _ => True) (fun _ => False) rfl rfl ?aP (fun _ hk => hk.elim) ?aF ?aO ?aB ?aS ?aL ?_; (case aP => exact rfl); (case aB => exact (by repeat (first | (with_reducible first | exact HB.out | apply below_alloc | apply pw_below_drewN | apply below_drew1 | refine below_set ?_ (IsS85.ge HI153.out)) | exact HB.out))); (case aF => exact (fun _ _ => trivial)); (case aO => exact (by (with_reducible repeat (first | apply Kd.R_alloc | apply Kd.R_drewN | apply Kd.R_drew)); exact HO_6.out)); (case aS => exact (below_size (by repeat (first | (with_reducible first | exact HB.out | apply below_alloc | apply pw_below_drewN | apply below_drew1 | refine below_set ?_ (IsS85.ge HI153.out)) | exact HB.out)))); (case aL => have := LMc13.out; omega); intro v170 w15 ho hb hg hat; rw [← Ny169.out] at ho; have n0_ := Aside0.mk (IsS85.grown (by repeat (first | (with_reducible first | exact HI153.out | apply IsS85.alloc | apply IsS85.drewN | apply IsS85.drew | apply IsS85.set_0 | apply IsS85.set_1 | apply IsS85.set_2 | apply IsS85.set_3) | exact HI153.out)) hg (IsS85.own_ne HI153.out HO_6.out (by decide))); have n1_ := Aside0.mk (hb); have n2_ := Aside0.mk (ho); clear HI153; clear HB; clear HO_6; have HI153 := n0_; have HB := n1_; have HO171 := n2_; clear n0_ n1_ n2_; clear ho hb hg hat))
                    go_roundg k1
                    case measure => have := HK1.out; omega
                    case rel => exact ⟨(y169), (wrap64 (x17_1 + 1)), (t165), (t166), (t167), (t168), (by first | rfl | (simp; done) | (simp [*]; done)), H', ⟨by have := HK1.out; omega⟩, ⟨by (with_reducible repeat (first | apply Kd.R_alloc | apply Kd.R_drewN | apply Kd.R_drew)); exact HO171.out⟩, ⟨by repeat (first | (with_reducible first | exact HI153.out | apply IsS85.alloc | apply IsS85.drewN | apply IsS85.drew | apply IsS85.set_0 | apply IsS85.set_1 | apply IsS85.set_2 | apply IsS85.set_3) | exact HI153.out)⟩, ⟨by repeat (first | (with_reducible first | exact HB.out | apply below_alloc | apply pw_below_drewN | apply below_drew1 | refine below_set ?_ (IsS85.ge HI153.out)) | exact HB.out)⟩⟩
                  · rw [if_neg c13] at H
                    exact absurd H (by simp)
                · rw [if_neg c12] at H
                  have c12b0 : (t164 == 2) = false := beq_eq_false_iff_ne.mpr c12
                  have c12b1 : (t164 != 2) = true := bne_iff_ne.mpr c12
                  by_cases c16 : t164 = 3
                  · rw [if_pos c16] at H
                    have c16b0 : (t164 == 3) = true := beq_iff_eq.mpr c16
                    have c16b1 : (t164 != 3) = false := bne_eq_false_iff_eq.mpr c16
                    clear c16
                    simp only [Option.some.injEq, Prod.mk.injEq] at H
                    obtain ⟨rfl, rfl, rfl⟩ := H
                    have p162 : 0 ≤ (x17_1 : Int) := of_decide_eq_true (by first | (with_reducible assumption) | assumption)
                    have q162 : x17_1 < (l0.length : Int) := of_decide_eq_true (by first | (with_reducible assumption) | assumption)
                    obtain ⟨ad162, e162, hx162_0⟩ := Kd.at_int HR0.out x17_1 p162 q162
                    cases e162
                    replace hx162_0 := (HB.out.cell (World.block_lt_of_cell? w _ hx162_0)).trans hx162_0
                    replace p162 := eq_true p162
                    replace q162 := eq_true q162
                    go_wp2_with (first | ((with_reducible refine gate_callee (f := 44) rfl ?_); refine goesL_ (some 25) rfl rfl Try.func44 (by kernel_rfl) rfl #[.pointer (some ⟨g153, 0, none⟩), .int .u8 (rd l0 x17_1)] rfl (by (try simp only [List.map_toArray, List.map_cons, List.map_nil]); first | done | rfl | (simp only [List.length_drop, List.length_take]; rfl)) ?_; (with_reducible refine (utf8_Reader_Push.calls k1 g153 x154000_1 x154001_1 x154002_1 x154003_1 (rd l0 x17_1) t163 t164 t165 t166 t167 t168 w _ ?side1 ?side2 A11.out).mono ?_); (case side1 => repeat (first | (with_reducible first | exact HI153.out | apply IsS85.alloc | apply IsS85.drewN | apply IsS85.drew | apply IsS85.set_0 | apply IsS85.set_1 | apply IsS85.set_2 | apply IsS85.set_3) | exact HI153.out)); (case side2 => repeat (first | (with_reducible first | exact HB.out | apply below_alloc | apply pw_below_drewN | apply below_drew1 | refine below_set ?_ (IsS85.ge HI153.out)) | exact HB.out)); rintro e w17 ⟨rfl, hi, hb, hk⟩; refine ⟨_, rfl, ?_⟩; have n0_ := Aside0.mk (Kd.R_mono (Kd.R_keep (IsS85.apart (show IsS85 w _ g153 x154000_1 x154001_1 x154002_1 x154003_1 from by repeat (first | (with_reducible first | exact HI153.out | apply IsS85.alloc | apply IsS85.drewN | apply IsS85.drew | apply IsS85.set_0 | apply IsS85.set_1 | apply IsS85.set_2 | apply IsS85.set_3) | exact HI153.out)) (by (with_reducible repeat (first | apply Kd.R_alloc | apply Kd.R_drewN | apply Kd.R_drew)); exact HO_6.out) (by decide)) hk (fun _ h => h.2)) (fun _ h => h.1)); have n1_ := Aside0.mk (hb); have n2_ := Aside0.mk (hi); clear HO_6; clear HB; clear HI153; have HO_6 := n0_; have HB := n1_; have HI153 := n2_; clear n0_ n1_ n2_; (try clear hb); (try clear hb2); (try clear hk); (try clear hi)))
                    go_ret3
                    exact ⟨_, by first | rfl | (simp [errW_none, errW_some] <;> rfl) | (simp [*, errW_none, errW_some] <;> rfl), by first | exact Kd.R_nil _ _ _ _ _ | exact Kd.N_nil _ _ _ _ _ | exact Kd.V_nil _ _ _ _ _ | exact Kd.Q_nil _ _ _ _ _ | exact Kd.S_nil _ _ _ _ _, by repeat (first | (with_reducible first | exact HB.out | apply below_alloc | apply pw_below_drewN | apply below_drew1 | refine below_set ?_ (IsS85.ge HI153.out)) | exact HB.out)⟩
                  · rw [if_neg c16] at H
                    have c16b0 : (t164 == 3) = false := beq_eq_false_iff_ne.mpr c16
                    have c16b1 : (t164 != 3) = true := bne_iff_ne.mpr c16
                    have H' := Aside0.mk H
                    clear H
                    have p162 : 0 ≤ (x17_1 : Int) := of_decide_eq_true (by first | (with_reducible assumption) | assumption)
                    have q162 : x17_1 < (l0.length : Int) := of_decide_eq_true (by first | (with_reducible assumption) | assumption)
                    obtain ⟨ad162, e162, hx162_0⟩ := Kd.at_int HR0.out x17_1 p162 q162
                    cases e162
                    replace hx162_0 := (HB.out.cell (World.block_lt_of_cell? w _ hx162_0)).trans hx162_0
                    replace p162 := eq_true p162
                    replace q162 := eq_true q162
                    go_wp2_with (first | ((with_reducible refine gate_callee (f := 44) rfl ?_); refine goesL_ (some 25) rfl rfl Try.func44 (by kernel_rfl) rfl #[.pointer (some ⟨g153, 0, none⟩), .int .u8 (rd l0 x17_1)] rfl (by (try simp only [List.map_toArray, List.map_cons, List.map_nil]); first | done | rfl | (simp only [List.length_drop, List.length_take]; rfl)) ?_; (with_reducible refine (utf8_Reader_Push.calls k1 g153 x154000_1 x154001_1 x154002_1 x154003_1 (rd l0 x17_1) t163 t164 t165 t166 t167 t168 w _ ?side1 ?side2 A11.out).mono ?_); (case side1 => repeat (first | (with_reducible first | exact HI153.out | apply IsS85.alloc | apply IsS85.drewN | apply IsS85.drew | apply IsS85.set_0 | apply IsS85.set_1 | apply IsS85.set_2 | apply IsS85.set_3) | exact HI153.out)); (case side2 => repeat (first | (with_reducible first | exact HB.out | apply below_alloc | apply pw_below_drewN | apply below_drew1 | refine below_set ?_ (IsS85.ge HI153.out)) | exact HB.out)); rintro e w18 ⟨rfl, hi, hb, hk⟩; refine ⟨_, rfl, ?_⟩; have n0_ := Aside0.mk (Kd.R_mono (Kd.R_keep (IsS85.apart (show IsS85 w _ g153 x154000_1 x154001_1 x154002_1 x154003_1 from by repeat (first | (with_reducible first | exact HI153.out | apply IsS85.alloc | apply IsS85.drewN | apply IsS85.drew | apply IsS85.set_0 | apply IsS85.set_1 | apply IsS85.set_2 | apply IsS85.set_3) | exact HI153.out)) (by (with_reducible repeat (first | apply Kd.R_alloc | apply Kd.R_drewN | apply Kd.R_drew)); exact HO_6.out) (by decide)) hk (fun _ h => h.2)) (fun _ h => h.1)); have n1_ := Aside0.mk (hb); have n2_ := Aside0.mk (hi); clear HO_6; clear HB; clear HI153; have HO_6 := n0_; have HB := n1_; have HI153 := n2_; clear n0_ n1_ n2_; (try clear hb); (try clear hb2); (try clear hk); (try clear hi)))
                    go_roundg k1
                    case measure => have := HK1.out; omega
                    case rel => exact ⟨(x6_1), (wrap64 (x17_1 + 1)), (t165), (t166), (t167), (t168), (by first | rfl | (simp; done) | (simp [*]; done)), H', ⟨by have := HK1.out; omega⟩, ⟨by (with_reducible repeat (first | apply Kd.R_alloc | apply Kd.R_drewN | apply Kd.R_drew)); exact HO_6.out⟩, ⟨by repeat (first | (with_reducible first | exact HI153.out | apply IsS85.alloc | apply IsS85.drewN | apply IsS85.drew | apply IsS85.set_0 | apply IsS85.set_1 | apply IsS85.set_2 | apply IsS85.set_3) | exact HI153.out)⟩, ⟨by repeat (first | (with_reducible first | exact HB.out | apply below_alloc | apply pw_below_drewN | apply below_drew1 | refine below_set ?_ (IsS85.ge HI153.out)) | exact HB.out)⟩⟩
              · rw [if_neg c10] at H
                exact absurd H (by simp)
            · rw [if_neg c9] at H
              exact absurd H (by simp)
          · rw [if_neg c8] at H
            have c8b0 : decide (x17_1 < (l0.length : Int)) = false := decide_eq_false c8
            clear c8
            replace H := Option.bind_eq_some_iff.mp H
            obtain ⟨⟨t157, t158, t159, t160, t161⟩, A190, H⟩ := H
            replace H : (if t157 > 0 then (some (([] : List Int), (l0.length : Int), false)) else (some (x6_1, (l0.length : Int), true))) = some (r1, r2, r3) := H
            have A19 := Aside0.mk A190
            clear A190
            by_cases c20 : t157 > 0
            · rw [if_pos c20] at H
              have c20b0 : decide (0 < t157) = true := decide_eq_true c20
              clear c20
              simp only [Option.some.injEq, Prod.mk.injEq] at H
              obtain ⟨rfl, rfl, rfl⟩ := H
              go_wp2_with (first | ((with_reducible refine gate_callee (f := 45) rfl ?_); refine goesL_ (some 40) rfl rfl Try.func45 (by kernel_rfl) rfl #[.pointer (some ⟨g153, 0, none⟩)] rfl (by (try simp only [List.map_toArray, List.map_cons, List.map_nil]); first | done | rfl | (simp only [List.length_drop, List.length_take]; rfl)) ?_; (with_reducible refine (utf8_Reader_Left.calls g153 x154000_1 x154001_1 x154002_1 x154003_1 t157 t158 t159 t160 t161 w _ ?side1 ?side2 A19.out).mono ?_); (case side1 => repeat (first | (with_reducible first | exact HI153.out | apply IsS85.alloc | apply IsS85.drewN | apply IsS85.drew | apply IsS85.set_0 | apply IsS85.set_1 | apply IsS85.set_2 | apply IsS85.set_3) | exact HI153.out)); (case side2 => repeat (first | (with_reducible first | exact HB.out | apply below_alloc | apply pw_below_drewN | apply below_drew1 | refine below_set ?_ (IsS85.ge HI153.out)) | exact HB.out)); rintro e w21 ⟨rfl, hi, hb, hk⟩; refine ⟨_, rfl, ?_⟩; have n0_ := Aside0.mk (Kd.R_mono (Kd.R_keep (IsS85.apart (show IsS85 w _ g153 x154000_1 x154001_1 x154002_1 x154003_1 from by repeat (first | (with_reducible first | exact HI153.out | apply IsS85.alloc | apply IsS85.drewN | apply IsS85.drew | apply IsS85.set_0 | apply IsS85.set_1 | apply IsS85.set_2 | apply IsS85.set_3) | exact HI153.out)) (by (with_reducible repeat (first | apply Kd.R_alloc | apply Kd.R_drewN | apply Kd.R_drew)); exact HO_6.out) (by decide)) hk (fun _ h => h.2)) (fun _ h => h.1)); have n1_ := Aside0.mk (hb); have n2_ := Aside0.mk (hi); clear HO_6; clear HB; clear HI153; have HO_6 := n0_; have HB := n1_; have HI153 := n2_; clear n0_ n1_ n2_; (try clear hb); (try clear hb2); (try clear hk); (try clear hi)))
              go_ret3
              exact ⟨_, by first | rfl | (simp [errW_none, errW_some] <;> rfl) | (simp [*, errW_none, errW_some] <;> rfl), by first | exact Kd.R_nil _ _ _ _ _ | exact Kd.N_nil _ _ _ _ _ | exact Kd.V_nil _ _ _ _ _ | exact Kd.Q_nil _ _ _ _ _ | exact Kd.S_nil _ _ _ _ _, by repeat (first | (with_reducible first | exact HB.out | apply below_alloc | apply pw_below_drewN | apply below_drew1 | refine below_set ?_ (IsS85.ge HI153.out)) | exact HB.out)⟩
            · rw [if_neg c20] at H
              have c20b0 : decide (0 < t157) = false := decide_eq_false c20
              clear c20
              simp only [Option.some.injEq, Prod.mk.injEq] at H
              obtain ⟨rfl, rfl, rfl⟩ := H
              go_wp2_with (first | ((with_reducible refine gate_callee (f := 45) rfl ?_); refine goesL_ (some 40) rfl rfl Try.func45 (by kernel_rfl) rfl #[.pointer (some ⟨g153, 0, none⟩)] rfl (by (try simp only [List.map_toArray, List.map_cons, List.map_nil]); first | done | rfl | (simp only [List.length_drop, List.length_take]; rfl)) ?_; (with_reducible refine (utf8_Reader_Left.calls g153 x154000_1 x154001_1 x154002_1 x154003_1 t157 t158 t159 t160 t161 w _ ?side1 ?side2 A19.out).mono ?_); (case side1 => repeat (first | (with_reducible first | exact HI153.out | apply IsS85.alloc | apply IsS85.drewN | apply IsS85.drew | apply IsS85.set_0 | apply IsS85.set_1 | apply IsS85.set_2 | apply IsS85.set_3) | exact HI153.out)); (case side2 => repeat (first | (with_reducible first | exact HB.out | apply below_alloc | apply pw_below_drewN | apply below_drew1 | refine below_set ?_ (IsS85.ge HI153.out)) | exact HB.out)); rintro e w22 ⟨rfl, hi, hb, hk⟩; refine ⟨_, rfl, ?_⟩; have n0_ := Aside0.mk (Kd.R_mono (Kd.R_keep (IsS85.apart (show IsS85 w _ g153 x154000_1 x154001_1 x154002_1 x154003_1 from by repeat (first | (with_reducible first | exact HI153.out | apply IsS85.alloc | apply IsS85.drewN | apply IsS85.drew | apply IsS85.set_0 | apply IsS85.set_1 | apply IsS85.set_2 | apply IsS85.set_3) | exact HI153.out)) (by (with_reducible repeat (first | apply Kd.R_alloc | apply Kd.R_drewN | apply Kd.R_drew)); exact HO_6.out) (by decide)) hk (fun _ h => h.2)) (fun _ h => h.1)); have n1_ := Aside0.mk (hb); have n2_ := Aside0.mk (hi); clear HO_6; clear HB; clear HI153; have HO_6 := n0_; have HB := n1_; have HI153 := n2_; clear n0_ n1_ n2_; (try clear hb); (try clear hb2); (try clear hk); (try clear hi)))
              go_ret3
              exact ⟨_, by first | rfl | (simp [errW_none, errW_some] <;> rfl) | (simp [*, errW_none, errW_some] <;> rfl), by (with_reducible repeat (first | apply Kd.R_alloc | apply Kd.R_drewN | apply Kd.R_drew)); exact HO_6.out, by repeat (first | (with_reducible first | exact HB.out | apply below_alloc | apply pw_below_drewN | apply below_drew1 | refine below_set ?_ (IsS85.ge HI153.out)) | exact HB.out)⟩
    · rw [if_neg c4] at H
      exact absurd H (by simp)
  · rw [if_neg c3] at H
    exact absurd H (by simp)

-- NOT PRINTED: function 25 (order_scalars)

-- NOT PRINTED: function 12 (order_Less)

/-! ### orthoepylaw21_same: function 14 -/
def orthoepylaw21_same.l0 : Nat → List Int → List Int → Int → Option (Bool)
  | 0, _, _, _ => none
  | k + 1, x0, x1, x5 => if x5 < (x0.length : Int) then (if 0 ≤ x5 then (if x5 < (x1.length : Int) then (if (rd x0 x5) = (rd x1 x5) then (orthoepylaw21_same.l0 k x0 x1 (wrap64 (x5 + 1))) else (some false)) else (none)) else (none)) else (some true)
def orthoepylaw21_same.f (k : Nat) (l0 : List Int) (l1 : List Int) : Option (Bool) := if (l0.length : Int) = (l1.length : Int) then (orthoepylaw21_same.l0 k l0 l1 0) else (some false)
theorem orthoepylaw21_same.mono_l : ∀ k, (∀ y0 y1 y2, LeO (orthoepylaw21_same.l0 k y0 y1 y2) (orthoepylaw21_same.l0 (k + 1) y0 y1 y2))
  | 0 => fun _ _ _ r h => by simp [orthoepylaw21_same.l0] at h
  | k + 1 => by
    have ih0 := orthoepylaw21_same.mono_l k
    · intro y0 y1 y2
      unfold orthoepylaw21_same.l0
      repeat' first
      | (with_reducible exact ih0 _ _ _)
      | (with_reducible exact LeO.refl _)
      | (with_reducible exact LeO.none _)
      | (with_reducible refine LeO.ite ?_ ?_)
      | (with_reducible refine LeO.bind ?_ (fun _ => ?_))
      | exact ih0 _ _ _
      | exact LeO.none _
      | refine LeO.ite ?_ ?_
      | refine LeO.bind ?_ (fun _ => ?_)
theorem orthoepylaw21_same.mono : ∀ a0 a1 k, LeO (orthoepylaw21_same.f k a0 a1) (orthoepylaw21_same.f (k + 1) a0 a1) := by
  intro a0 a1 k
  have ih0 := orthoepylaw21_same.mono_l k
  unfold orthoepylaw21_same.f
  repeat' first
      | (with_reducible exact ih0 _ _ _)
      | (with_reducible exact LeO.refl _)
      | (with_reducible exact LeO.none _)
      | (with_reducible refine LeO.ite ?_ ?_)
      | (with_reducible refine LeO.bind ?_ (fun _ => ?_))
      | exact ih0 _ _ _
      | exact LeO.none _
      | refine LeO.ite ?_ ?_
      | refine LeO.bind ?_ (fun _ => ?_)
set_option maxHeartbeats 8000000 in
set_option maxRecDepth 100000 in
theorem orthoepylaw21_same.calls (k : Nat) (A0 : Option Addr) (c0 : Nat) (l0 : List Int) (A1 : Option Addr) (c1 : Nat) (l1 : List Int) (r : Bool) (w : World) (hr0 : Kd.C (Kd.int .i64) w A0 l0.length l0) (hc0 : l0.length ≤ c0) (hr1 : Kd.C (Kd.int .i64) w A1 l1.length l1) (hc1 : l1.length ≤ c1) (h : orthoepylaw21_same.f k l0 l1 = some r) :
    Calls Try.prog 14 #[.slice A0 l0.length c0, .slice A1 l1.length c1] w fun e w' => e = .returned (.bool r) ∧ Drawn0 w w' := by
  have HR0 := Aside0.mk hr0
  have HC0 := Aside0.mk hc0
  clear hr0 hc0
  have HR1 := Aside0.mk hr1
  have HC1 := Aside0.mk hc1
  clear hr1 hc1
  have H : (if (l0.length : Int) = (l1.length : Int) then (orthoepylaw21_same.l0 k l0 l1 0) else (some false)) = some r := h
  clear h
  by_cases c3 : (l0.length : Int) = (l1.length : Int)
  · rw [if_pos c3] at H
    have c3b0 : ((l0.length : Int) == (l1.length : Int)) = true := beq_iff_eq.mpr c3
    have c3b1 : ((l0.length : Int) != (l1.length : Int)) = false := bne_eq_false_iff_eq.mpr c3
    have c3b2 : (l0.length == l1.length) = true := by first | simpa using c3 | (simp at c3 ⊢; omega)
    clear c3
    have H' := Aside0.mk H
    clear H
    go_enter Try.func14, Try.ntmps14
    go_wp2
    repeat (go_quiet (fail); try go_wp2)
    go_loopg [5] k (fun kq v5 w' => ∃ (x5_1 : Int), v5 = .int .i64 x5_1 ∧ Aside0 (orthoepylaw21_same.l0 kq l0 l1 x5_1 = some r) ∧ Aside0 (kq ≤ k) ∧ Drawn0 w w')
    case atStart => exact ⟨(0), (by first | rfl | (simp; done) | (simp [*]; done)), H', ⟨Nat.le_refl _⟩, by repeat (first | exact Drawn0.refl _ | apply Drawn0.step)⟩
    case round =>
      clear H'
      try clear c1
      try clear p2
      try clear c3
      try clear c3b0
      try clear c3b1
      try clear c3b2
      obtain ⟨x5_1, rfl, HA, HK1, ⟨m1, rfl⟩⟩ := hrel
      cases gk with
      | zero => exact absurd HA.out (by simp [orthoepylaw21_same.l0])
      | succ k1 =>
        have H := HA.out
        clear HA
        simp only [orthoepylaw21_same.l0] at H
        by_cases c4 : x5_1 < (l0.length : Int)
        · rw [if_pos c4] at H
          have c4b0 : decide (x5_1 < (l0.length : Int)) = true := decide_eq_true c4
          clear c4
          by_cases c5 : 0 ≤ x5_1
          · rw [if_pos c5] at H
            have c5b0 : decide (0 ≤ x5_1) = true := decide_eq_true c5
            clear c5
            by_cases c6 : x5_1 < (l1.length : Int)
            · rw [if_pos c6] at H
              have c6b0 : decide (x5_1 < (l1.length : Int)) = true := decide_eq_true c6
              clear c6
              by_cases c7 : (rd l0 x5_1) = (rd l1 x5_1)
              · rw [if_pos c7] at H
                have c7b0 : ((rd l0 x5_1) == (rd l1 x5_1)) = true := beq_iff_eq.mpr c7
                have c7b1 : ((rd l0 x5_1) != (rd l1 x5_1)) = false := bne_eq_false_iff_eq.mpr c7
                clear c7
                have H' := Aside0.mk H
                clear H
                have p172 : 0 ≤ (x5_1 : Int) := of_decide_eq_true (by first | (with_reducible assumption) | assumption)
                have q172 : x5_1 < (l0.length : Int) := of_decide_eq_true (by first | (with_reducible assumption) | assumption)
                obtain ⟨ad172, e172, hx172_0⟩ := Kd.at_int HR0.out x5_1 p172 q172
                cases e172
                replace p172 := eq_true p172
                replace q172 := eq_true q172
                have p173 : 0 ≤ (x5_1 : Int) := of_decide_eq_true (by first | (with_reducible assumption) | assumption)
                have q173 : x5_1 < (l1.length : Int) := of_decide_eq_true (by first | (with_reducible assumption) | assumption)
                obtain ⟨ad173, e173, hx173_0⟩ := Kd.at_int HR1.out x5_1 p173 q173
                cases e173
                replace p173 := eq_true p173
                replace q173 := eq_true q173
                go_wp2
                repeat (go_quiet (fail); try go_wp2)
                go_roundg k1
                case measure => have := HK1.out; omega
                case rel => exact ⟨(wrap64 (x5_1 + 1)), (by first | rfl | (simp; done) | (simp [*]; done)), H', ⟨by have := HK1.out; omega⟩, by repeat (first | exact Drawn0.refl _ | apply Drawn0.step)⟩
              · rw [if_neg c7] at H
                have c7b0 : ((rd l0 x5_1) == (rd l1 x5_1)) = false := beq_eq_false_iff_ne.mpr c7
                have c7b1 : ((rd l0 x5_1) != (rd l1 x5_1)) = true := bne_iff_ne.mpr c7
                obtain rfl := Option.some.inj H
                have p172 : 0 ≤ (x5_1 : Int) := of_decide_eq_true (by first | (with_reducible assumption) | assumption)
                have q172 : x5_1 < (l0.length : Int) := of_decide_eq_true (by first | (with_reducible assumption) | assumption)
                obtain ⟨ad172, e172, hx172_0⟩ := Kd.at_int HR0.out x5_1 p172 q172
                cases e172
                replace p172 := eq_true p172
                replace q172 := eq_true q172
                have p173 : 0 ≤ (x5_1 : Int) := of_decide_eq_true (by first | (with_reducible assumption) | assumption)
                have q173 : x5_1 < (l1.length : Int) := of_decide_eq_true (by first | (with_reducible assumption) | assumption)
                obtain ⟨ad173, e173, hx173_0⟩ := Kd.at_int HR1.out x5_1 p173 q173
                cases e173
                replace p173 := eq_true p173
                replace q173 := eq_true q173
                go_wp2
                repeat (go_quiet (fail); try go_wp2)
                go_ret
                exact ⟨by first | rfl | (simp; done) | (simp [*]; done), by repeat (first | exact Drawn0.refl _ | apply Drawn0.step)⟩
            · rw [if_neg c6] at H
              exact absurd H (by simp)
          · rw [if_neg c5] at H
            exact absurd H (by simp)
        · rw [if_neg c4] at H
          have c4b0 : decide (x5_1 < (l0.length : Int)) = false := decide_eq_false c4
          clear c4
          obtain rfl := Option.some.inj H
          go_wp2
          repeat (go_quiet (fail); try go_wp2)
          go_ret
          exact ⟨by first | rfl | (simp; done) | (simp [*]; done), by repeat (first | exact Drawn0.refl _ | apply Drawn0.step)⟩
  · rw [if_neg c3] at H
    have c3b0 : ((l0.length : Int) == (l1.length : Int)) = false := beq_eq_false_iff_ne.mpr c3
    have c3b1 : ((l0.length : Int) != (l1.length : Int)) = true := bne_iff_ne.mpr c3
    have c3b2 : (l0.length == l1.length) = false := by first | simpa using c3 | (simp at c3 ⊢; omega)
    obtain rfl := Option.some.inj H
    go_enter Try.func14, Try.ntmps14
    go_wp2
    repeat (go_quiet (fail); try go_wp2)
    go_ret
    exact ⟨by first | rfl | (simp; done) | (simp [*]; done), by repeat (first | exact Drawn0.refl _ | apply Drawn0.step)⟩

/-! ### order_places: function 27 -/
def order_places.l0 : Nat → List Int → List (S45) → Int → Int → Option (List Int)
  | 0, _, _, _, _ => none
  | k + 1, x3, x6, x7, x8 => if x8 < x7 then (if 0 ≤ x8 then (if x8 < (x6.length : Int) then (if x3.length < 17592186044416 then (order_places.l0 k (x3 ++ [(rd_T45 x6 x8).f0]) x6 x7 (wrap64 (x8 + 1))) else (none)) else (none)) else (none)) else (some x3)
def order_places.f (k : Nat) (l0 : List (S45)) : Option (List Int) := order_places.l0 k ([] : List Int) l0 (l0.length : Int) 0
theorem order_places.mono_l : ∀ k, (∀ y0 y1 y2 y3, LeO (order_places.l0 k y0 y1 y2 y3) (order_places.l0 (k + 1) y0 y1 y2 y3))
  | 0 => fun _ _ _ _ r h => by simp [order_places.l0] at h
  | k + 1 => by
    have ih0 := order_places.mono_l k
    · intro y0 y1 y2 y3
      unfold order_places.l0
      repeat' first
      | (with_reducible exact ih0 _ _ _ _)
      | (with_reducible exact LeO.refl _)
      | (with_reducible exact LeO.none _)
      | (with_reducible refine LeO.ite ?_ ?_)
      | (with_reducible refine LeO.bind ?_ (fun _ => ?_))
      | exact ih0 _ _ _ _
      | exact LeO.none _
      | refine LeO.ite ?_ ?_
      | refine LeO.bind ?_ (fun _ => ?_)
theorem order_places.mono : ∀ a0 k, LeO (order_places.f k a0) (order_places.f (k + 1) a0) := by
  intro a0 k
  have ih0 := order_places.mono_l k
  unfold order_places.f
  repeat' first
      | (with_reducible exact ih0 _ _ _ _)
      | (with_reducible exact LeO.refl _)
      | (with_reducible exact LeO.none _)
      | (with_reducible refine LeO.ite ?_ ?_)
      | (with_reducible refine LeO.bind ?_ (fun _ => ?_))
      | exact ih0 _ _ _ _
      | exact LeO.none _
      | refine LeO.ite ?_ ?_
      | refine LeO.bind ?_ (fun _ => ?_)
set_option maxHeartbeats 8000000 in
set_option maxRecDepth 100000 in
theorem order_places.calls (k : Nat) (A0 : Option Addr) (c0 : Nat) (l0 : List (S45)) (r : List Int) (w : World) (hr0 : Kd.C k45 w A0 l0.length l0) (hc0 : l0.length ≤ c0) (h : order_places.f k l0 = some r) :
    Calls Try.prog 27 #[.slice A0 l0.length c0] w fun e w' => ∃ v0_ : Value, e = .returned (v0_) ∧ Kd.R (Kd.int .i64) 3 w' w.heap.size (fun _ => True) v0_ r ∧ Below w.heap.size w w' := by
  have hu45 := Try.underlying45
  have HR0 := Aside0.mk hr0
  have HC0 := Aside0.mk hc0
  clear hr0 hc0
  have HB := Aside0.mk (Below.refl w.heap.size w)
  have H : (order_places.l0 k ([] : List Int) l0 (l0.length : Int) 0) = some r := h
  clear h
  have H' := Aside0.mk H
  clear H
  go_enter Try.func27, Try.ntmps27
  go_wp2
  go_loopg [3, 8] k (fun kq v3 v8 w' => ∃ (x3_1 : List Int) (x8_1 : Int), v8 = .int .i64 x8_1 ∧ Aside0 (order_places.l0 kq x3_1 l0 (l0.length : Int) x8_1 = some r) ∧ Aside0 (kq ≤ k) ∧ Aside0 (Kd.R (Kd.int .i64) 3 w' w.heap.size (fun _ => True) v3 x3_1) ∧ Aside0 (Below w.heap.size w w'))
  case atStart => exact ⟨(([] : List Int)), (0), (by first | rfl | (simp; done) | (simp [*]; done)), H', ⟨Nat.le_refl _⟩, ⟨by first | exact Kd.R_nil _ _ _ _ _ | exact Kd.N_nil _ _ _ _ _ | exact Kd.V_nil _ _ _ _ _ | exact Kd.Q_nil _ _ _ _ _ | exact Kd.S_nil _ _ _ _ _⟩, ⟨by repeat (first | (with_reducible first | exact HB.out | apply below_alloc | apply pw_below_drewN | apply below_drew1) | exact HB.out)⟩⟩
  case round =>
    clear H'
    obtain ⟨x3_1, x8_1, rfl, HA, HK1, HO_3, HB⟩ := hrel
    cases gk with
    | zero => exact absurd HA.out (by simp [order_places.l0])
    | succ k1 =>
      have H := HA.out
      clear HA
      simp only [order_places.l0] at H
      by_cases c2 : x8_1 < (l0.length : Int)
      · rw [if_pos c2] at H
        have c2b0 : decide (x8_1 < (l0.length : Int)) = true := decide_eq_true c2
        clear c2
        by_cases c3 : 0 ≤ x8_1
        · rw [if_pos c3] at H
          have c3b0 : decide (0 ≤ x8_1) = true := decide_eq_true c3
          clear c3
          by_cases c4 : x8_1 < (l0.length : Int)
          · rw [if_pos c4] at H
            have c4b0 : decide (x8_1 < (l0.length : Int)) = true := decide_eq_true c4
            clear c4
            by_cases c5 : x3_1.length < 17592186044416
            · rw [if_pos c5] at H
              have LMc5 := Aside0.mk c5
              clear c5
              obtain ⟨y176, hy176⟩ : ∃ y_ : List Int, y_ = (x3_1 ++ [(rd_T45 l0 x8_1).f0]) := ⟨_, rfl⟩
              replace H : (order_places.l0 k1 y176 l0 (l0.length : Int) (wrap64 (x8_1 + 1))) = some r := by first | (rw [hy176]; with_reducible exact H) | (have H2_ := (Option.bind_some _ _).symm.trans H; rw [hy176]; with_reducible exact H2_) | (have H2_ := (Option.bind_some _ _).symm.trans H; with_reducible exact H2_) | with_reducible exact H | (rw [hy176]; exact H) | exact H
              have Ny176 := Aside0.mk hy176
              clear hy176
              have H' := Aside0.mk H
              clear H
              have p174 : 0 ≤ (x8_1 : Int) := of_decide_eq_true (by first | (with_reducible assumption) | assumption)
              have q174 : x8_1 < (l0.length : Int) := of_decide_eq_true (by first | (with_reducible assumption) | assumption)
              obtain ⟨ad174, A174_1, c174_1, e174, hx174_0, hx174_1, hl174_1, hi174_1⟩ := at_T45 HR0.out x8_1 p174 q174
              cases e174
              replace hx174_0 := (HB.out.cell (World.block_lt_of_cell? w _ hx174_0)).trans hx174_0
              replace hx174_1 := (HB.out.cell (World.block_lt_of_cell? w _ hx174_1)).trans hx174_1
              have HR174_1 := Aside0.mk hi174_1
              have HC174_1 := Aside0.mk hl174_1
              clear hi174_1 hl174_1
              replace p174 := eq_true p174
              replace q174 := eq_true q174
              go_wp2_with (first | ((with_reducible refine gate_dst (N := 5) rfl ?_); refine box_event ?hg (N := 5) ?hd (cs := #[.int .i64 0, .slice none 0 0]) (t := 45) ?hr ?_; (case hd => rfl); (case hg => rfl); (case hr => first | (go_simp; done) | (go_simp; rfl)); intro gb175 hg w6 hbox hb; have n0_ := Aside0.mk (Kd.R_below (by (with_reducible repeat (first | apply Kd.R_alloc | apply Kd.R_drewN | apply Kd.R_drew)); exact HO_3.out) hb); have n1_ := Aside0.mk (below_step (by repeat (first | (with_reducible first | exact HB.out | apply below_alloc | apply pw_below_drewN | apply below_drew1) | exact HB.out)) hb); have n2_ := Aside0.mk (hbox); have n3_ := Aside0.mk ((by rw [hg]; exact (below_size (by repeat (first | (with_reducible first | exact HB.out | apply below_alloc | apply pw_below_drewN | apply below_drew1) | exact HB.out))) : w.heap.size ≤ gb175)); have n4_ := Aside0.mk ((by rw [hg]; exact (below_size (by repeat (first | (with_reducible first | exact HB.out | apply below_alloc | apply pw_below_drewN | apply below_drew1) | exact HB.out))) : w.heap.size ≤ gb175)); clear HO_3; clear HB; have HO_3 := n0_; have HB := n1_; have BK175 := n2_; have GW175 := n3_; have GE175 := n4_; clear n0_ n1_ n2_ n3_ n4_; clear hb hbox hg; have hcz7_0 : w6.cell? ⟨gb175, 0, none⟩ = some (.int .i64 0) := (blk_cell BK175.out 0).trans rfl; have hcz7_1 : w6.cell? ⟨gb175, 1, none⟩ = some (.slice none 0 0) := (blk_cell BK175.out 1).trans rfl; have hfz7_0 := blk_frozen BK175.out 0; have hfz7_1 := blk_frozen BK175.out 1) | ((with_reducible refine gate_builtin (b := .append) (xs := #[.tmp 12, .tmp 15]) rfl ?_); at_builtin; refine Kd.R_append (Kd.int .i64) (w0 := w) w.heap.size rfl (.tmp 12) (.tmp 15) 27 3 (.int .i64 0) 8 rfl Try.underlying27 info3 rfl (by decide) (by omega) u3 x3_1 ((rd_T45 l0 x8_1).f0) [.int .i64 ((rd_T45 l0 x8_1).f0)] (fun _ => True) (fun _ => False) rfl (by first | (go_simp; done) | (go_simp; rfl)) ?aP (fun _ hk => hk.elim) ?aF ?aO ?aB ?aS ?aL ?_; (case aP => exact rfl); (case aB => exact (by repeat (first | (with_reducible first | exact HB.out | apply below_alloc | apply pw_below_drewN | apply below_drew1 | refine below_set ?_ GE175.out) | exact HB.out))); (case aF => exact (fun _ _ => trivial)); (case aO => exact (by (with_reducible repeat (first | apply Kd.R_alloc | apply Kd.R_drewN | apply Kd.R_drew)); exact Kd.R_mono (Kd.R_far (p := ⟨gb175, 1, none⟩) (Kd.R_far (p := ⟨gb175, 0, none⟩) (Kd.R_types HO_3.out BK175.out (by decide)) (fun _ hk => hk.2) (.int .i64 ((rd_T45 l0 x8_1).f0))) (fun _ hk => hk.2) (.slice A174_1 ((rd_T45 l0 x8_1).f1).length c174_1)) (fun _ hk => trivial))); (case aS => exact (below_size (by repeat (first | (with_reducible first | exact HB.out | apply below_alloc | apply pw_below_drewN | apply below_drew1 | refine below_set ?_ GE175.out) | exact HB.out)))); (case aL => have := LMc5.out; omega); intro v177 w8 ho hb hg hat; rw [← Ny176.out] at ho; have n0_ := Aside0.mk (blk_grown (g := gb175) (o := .cells #[.int .i64 ((rd_T45 l0 x8_1).f0), .slice A174_1 ((rd_T45 l0 x8_1).f1).length c174_1] 45 (0, 0)) (by (with_reducible repeat (first | refine blk_drewN ?_ _ | refine blk_drew ?_ | refine blk_alloc ?_ _)); refine blk_put (cs := #[.int .i64 ((rd_T45 l0 x8_1).f0), .slice none 0 0]) ?_ 1 _ rfl; (with_reducible repeat (first | refine blk_drewN ?_ _ | refine blk_drew ?_ | refine blk_alloc ?_ _)); refine blk_put (cs := #[.int .i64 0, .slice none 0 0]) ?_ 0 _ rfl; (with_reducible repeat (first | refine blk_drewN ?_ _ | refine blk_drew ?_ | refine blk_alloc ?_ _)); exact BK175.out) hg (Kd.R_ne HO_3.out BK175.out (by decide))); have n1_ := Aside0.mk (hb); have n2_ := Aside0.mk (ho); clear BK175; clear HB; clear HO_3; have BK175 := n0_; have HB := n1_; have HO178 := n2_; clear n0_ n1_ n2_; clear ho hb hg hat))
              go_roundg k1
              case measure => have := HK1.out; omega
              case rel => exact ⟨(y176), (wrap64 (x8_1 + 1)), (by first | rfl | (simp; done) | (simp [*]; done)), H', ⟨by have := HK1.out; omega⟩, ⟨by (with_reducible repeat (first | apply Kd.R_alloc | apply Kd.R_drewN | apply Kd.R_drew)); exact HO178.out⟩, ⟨by repeat (first | (with_reducible first | exact HB.out | apply below_alloc | apply pw_below_drewN | apply below_drew1 | refine below_set ?_ GE175.out) | exact HB.out)⟩⟩
            · rw [if_neg c5] at H
              exact absurd H (by simp)
          · rw [if_neg c4] at H
            exact absurd H (by simp)
        · rw [if_neg c3] at H
          exact absurd H (by simp)
      · rw [if_neg c2] at H
        have c2b0 : decide (x8_1 < (l0.length : Int)) = false := decide_eq_false c2
        clear c2
        obtain rfl := Option.some.inj H
        go_wp2
        go_ret
        exact ⟨_, by first | rfl | (simp [errW_none, errW_some] <;> rfl) | (simp [*, errW_none, errW_some] <;> rfl), by (with_reducible repeat (first | apply Kd.R_alloc | apply Kd.R_drewN | apply Kd.R_drew)); exact HO_3.out, by repeat (first | (with_reducible first | exact HB.out | apply below_alloc | apply pw_below_drewN | apply below_drew1) | exact HB.out)⟩

-- NOT PRINTED: function 47 (order_item_47)

-- NOT PRINTED: function 38 (order_item_38)

-- NOT PRINTED: function 28 (order_item_28)

-- NOT PRINTED: function 15 (order_Sort)

-- NOT PRINTED: function 29 (order_items)

-- NOT PRINTED: function 18 (order_Merge)

-- NOT PRINTED: function 11 (orthoepylaw21_awake)

-- NOT PRINTED: function 22 (orthoepyref02_Of)

/-! ### orthoepyref01_Is: function 31 -/
def orthoepyref01_Is.f (a0 : Int) : Option (Bool) := if a0 ≥ 0 then (if a0 < 55296 then (some true) else (if a0 > 57343 then (some (decide (a0 ≤ 1114111))) else (some false))) else (if a0 > 57343 then (some (decide (a0 ≤ 1114111))) else (some false))
set_option maxHeartbeats 8000000 in
set_option maxRecDepth 100000 in
theorem orthoepyref01_Is.calls (a0 : Int) (r : Bool) (w : World) (h : orthoepyref01_Is.f a0 = some r) :
    Calls Try.prog 31 #[.int .i32 a0] w fun e w' => e = .returned (.bool r) ∧ Drawn0 w w' := by
  have H : (if a0 ≥ 0 then (if a0 < 55296 then (some true) else (if a0 > 57343 then (some (decide (a0 ≤ 1114111))) else (some false))) else (if a0 > 57343 then (some (decide (a0 ≤ 1114111))) else (some false))) = some r := h
  clear h
  by_cases c2 : a0 ≥ 0
  · rw [if_pos c2] at H
    have c2b0 : decide (0 ≤ a0) = true := decide_eq_true c2
    clear c2
    by_cases c3 : a0 < 55296
    · rw [if_pos c3] at H
      have c3b0 : decide (a0 < 55296) = true := decide_eq_true c3
      clear c3
      obtain rfl := Option.some.inj H
      go_enter Try.func31, Try.ntmps31
      go_wp2
      go_ret
      exact ⟨by first | rfl | (simp; done) | (simp [*]; done), by repeat (first | exact Drawn0.refl _ | apply Drawn0.step)⟩
    · rw [if_neg c3] at H
      have c3b0 : decide (a0 < 55296) = false := decide_eq_false c3
      clear c3
      by_cases c4 : a0 > 57343
      · rw [if_pos c4] at H
        have c4b0 : decide (57343 < a0) = true := decide_eq_true c4
        clear c4
        obtain rfl := Option.some.inj H
        go_enter Try.func31, Try.ntmps31
        go_wp2
        go_ret
        exact ⟨by first | rfl | (simp; done) | (simp [*]; done), by repeat (first | exact Drawn0.refl _ | apply Drawn0.step)⟩
      · rw [if_neg c4] at H
        have c4b0 : decide (57343 < a0) = false := decide_eq_false c4
        clear c4
        obtain rfl := Option.some.inj H
        go_enter Try.func31, Try.ntmps31
        go_wp2
        go_ret
        exact ⟨by first | rfl | (simp; done) | (simp [*]; done), by repeat (first | exact Drawn0.refl _ | apply Drawn0.step)⟩
  · rw [if_neg c2] at H
    have c2b0 : decide (0 ≤ a0) = false := decide_eq_false c2
    clear c2
    by_cases c5 : a0 > 57343
    · rw [if_pos c5] at H
      have c5b0 : decide (57343 < a0) = true := decide_eq_true c5
      clear c5
      obtain rfl := Option.some.inj H
      go_enter Try.func31, Try.ntmps31
      go_wp2
      go_ret
      exact ⟨by first | rfl | (simp; done) | (simp [*]; done), by repeat (first | exact Drawn0.refl _ | apply Drawn0.step)⟩
    · rw [if_neg c5] at H
      have c5b0 : decide (57343 < a0) = false := decide_eq_false c5
      clear c5
      obtain rfl := Option.some.inj H
      go_enter Try.func31, Try.ntmps31
      go_wp2
      go_ret
      exact ⟨by first | rfl | (simp; done) | (simp [*]; done), by repeat (first | exact Drawn0.refl _ | apply Drawn0.step)⟩

/-! ### orthoepyref01_Split: function 46 -/
def orthoepyref01_Split.f (a0 : Int) : Option (Int × Int × Bool) := if a0 < 65536 then (some (0, 0, false)) else (if a0 > 1114111 then (some (0, 0, false)) else (some (IntKind.u16.wrap (wrap32 (55296 + (wrap32 (Int.tdiv (wrap32 (a0 - 65536)) 1024)))), IntKind.u16.wrap (wrap32 (56320 + (Int.tmod (wrap32 (a0 - 65536)) 1024))), true)))
set_option maxHeartbeats 8000000 in
set_option maxRecDepth 100000 in
theorem orthoepyref01_Split.calls (a0 : Int) (r1 : Int) (r2 : Int) (r3 : Bool) (w : World) (h : orthoepyref01_Split.f a0 = some (r1, r2, r3)) :
    Calls Try.prog 46 #[.int .i32 a0] w fun e w' => e = .returned (.tuple #[.int .u16 r1, .int .u16 r2, .bool r3]) ∧ Drawn0 w w' := by
  have H : (if a0 < 65536 then (some (0, 0, false)) else (if a0 > 1114111 then (some (0, 0, false)) else (some (IntKind.u16.wrap (wrap32 (55296 + (wrap32 (Int.tdiv (wrap32 (a0 - 65536)) 1024)))), IntKind.u16.wrap (wrap32 (56320 + (Int.tmod (wrap32 (a0 - 65536)) 1024))), true)))) = some (r1, r2, r3) := h
  clear h
  by_cases c2 : a0 < 65536
  · rw [if_pos c2] at H
    have c2b0 : decide (a0 < 65536) = true := decide_eq_true c2
    clear c2
    simp only [Option.some.injEq, Prod.mk.injEq] at H
    obtain ⟨rfl, rfl, rfl⟩ := H
    go_enter Try.func46, Try.ntmps46
    go_wp2
    go_ret3
    exact ⟨by first | rfl | (simp; done) | (simp [*]; done), by repeat (first | exact Drawn0.refl _ | apply Drawn0.step)⟩
  · rw [if_neg c2] at H
    have c2b0 : decide (a0 < 65536) = false := decide_eq_false c2
    clear c2
    by_cases c3 : a0 > 1114111
    · rw [if_pos c3] at H
      have c3b0 : decide (1114111 < a0) = true := decide_eq_true c3
      clear c3
      simp only [Option.some.injEq, Prod.mk.injEq] at H
      obtain ⟨rfl, rfl, rfl⟩ := H
      go_enter Try.func46, Try.ntmps46
      go_wp2
      go_ret3
      exact ⟨by first | rfl | (simp; done) | (simp [*]; done), by repeat (first | exact Drawn0.refl _ | apply Drawn0.step)⟩
    · rw [if_neg c3] at H
      have c3b0 : decide (1114111 < a0) = false := decide_eq_false c3
      clear c3
      simp only [Option.some.injEq, Prod.mk.injEq] at H
      obtain ⟨rfl, rfl, rfl⟩ := H
      go_enter Try.func46, Try.ntmps46
      go_wp2
      go_ret3
      exact ⟨by first | rfl | (simp; done) | (simp [*]; done), by repeat (first | exact Drawn0.refl _ | apply Drawn0.step)⟩

/-! ### orthoepyref03_Units: function 37 -/
def orthoepyref03_Units.l0 : Nat → List Int → List Int → Int → Option (List Int)
  | 0, _, _, _ => none
  | k + 1, x0, x3, x4 => if x4 < (x0.length : Int) then (if 0 ≤ x4 then ((orthoepyref01_Split.f (rd x0 x4)).bind fun bt187 => (if bt187.2.2 = true then ((some (([bt187.1, bt187.2.1] : List Int) : List Int)).bind fun y190 => (if x3.length + y190.length < 70368744177664 then (orthoepyref03_Units.l0 k x0 (x3 ++ y190) (wrap64 (x4 + 1))) else (none))) else ((orthoepyref01_Is.f (rd x0 x4)).bind fun t197 => (if t197 = true then (if x3.length < 70368744177664 then (orthoepyref03_Units.l0 k x0 (x3 ++ [IntKind.u16.wrap (rd x0 x4)]) (wrap64 (x4 + 1))) else (none)) else (orthoepyref03_Units.l0 k x0 x3 (wrap64 (x4 + 1))))))) else (none)) else (some x3)
def orthoepyref03_Units.f (k : Nat) (l0 : List Int) : Option (List Int) := orthoepyref03_Units.l0 k l0 ([] : List Int) 0
theorem orthoepyref03_Units.mono_l : ∀ k, (∀ y0 y1 y2, LeO (orthoepyref03_Units.l0 k y0 y1 y2) (orthoepyref03_Units.l0 (k + 1) y0 y1 y2))
  | 0 => fun _ _ _ r h => by simp [orthoepyref03_Units.l0] at h
  | k + 1 => by
    have ih0 := orthoepyref03_Units.mono_l k
    · intro y0 y1 y2
      unfold orthoepyref03_Units.l0
      repeat' first
      | (with_reducible exact ih0 _ _ _)
      | (with_reducible exact LeO.refl _)
      | (with_reducible exact LeO.none _)
      | (with_reducible refine LeO.ite ?_ ?_)
      | (with_reducible refine LeO.bind ?_ (fun _ => ?_))
      | exact ih0 _ _ _
      | exact LeO.none _
      | refine LeO.ite ?_ ?_
      | refine LeO.bind ?_ (fun _ => ?_)
theorem orthoepyref03_Units.mono : ∀ a0 k, LeO (orthoepyref03_Units.f k a0) (orthoepyref03_Units.f (k + 1) a0) := by
  intro a0 k
  have ih0 := orthoepyref03_Units.mono_l k
  unfold orthoepyref03_Units.f
  repeat' first
      | (with_reducible exact ih0 _ _ _)
      | (with_reducible exact LeO.refl _)
      | (with_reducible exact LeO.none _)
      | (with_reducible refine LeO.ite ?_ ?_)
      | (with_reducible refine LeO.bind ?_ (fun _ => ?_))
      | exact ih0 _ _ _
      | exact LeO.none _
      | refine LeO.ite ?_ ?_
      | refine LeO.bind ?_ (fun _ => ?_)
set_option maxHeartbeats 8000000 in
set_option maxRecDepth 100000 in
theorem orthoepyref03_Units.calls (k : Nat) (A0 : Option Addr) (c0 : Nat) (l0 : List Int) (r : List Int) (w : World) (hr0 : Kd.C (Kd.int .i32) w A0 l0.length l0) (hc0 : l0.length ≤ c0) (h : orthoepyref03_Units.f k l0 = some r) :
    Calls Try.prog 37 #[.slice A0 l0.length c0] w fun e w' => ∃ v0_ : Value, e = .returned (v0_) ∧ Kd.R (Kd.int .u16) 59 w' w.heap.size (fun _ => True) v0_ r ∧ Below w.heap.size w w' := by
  have HR0 := Aside0.mk hr0
  have HC0 := Aside0.mk hc0
  clear hr0 hc0
  have HB := Aside0.mk (Below.refl w.heap.size w)
  have H : (orthoepyref03_Units.l0 k l0 ([] : List Int) 0) = some r := h
  clear h
  have H' := Aside0.mk H
  clear H
  go_enter Try.func37, Try.ntmps37
  go_wp2
  go_loopg [3, 4] k (fun kq v3 v4 w' => ∃ (x3_1 : List Int) (x4_1 : Int), v4 = .int .i64 x4_1 ∧ Aside0 (orthoepyref03_Units.l0 kq l0 x3_1 x4_1 = some r) ∧ Aside0 (kq ≤ k) ∧ Aside0 (Kd.R (Kd.int .u16) 59 w' w.heap.size (fun _ => True) v3 x3_1) ∧ Aside0 (Below w.heap.size w w'))
  case atStart => exact ⟨(([] : List Int)), (0), (by first | rfl | (simp; done) | (simp [*]; done)), H', ⟨Nat.le_refl _⟩, ⟨by first | exact Kd.R_nil _ _ _ _ _ | exact Kd.N_nil _ _ _ _ _ | exact Kd.V_nil _ _ _ _ _ | exact Kd.Q_nil _ _ _ _ _ | exact Kd.S_nil _ _ _ _ _⟩, ⟨by repeat (first | (with_reducible first | exact HB.out | apply below_alloc | apply pw_below_drewN | apply below_drew1) | exact HB.out)⟩⟩
  case round =>
    clear H'
    obtain ⟨x3_1, x4_1, rfl, HA, HK1, HO_3, HB⟩ := hrel
    cases gk with
    | zero => exact absurd HA.out (by simp [orthoepyref03_Units.l0])
    | succ k1 =>
      have H := HA.out
      clear HA
      simp only [orthoepyref03_Units.l0] at H
      by_cases c2 : x4_1 < (l0.length : Int)
      · rw [if_pos c2] at H
        have c2b0 : decide (x4_1 < (l0.length : Int)) = true := decide_eq_true c2
        clear c2
        by_cases c3 : 0 ≤ x4_1
        · rw [if_pos c3] at H
          have c3b0 : decide (0 ≤ x4_1) = true := decide_eq_true c3
          clear c3
          replace H := Option.bind_eq_some_iff.mp H
          obtain ⟨⟨t187, t188, t189⟩, A40, H⟩ := H
          replace H : (if t189 = true then ((some (([t187, t188] : List Int) : List Int)).bind fun y190 => (if x3_1.length + y190.length < 70368744177664 then (orthoepyref03_Units.l0 k1 l0 (x3_1 ++ y190) (wrap64 (x4_1 + 1))) else (none))) else ((orthoepyref01_Is.f (rd l0 x4_1)).bind fun t197 => (if t197 = true then (if x3_1.length < 70368744177664 then (orthoepyref03_Units.l0 k1 l0 (x3_1 ++ [IntKind.u16.wrap (rd l0 x4_1)]) (wrap64 (x4_1 + 1))) else (none)) else (orthoepyref03_Units.l0 k1 l0 x3_1 (wrap64 (x4_1 + 1)))))) = some r := H
          have A4 := Aside0.mk A40
          clear A40
          by_cases c5 : t189 = true
          · subst c5
            have H1 : ((some (([t187, t188] : List Int) : List Int)).bind fun y190 => (if x3_1.length + y190.length < 70368744177664 then (orthoepyref03_Units.l0 k1 l0 (x3_1 ++ y190) (wrap64 (x4_1 + 1))) else (none))) = some r := by rw [if_pos rfl] at H; exact H
            clear H
            have H := H1
            clear H1
            obtain ⟨y190, hy190⟩ : ∃ y_ : List Int, y_ = (([t187, t188] : List Int)) := ⟨_, rfl⟩
            replace H : (if x3_1.length + y190.length < 70368744177664 then (orthoepyref03_Units.l0 k1 l0 (x3_1 ++ y190) (wrap64 (x4_1 + 1))) else (none)) = some r := by first | (rw [hy190]; with_reducible exact H) | (have H2_ := (Option.bind_some _ _).symm.trans H; rw [hy190]; with_reducible exact H2_) | (have H2_ := (Option.bind_some _ _).symm.trans H; with_reducible exact H2_) | with_reducible exact H | (rw [hy190]; exact H) | exact H
            have Ny190 := Aside0.mk hy190
            clear hy190
            by_cases c6 : x3_1.length + y190.length < 70368744177664
            · rw [if_pos c6] at H
              have LMc6 := Aside0.mk c6
              clear c6
              obtain ⟨y193, hy193⟩ : ∃ y_ : List Int, y_ = (x3_1 ++ y190) := ⟨_, rfl⟩
              replace H : (orthoepyref03_Units.l0 k1 l0 y193 (wrap64 (x4_1 + 1))) = some r := by first | (rw [hy193]; with_reducible exact H) | (have H2_ := (Option.bind_some _ _).symm.trans H; rw [hy193]; with_reducible exact H2_) | (have H2_ := (Option.bind_some _ _).symm.trans H; with_reducible exact H2_) | with_reducible exact H | (rw [hy193]; exact H) | exact H
              have Ny193 := Aside0.mk hy193
              clear hy193
              have H' := Aside0.mk H
              clear H
              have p186 : 0 ≤ (x4_1 : Int) := of_decide_eq_true (by first | (with_reducible assumption) | assumption)
              have q186 : x4_1 < (l0.length : Int) := of_decide_eq_true (by first | (with_reducible assumption) | assumption)
              obtain ⟨ad186, e186, hx186_0⟩ := Kd.at_int HR0.out x4_1 p186 q186
              cases e186
              replace hx186_0 := (HB.out.cell (World.block_lt_of_cell? w _ hx186_0)).trans hx186_0
              replace p186 := eq_true p186
              replace q186 := eq_true q186
              go_wp2_with (first | ((with_reducible refine gate_callee (f := 46) rfl ?_); refine goesL_ (some 19) rfl rfl Try.func46 (by kernel_rfl) rfl #[.int .i32 (rd l0 x4_1)] rfl (by (try simp only [List.map_toArray, List.map_cons, List.map_nil]); first | done | rfl | (simp only [List.length_drop, List.length_take]; rfl)) ?_; (with_reducible refine (orthoepyref01_Split.calls (rd l0 x4_1) t187 t188 true _ A4.out).mono ?_); rintro e w' ⟨rfl, ⟨nd, rfl⟩⟩; refine ⟨_, rfl, ?_⟩) | ((with_reducible refine gate_dst (N := 28) rfl ?_); refine Kd.R_lit (Kd.int .u16) _ 59 ?hg (N := 28) ?hd (xs := ([t187, t188] : List Int)) (inner := [.int .u16 t187, .int .u16 t188]) (ok := fun _ => True) (okp := fun _ => True) ?hr ?hp (fun _ hk => hk) trivial (Below.refl _ _) (Nat.le_refl _) (by simp) ?_; (case hd => rfl); (case hg => rfl); (case hr => first | (go_simp; done) | (go_simp; rfl)); (case hp => exact (Reps.one (show Kd.M (Kd.int .u16) _ _ _ t187 [.int .u16 t187] from rfl) (Reps.one (show Kd.M (Kd.int .u16) _ _ _ t188 [.int .u16 t188] from rfl) (Reps.none _ _)))); intro v191 w7 ho8 hb hg_ hnew_; clear hg_ hnew_; (first | rw [← Ny190.out] at ho8 | (simp only [Int.reduceToNat] at ho8; rw [← Ny190.out] at ho8)); have n0_ := Aside0.mk (Kd.R_elder' (by (with_reducible repeat (first | apply Kd.R_alloc | apply Kd.R_drewN | apply Kd.R_drew)); exact HO_3.out) (Kd.R_base ho8) hb); have n1_ := Aside0.mk (Kd.R_lower (Kd.R_new' ho8 (Kd.R_lt (by (with_reducible repeat (first | apply Kd.R_alloc | apply Kd.R_drewN | apply Kd.R_drew)); exact HO_3.out))) (below_size (by repeat (first | (with_reducible first | exact HB.out | apply below_alloc | apply pw_below_drewN | apply below_drew1) | exact HB.out)))); have n2_ := Aside0.mk (below_step (by repeat (first | (with_reducible first | exact HB.out | apply below_alloc | apply pw_below_drewN | apply below_drew1) | exact HB.out)) hb); clear HO_3; clear HB; have HO_3 := n0_; have HO192 := n1_; have HB := n2_; clear n0_ n1_ n2_; clear hb ho8; obtain ⟨Ao10, co10, eo10⟩ := Kd.R_slice HO192.out; subst eo10) | ((with_reducible refine gate_builtin (b := .append) (xs := #[.tmp 25, .tmp 28]) rfl ?_); at_builtin; refine Kd.R_append_rows (Kd.int .u16) (w0 := w) w.heap.size rfl (.tmp 25) (.tmp 28) 57 59 (.int .u16 0) 2 rfl Try.underlying57 info59 rfl (by decide) (by omega) u3 x3_1 y190 _ _ _ (fun k_ => some k_ ≠ (.slice Ao10 y190.length co10 : Value).ownBlock) (fun _ => False) rfl rfl ?aO ?aR (fun _ _ h => h) (fun _ h => h.elim) ?aF ?aB ?aS ?aL ?_; (case aR => repeat (first | exact (Kd.R_reads' HO192.out).2.2 | (with_reducible refine Kd.C_alloc ?_ _) | (with_reducible refine Kd.C_drewN ?_ _) | (with_reducible refine Kd.C_drew ?_))); (case aB => exact (by repeat (first | (with_reducible first | exact HB.out | apply below_alloc | apply pw_below_drewN | apply below_drew1) | exact HB.out))); (case aF => exact (fun k_ hk => Kd.fresh' (Kd.R_lt (by (with_reducible repeat (first | apply Kd.R_alloc | apply Kd.R_drewN | apply Kd.R_drew)); exact HO192.out)) k_ hk)); (case aO => exact (by (with_reducible repeat (first | apply Kd.R_alloc | apply Kd.R_drewN | apply Kd.R_drew)); exact Kd.R_mono HO_3.out (fun _ hk => hk.2))); (case aS => exact (below_size (by repeat (first | (with_reducible first | exact HB.out | apply below_alloc | apply pw_below_drewN | apply below_drew1) | exact HB.out)))); (case aL => have := LMc6.out; omega); intro v194 w9 ho hb hg hat; rw [← Ny193.out] at ho; have n0_ := Aside0.mk (Kd.R_after (ok := (fun _ => True)) (by (with_reducible repeat (first | apply Kd.R_alloc | apply Kd.R_drewN | apply Kd.R_drew)); exact HO192.out) hg hat); have n1_ := Aside0.mk (hb); have n2_ := Aside0.mk (ho); clear HO192; clear HB; clear HO_3; have HO192 := n0_; have HB := n1_; have HO195 := n2_; clear n0_ n1_ n2_; clear ho hb hg hat))
              go_roundg k1
              case measure => have := HK1.out; omega
              case rel => exact ⟨(y193), (wrap64 (x4_1 + 1)), (by first | rfl | (simp; done) | (simp [*]; done)), H', ⟨by have := HK1.out; omega⟩, ⟨by (with_reducible repeat (first | apply Kd.R_alloc | apply Kd.R_drewN | apply Kd.R_drew)); exact Kd.R_mono HO195.out (fun _ hk => trivial)⟩, ⟨by repeat (first | (with_reducible first | exact HB.out | apply below_alloc | apply pw_below_drewN | apply below_drew1) | exact HB.out)⟩⟩
            · rw [if_neg c6] at H
              exact absurd H (by simp)
          · replace c5 := Bool.eq_false_iff.mpr c5
            subst c5
            have H1 : ((orthoepyref01_Is.f (rd l0 x4_1)).bind fun t197 => (if t197 = true then (if x3_1.length < 70368744177664 then (orthoepyref03_Units.l0 k1 l0 (x3_1 ++ [IntKind.u16.wrap (rd l0 x4_1)]) (wrap64 (x4_1 + 1))) else (none)) else (orthoepyref03_Units.l0 k1 l0 x3_1 (wrap64 (x4_1 + 1))))) = some r := by rw [if_neg (show ¬ (false = true) by decide)] at H; exact H
            clear H
            have H := H1
            clear H1
            replace H := Option.bind_eq_some_iff.mp H
            obtain ⟨t197, A110, H⟩ := H
            replace H : (if t197 = true then (if x3_1.length < 70368744177664 then (orthoepyref03_Units.l0 k1 l0 (x3_1 ++ [IntKind.u16.wrap (rd l0 x4_1)]) (wrap64 (x4_1 + 1))) else (none)) else (orthoepyref03_Units.l0 k1 l0 x3_1 (wrap64 (x4_1 + 1)))) = some r := H
            have A11 := Aside0.mk A110
            clear A110
            by_cases c12 : t197 = true
            · subst c12
              have H1 : (if x3_1.length < 70368744177664 then (orthoepyref03_Units.l0 k1 l0 (x3_1 ++ [IntKind.u16.wrap (rd l0 x4_1)]) (wrap64 (x4_1 + 1))) else (none)) = some r := by rw [if_pos rfl] at H; exact H
              clear H
              have H := H1
              clear H1
              by_cases c13 : x3_1.length < 70368744177664
              · rw [if_pos c13] at H
                have LMc13 := Aside0.mk c13
                clear c13
                obtain ⟨y199, hy199⟩ : ∃ y_ : List Int, y_ = (x3_1 ++ [IntKind.u16.wrap (rd l0 x4_1)]) := ⟨_, rfl⟩
                replace H : (orthoepyref03_Units.l0 k1 l0 y199 (wrap64 (x4_1 + 1))) = some r := by first | (rw [hy199]; with_reducible exact H) | (have H2_ := (Option.bind_some _ _).symm.trans H; rw [hy199]; with_reducible exact H2_) | (have H2_ := (Option.bind_some _ _).symm.trans H; with_reducible exact H2_) | with_reducible exact H | (rw [hy199]; exact H) | exact H
                have Ny199 := Aside0.mk hy199
                clear hy199
                have H' := Aside0.mk H
                clear H
                have p186 : 0 ≤ (x4_1 : Int) := of_decide_eq_true (by first | (with_reducible assumption) | assumption)
                have q186 : x4_1 < (l0.length : Int) := of_decide_eq_true (by first | (with_reducible assumption) | assumption)
                obtain ⟨ad186, e186, hx186_0⟩ := Kd.at_int HR0.out x4_1 p186 q186
                cases e186
                replace hx186_0 := (HB.out.cell (World.block_lt_of_cell? w _ hx186_0)).trans hx186_0
                replace p186 := eq_true p186
                replace q186 := eq_true q186
                go_wp2_with (first | ((with_reducible refine gate_callee (f := 46) rfl ?_); refine goesL_ (some 19) rfl rfl Try.func46 (by kernel_rfl) rfl #[.int .i32 (rd l0 x4_1)] rfl (by (try simp only [List.map_toArray, List.map_cons, List.map_nil]); first | done | rfl | (simp only [List.length_drop, List.length_take]; rfl)) ?_; (with_reducible refine (orthoepyref01_Split.calls (rd l0 x4_1) t187 t188 false _ A4.out).mono ?_); rintro e w' ⟨rfl, ⟨nd, rfl⟩⟩; refine ⟨_, rfl, ?_⟩; have p196 : 0 ≤ (x4_1 : Int) := of_decide_eq_true (by first | (with_reducible assumption) | assumption); have q196 : x4_1 < (l0.length : Int) := of_decide_eq_true (by first | (with_reducible assumption) | assumption); obtain ⟨ad196, e196, hx196_0⟩ := Kd.at_int HR0.out x4_1 p196 q196; obtain rfl : ad186 = ad196 := (by injection e196); replace hx196_0 := (HB.out.cell (World.block_lt_of_cell? w _ hx196_0)).trans hx196_0; replace p196 := eq_true p196; replace q196 := eq_true q196) | ((with_reducible refine gate_callee (f := 31) rfl ?_); refine goesL_ (some 35) rfl rfl Try.func31 (by kernel_rfl) rfl #[.int .i32 (rd l0 x4_1)] rfl (by (try simp only [List.map_toArray, List.map_cons, List.map_nil]); first | done | rfl | (simp only [List.length_drop, List.length_take]; rfl)) ?_; (with_reducible refine (orthoepyref01_Is.calls (rd l0 x4_1) true _ A11.out).mono ?_); rintro e w' ⟨rfl, ⟨nd, rfl⟩⟩; refine ⟨_, rfl, ?_⟩; have p198 : 0 ≤ (x4_1 : Int) := of_decide_eq_true (by first | (with_reducible assumption) | assumption); have q198 : x4_1 < (l0.length : Int) := of_decide_eq_true (by first | (with_reducible assumption) | assumption); obtain ⟨ad198, e198, hx198_0⟩ := Kd.at_int HR0.out x4_1 p198 q198; obtain rfl : ad186 = ad198 := (by injection e198); replace hx198_0 := (HB.out.cell (World.block_lt_of_cell? w _ hx198_0)).trans hx198_0; replace p198 := eq_true p198; replace q198 := eq_true q198) | ((with_reducible refine gate_builtin (b := .append) (xs := #[.tmp 36, .tmp 42]) rfl ?_); at_builtin; refine Kd.R_append (Kd.int .u16) (w0 := w) w.heap.size rfl (.tmp 36) (.tmp 42) 57 59 (.int .u16 0) 2 rfl Try.underlying57 info59 rfl (by decide) (by omega) u3 x3_1 (IntKind.u16.wrap (rd l0 x4_1)) [.int .u16 (IntKind.u16.wrap (rd l0 x4_1))] (fun _ => True) (fun _ => False) rfl rfl ?aP (fun _ hk => hk.elim) ?aF ?aO ?aB ?aS ?aL ?_; (case aP => exact rfl); (case aB => exact (by repeat (first | (with_reducible first | exact HB.out | apply below_alloc | apply pw_below_drewN | apply below_drew1) | exact HB.out))); (case aF => exact (fun _ _ => trivial)); (case aO => exact (by (with_reducible repeat (first | apply Kd.R_alloc | apply Kd.R_drewN | apply Kd.R_drew)); exact HO_3.out)); (case aS => exact (below_size (by repeat (first | (with_reducible first | exact HB.out | apply below_alloc | apply pw_below_drewN | apply below_drew1) | exact HB.out)))); (case aL => have := LMc13.out; omega); intro v200 w14 ho hb hg hat; rw [← Ny199.out] at ho; have n0_ := Aside0.mk (hb); have n1_ := Aside0.mk (ho); clear HB; clear HO_3; have HB := n0_; have HO201 := n1_; clear n0_ n1_; clear ho hb hg hat))
                go_roundg k1
                case measure => have := HK1.out; omega
                case rel => exact ⟨(y199), (wrap64 (x4_1 + 1)), (by first | rfl | (simp; done) | (simp [*]; done)), H', ⟨by have := HK1.out; omega⟩, ⟨by (with_reducible repeat (first | apply Kd.R_alloc | apply Kd.R_drewN | apply Kd.R_drew)); exact HO201.out⟩, ⟨by repeat (first | (with_reducible first | exact HB.out | apply below_alloc | apply pw_below_drewN | apply below_drew1) | exact HB.out)⟩⟩
              · rw [if_neg c13] at H
                exact absurd H (by simp)
            · replace c12 := Bool.eq_false_iff.mpr c12
              subst c12
              have H1 : (orthoepyref03_Units.l0 k1 l0 x3_1 (wrap64 (x4_1 + 1))) = some r := by rw [if_neg (show ¬ (false = true) by decide)] at H; exact H
              clear H
              have H := H1
              clear H1
              have H' := Aside0.mk H
              clear H
              have p186 : 0 ≤ (x4_1 : Int) := of_decide_eq_true (by first | (with_reducible assumption) | assumption)
              have q186 : x4_1 < (l0.length : Int) := of_decide_eq_true (by first | (with_reducible assumption) | assumption)
              obtain ⟨ad186, e186, hx186_0⟩ := Kd.at_int HR0.out x4_1 p186 q186
              cases e186
              replace hx186_0 := (HB.out.cell (World.block_lt_of_cell? w _ hx186_0)).trans hx186_0
              replace p186 := eq_true p186
              replace q186 := eq_true q186
              go_wp2_with (first | ((with_reducible refine gate_callee (f := 46) rfl ?_); refine goesL_ (some 19) rfl rfl Try.func46 (by kernel_rfl) rfl #[.int .i32 (rd l0 x4_1)] rfl (by (try simp only [List.map_toArray, List.map_cons, List.map_nil]); first | done | rfl | (simp only [List.length_drop, List.length_take]; rfl)) ?_; (with_reducible refine (orthoepyref01_Split.calls (rd l0 x4_1) t187 t188 false _ A4.out).mono ?_); rintro e w' ⟨rfl, ⟨nd, rfl⟩⟩; refine ⟨_, rfl, ?_⟩; have p196 : 0 ≤ (x4_1 : Int) := of_decide_eq_true (by first | (with_reducible assumption) | assumption); have q196 : x4_1 < (l0.length : Int) := of_decide_eq_true (by first | (with_reducible assumption) | assumption); obtain ⟨ad196, e196, hx196_0⟩ := Kd.at_int HR0.out x4_1 p196 q196; obtain rfl : ad186 = ad196 := (by injection e196); replace hx196_0 := (HB.out.cell (World.block_lt_of_cell? w _ hx196_0)).trans hx196_0; replace p196 := eq_true p196; replace q196 := eq_true q196) | ((with_reducible refine gate_callee (f := 31) rfl ?_); refine goesL_ (some 35) rfl rfl Try.func31 (by kernel_rfl) rfl #[.int .i32 (rd l0 x4_1)] rfl (by (try simp only [List.map_toArray, List.map_cons, List.map_nil]); first | done | rfl | (simp only [List.length_drop, List.length_take]; rfl)) ?_; (with_reducible refine (orthoepyref01_Is.calls (rd l0 x4_1) false _ A11.out).mono ?_); rintro e w' ⟨rfl, ⟨nd, rfl⟩⟩; refine ⟨_, rfl, ?_⟩))
              go_roundg k1
              case measure => have := HK1.out; omega
              case rel => exact ⟨(x3_1), (wrap64 (x4_1 + 1)), (by first | rfl | (simp; done) | (simp [*]; done)), H', ⟨by have := HK1.out; omega⟩, ⟨by (with_reducible repeat (first | apply Kd.R_alloc | apply Kd.R_drewN | apply Kd.R_drew)); exact HO_3.out⟩, ⟨by repeat (first | (with_reducible first | exact HB.out | apply below_alloc | apply pw_below_drewN | apply below_drew1) | exact HB.out)⟩⟩
        · rw [if_neg c3] at H
          exact absurd H (by simp)
      · rw [if_neg c2] at H
        have c2b0 : decide (x4_1 < (l0.length : Int)) = false := decide_eq_false c2
        clear c2
        obtain rfl := Option.some.inj H
        go_wp2
        go_ret
        exact ⟨_, by first | rfl | (simp [errW_none, errW_some] <;> rfl) | (simp [*, errW_none, errW_some] <;> rfl), by (with_reducible repeat (first | apply Kd.R_alloc | apply Kd.R_drewN | apply Kd.R_drew)); exact HO_3.out, by repeat (first | (with_reducible first | exact HB.out | apply below_alloc | apply pw_below_drewN | apply below_drew1) | exact HB.out)⟩

end Go.Proofs.Ytajinnlaajhoeaa.PAll
