-- The machine's side of laws, written by a program of this session (wip/gen/pp.sh). Lean checks it.
import Derived.Test.YtajinnlaajhoeaaPTwox0
import Derived.Test.YtajinnlaajhoeaaPTwox1
import Derived.Test.YtajinnlaajhoeaaPTwox2
namespace Go.Proofs.Ytajinnlaajhoeaa.PTwo
open Go.RowKit Go.Proofs.YtajinnlaajhoeaaW.PrintWords Go.Proofs.YtajinnlaajhoeaaW.PrintLast
set_option linter.unusedVariables false
set_option linter.unusedSimpArgs false

/-! ### orthoepylaw21_OrderMerge: function 5 -/
def orthoepylaw21_OrderMerge.l0 : Nat → List ByteArray → Int → List Int → List Int → Int → Option (Bool)
  | 0, _, _, _, _, _ => none
  | k + 1, x0, x5, x6, x7, x8 => if x8 < (x7.length : Int) then (if 0 ≤ x8 then (orthoepylaw21_OrderMerge.l0 k x0 x5 x6 (x7.set (x8 : Int).toNat (wrap64 ((rd x7 x8) + x5))) (wrap64 (x8 + 1))) else (none)) else ((order_Merge.f x0 x6 x7).bind fun t191 => ((order_Sort.f x0).bind fun t194 => ((orthoepylaw21_same.f t191 t194).bind fun t197 => (if t197 = true then ((order_Merge.f x0 x7 x6).bind fun t198 => ((orthoepyref21_Merge.f k x0 x7 x6).bind fun t201 => ((orthoepylaw21_same.f t198 t201).bind fun t204 => (if t204 = true then ((orthoepylaw21_awake.f).bind fun t205 => (some t205)) else (some false))))) else (some false)))))
def orthoepylaw21_OrderMerge.f (k : Nat) (l0 : List ByteArray) (a1 : Int) : Option (Bool) := (orthoepylaw21_right.f k l0).bind fun t178 => (if t178 = true then ((orthoepylaw00_Place.f a1 (wrap64 ((l0.length : Int) + 1))).bind fun t180 => (if 0 ≤ t180 then (if t180 ≤ (l0.length : Int) then ((orthoepyref21_Sort.f (l0.take (t180 : Int).toNat)).bind fun t182 => ((orthoepyref21_Sort.f (l0.drop (t180 : Int).toNat)).bind fun t186 => (orthoepylaw21_OrderMerge.l0 k l0 t180 t182 t186 0))) else (none)) else (none))) else ((orthoepylaw21_awake.f).bind fun t179 => (some t179)))
theorem orthoepylaw21_OrderMerge.mono_l : ∀ k, (∀ y0 y1 y2 y3 y4, LeO (orthoepylaw21_OrderMerge.l0 k y0 y1 y2 y3 y4) (orthoepylaw21_OrderMerge.l0 (k + 1) y0 y1 y2 y3 y4))
  | 0 => fun _ _ _ _ _ r h => by simp [orthoepylaw21_OrderMerge.l0] at h
  | k + 1 => by
    have ih0 := orthoepylaw21_OrderMerge.mono_l k
    · intro y0 y1 y2 y3 y4
      unfold orthoepylaw21_OrderMerge.l0
      repeat' first
      | (with_reducible exact ih0 _ _ _ _ _)
      | (with_reducible exact orthoepylaw21_right.mono _ _)
      | (with_reducible exact orthoepyref21_Merge.mono _ _ _ _)
      | (with_reducible exact LeO.refl _)
      | (with_reducible exact LeO.none _)
      | (with_reducible refine LeO.ite ?_ ?_)
      | (with_reducible refine LeO.bind ?_ (fun _ => ?_))
      | exact ih0 _ _ _ _ _
      | exact orthoepylaw21_right.mono _ _
      | exact orthoepyref21_Merge.mono _ _ _ _
      | exact LeO.none _
      | refine LeO.ite ?_ ?_
      | refine LeO.bind ?_ (fun _ => ?_)
theorem orthoepylaw21_OrderMerge.mono : ∀ a0 a1 k, LeO (orthoepylaw21_OrderMerge.f k a0 a1) (orthoepylaw21_OrderMerge.f (k + 1) a0 a1) := by
  intro a0 a1 k
  have ih0 := orthoepylaw21_OrderMerge.mono_l k
  unfold orthoepylaw21_OrderMerge.f
  repeat' first
      | (with_reducible exact ih0 _ _ _ _ _)
      | (with_reducible exact orthoepylaw21_right.mono _ _)
      | (with_reducible exact orthoepyref21_Merge.mono _ _ _ _)
      | (with_reducible exact LeO.refl _)
      | (with_reducible exact LeO.none _)
      | (with_reducible refine LeO.ite ?_ ?_)
      | (with_reducible refine LeO.bind ?_ (fun _ => ?_))
      | exact ih0 _ _ _ _ _
      | exact orthoepylaw21_right.mono _ _
      | exact orthoepyref21_Merge.mono _ _ _ _
      | exact LeO.none _
      | refine LeO.ite ?_ ?_
      | refine LeO.bind ?_ (fun _ => ?_)
def orthoepylaw21_OrderMerge.T4 : Bool × List (List Nat × List Nat) := (true, [([], []), ([], []), ([0, 1], [0, 1]), ([2], [2]), ([], []), ([], []), ([4, 5], [4, 5]), ([6, 3], [6]), ([3, 7, 0, 1, 2, 3], [3]), ([7, 8, 0, 1, 2, 3, 4, 5, 6, 7, 8], [7])])
def orthoepylaw21_OrderMerge.B4 : List Nat := [0, 0, 3, 7, 0, 0, 48, 127, 255, 511]
theorem orthoepylaw21_OrderMerge.tab4 : rtab .any (opsOf Try.f5 4) = orthoepylaw21_OrderMerge.T4 := by kernel_rfl
theorem orthoepylaw21_OrderMerge.bits4 : waitsOk orthoepylaw21_OrderMerge.T4.2 orthoepylaw21_OrderMerge.B4 = true := by kernel_rfl
set_option maxHeartbeats 8000000 in
set_option maxRecDepth 100000 in
theorem orthoepylaw21_OrderMerge.calls (k : Nat) (A0 : Option Addr) (c0 : Nat) (l0 : List ByteArray) (a1 : Int) (r : Bool) (w : World) (hr0 : Kd.C Kd.string w A0 l0.length l0) (hc0 : l0.length ≤ c0) (h : orthoepylaw21_OrderMerge.f k l0 a1 = some r) (hT_ : Aside0 (r = true)) :
    Calls Try.prog 5 #[.slice A0 l0.length c0, .int .i64 a1] w fun e w' => e = .returned (.bool r) ∧ Below w.heap.size w w' := by
  have HR0 := Aside0.mk hr0
  have HC0 := Aside0.mk hc0
  clear hr0 hc0
  have HB := Aside0.mk (Below.refl w.heap.size w)
  have H : ((orthoepylaw21_right.f k l0).bind fun t178 => (if t178 = true then ((orthoepylaw00_Place.f a1 (wrap64 ((l0.length : Int) + 1))).bind fun t180 => (if 0 ≤ t180 then (if t180 ≤ (l0.length : Int) then ((orthoepyref21_Sort.f (l0.take (t180 : Int).toNat)).bind fun t182 => ((orthoepyref21_Sort.f (l0.drop (t180 : Int).toNat)).bind fun t186 => (orthoepylaw21_OrderMerge.l0 k l0 t180 t182 t186 0))) else (none)) else (none))) else ((orthoepylaw21_awake.f).bind fun t179 => (some t179)))) = some r := h
  clear h
  replace H := Option.bind_eq_some_iff.mp H
  obtain ⟨t178, A30, H⟩ := H
  replace H : (if t178 = true then ((orthoepylaw00_Place.f a1 (wrap64 ((l0.length : Int) + 1))).bind fun t180 => (if 0 ≤ t180 then (if t180 ≤ (l0.length : Int) then ((orthoepyref21_Sort.f (l0.take (t180 : Int).toNat)).bind fun t182 => ((orthoepyref21_Sort.f (l0.drop (t180 : Int).toNat)).bind fun t186 => (orthoepylaw21_OrderMerge.l0 k l0 t180 t182 t186 0))) else (none)) else (none))) else ((orthoepylaw21_awake.f).bind fun t179 => (some t179))) = some r := H
  have A3 := Aside0.mk A30
  clear A30
  by_cases c4 : t178 = true
  · subst c4
    have H1 : ((orthoepylaw00_Place.f a1 (wrap64 ((l0.length : Int) + 1))).bind fun t180 => (if 0 ≤ t180 then (if t180 ≤ (l0.length : Int) then ((orthoepyref21_Sort.f (l0.take (t180 : Int).toNat)).bind fun t182 => ((orthoepyref21_Sort.f (l0.drop (t180 : Int).toNat)).bind fun t186 => (orthoepylaw21_OrderMerge.l0 k l0 t180 t182 t186 0))) else (none)) else (none))) = some r := by rw [if_pos rfl] at H; exact H
    clear H
    have H := H1
    clear H1
    replace H := Option.bind_eq_some_iff.mp H
    obtain ⟨t180, A50, H⟩ := H
    replace H : (if 0 ≤ t180 then (if t180 ≤ (l0.length : Int) then ((orthoepyref21_Sort.f (l0.take (t180 : Int).toNat)).bind fun t182 => ((orthoepyref21_Sort.f (l0.drop (t180 : Int).toNat)).bind fun t186 => (orthoepylaw21_OrderMerge.l0 k l0 t180 t182 t186 0))) else (none)) else (none)) = some r := H
    have A5 := Aside0.mk A50
    clear A50
    by_cases c6 : 0 ≤ t180
    · rw [if_pos c6] at H
      have c6b0 := eq_true c6
      have c6b1 : decide (0 ≤ t180) = true := decide_eq_true c6
      clear c6
      by_cases c7 : t180 ≤ (l0.length : Int)
      · rw [if_pos c7] at H
        have c7b0 := eq_true c7
        have c7b1 : decide (t180 ≤ (l0.length : Int)) = true := decide_eq_true c7
        clear c7
        replace H := Option.bind_eq_some_iff.mp H
        obtain ⟨t182, A80, H⟩ := H
        replace H : ((orthoepyref21_Sort.f (l0.drop (t180 : Int).toNat)).bind fun t186 => (orthoepylaw21_OrderMerge.l0 k l0 t180 t182 t186 0)) = some r := H
        have A8 := Aside0.mk A80
        clear A80
        have c9b0 := eq_true (of_decide_eq_true (by first | (with_reducible assumption) | assumption) : 0 ≤ t180)
        have c10b0 := eq_true (of_decide_eq_true (by first | (with_reducible assumption) | assumption) : t180 ≤ (l0.length : Int))
        replace H := Option.bind_eq_some_iff.mp H
        obtain ⟨t186, A110, H⟩ := H
        replace H : (orthoepylaw21_OrderMerge.l0 k l0 t180 t182 t186 0) = some r := H
        have A11 := Aside0.mk A110
        clear A110
        have H' := Aside0.mk H
        clear H
        go_enter Try.func5, Try.ntmps5
        try go_wp2_with (first | ((with_reducible refine gate_callee (f := 10) rfl ?_); refine goesL_ (some 10) rfl rfl Try.func10 (by kernel_rfl) rfl #[.slice A0 l0.length c0] rfl (by (try simp only [List.map_toArray, List.map_cons, List.map_nil]); first | done | rfl | (simp only [List.length_drop, List.length_take]; rfl)) ?_; (with_reducible refine (orthoepylaw21_right.calls k _ _ l0 true _ ?side1 ?side2 A3.out).mono ?_); (case side1 => repeat (first | exact HR0.out | (with_reducible refine Kd.C_alloc ?_ _) | (with_reducible refine Kd.C_drewN ?_ _) | (with_reducible refine Kd.C_drew ?_))); (case side2 => exact HC0.out); rintro e w12 ⟨rfl, hb⟩; refine ⟨_, rfl, ?_⟩; have n0_ := Aside0.mk (below_step (by repeat (first | (with_reducible first | exact HB.out | apply below_alloc | apply pw_below_drewN | apply below_drew1) | exact HB.out)) hb); clear HB; have HB := n0_; clear n0_; (try clear hb); (try clear hb2); (try clear hk); (try clear hi)) | ((with_reducible refine gate_callee (f := 17) rfl ?_); refine goesL_ (some 17) rfl rfl Try.func17 (by kernel_rfl) rfl #[.int .i64 a1, .int .i64 (wrap64 ((l0.length : Int) + 1))] rfl (by (try simp only [List.map_toArray, List.map_cons, List.map_nil]); first | done | rfl | (simp only [List.length_drop, List.length_take]; rfl)) ?_; (with_reducible refine (orthoepylaw00_Place.calls a1 (wrap64 ((l0.length : Int) + 1)) t180 _ A5.out).mono ?_); rintro e w' ⟨rfl, ⟨nd, rfl⟩⟩; refine ⟨_, rfl, ?_⟩))
        (try (rw [drewN_self w12]; generalize hq_ : World.drewN w12 _ = w12; have n0_ : Aside0 (Below w.heap.size w w12) := ⟨by rw [← hq_]; exact (by repeat (first | (with_reducible first | exact HB.out | apply below_alloc | apply pw_below_drewN | apply below_drew1) | exact HB.out))⟩; clear HB hq_; have HB := n0_; clear n0_))
        have n0_ := Aside0.mk (below_drew1 HB.out)
        clear HB
        have HB := n0_
        clear n0_
        obtain ⟨i014, hi014, _, hsz14, _⟩ := info_parts info9
        obtain ⟨hcut14, hA14, hC14⟩ := print_take_of (P := Try.prog) Value.string (⟨#[]⟩ : ByteArray) 22 9 .i64 Try.underlying22 hi014 hsz14 A0 c0 l0 t180 (of_decide_eq_true (by first | (with_reducible assumption) | assumption)) (of_decide_eq_true (by first | (with_reducible assumption) | assumption)) HC0.out
        have HR181 := Aside0.mk (Kd.C_of_reads (h1 := fun _ => rfl) (hA14 _ (Kd.reads_of_C HR0.out)))
        have HC181 := Aside0.mk hC14
        clear hA14 hC14 hi014 hsz14
        obtain ⟨i015, hi015, _, hsz15, _⟩ := info_parts info9
        obtain ⟨A15, hcut15, hA15, hC15⟩ := print_drop_of (P := Try.prog) Value.string (⟨#[]⟩ : ByteArray) 22 9 .i64 Try.underlying22 hi015 hsz15 A0 c0 l0 t180 (of_decide_eq_true (by first | (with_reducible assumption) | assumption)) (of_decide_eq_true (by first | (with_reducible assumption) | assumption)) HC0.out
        have HR185 := Aside0.mk (Kd.C_of_reads (h1 := fun _ => rfl) (hA15 _ (Kd.reads_of_C HR0.out)))
        have HC185 := Aside0.mk hC15
        clear hA15 hC15 hi015 hsz15
        refine start_ (n := 10) (S := fun w' => True) (ds := []) #[false, false, false, false, false, false, false, false, false, false] (by kernel_rfl) rfl rfl trivial (fun hHeld => ?_); refine with_tabW orthoepylaw21_OrderMerge.tab4 orthoepylaw21_OrderMerge.bits4 (fun HT_ HW_ => ?_)
        generalize w12.drew = w13 at HB HR181 HR185 hHeld ⊢
        refine pure_ (i := 0) (N := some 18) (v := ?_) (a' := ?_) #[true, false, false, false, false, false, false, false, false, false] rfl rfl (any_of HT_.out (by kernel_rfl)) (fun _ _ _ h => h) (Or.inl ⟨by rfl, ?_⟩) ?_ ?_
        rotate_left
        · intro w'
          go_simp
          with_reducible rfl
        rotate_left
        · simp only [Act.put, List.setIfInBounds_toArray, List.set_cons_zero, List.set_cons_succ, i64_w, i32_w]
          rfl
        refine pure_ (i := 1) (N := some 19) (v := ?_) (a' := ?_) #[true, true, false, false, false, false, false, false, false, false] rfl rfl (any_of HT_.out (by kernel_rfl)) (fun _ _ _ h => h) (Or.inl ⟨by rfl, ?_⟩) ?_ ?_
        rotate_left
        · intro w'
          go_simp
          with_reducible rfl
        rotate_left
        · simp only [Act.put, List.setIfInBounds_toArray, List.set_cons_zero, List.set_cons_succ, i64_w, i32_w]
          rfl
        refine pure_ (i := 2) (N := some 20) (v := ?_) (a' := ?_) #[true, true, true, false, false, false, false, false, false, false] rfl rfl (any_of HT_.out (by kernel_rfl)) (fun _ _ _ h => h) (Or.inl ⟨by rfl, ?_⟩) ?_ ?_
        rotate_left
        · intro w'
          go_simp
          with_reducible rfl
        rotate_left
        · simp only [Act.put, List.setIfInBounds_toArray, List.set_cons_zero, List.set_cons_succ, i64_w, i32_w]
          rfl
        refine pure_ (i := 4) (N := some 22) (v := ?_) (a' := ?_) #[true, true, true, false, true, false, false, false, false, false] rfl rfl (any_of HT_.out (by kernel_rfl)) (fun _ _ _ h => h) (Or.inl ⟨by rfl, ?_⟩) ?_ ?_
        rotate_left
        · intro w'
          go_simp
          with_reducible rfl
        rotate_left
        · simp only [Act.put, List.setIfInBounds_toArray, List.set_cons_zero, List.set_cons_succ, i64_w, i32_w]
          rfl
        refine pure_ (i := 5) (N := some 23) (v := ?_) (a' := ?_) #[true, true, true, false, true, true, false, false, false, false] rfl rfl (any_of HT_.out (by kernel_rfl)) (fun _ _ _ h => h) (Or.inl ⟨by rfl, ?_⟩) ?_ ?_
        rotate_left
        · intro w'
          go_simp
          with_reducible rfl
        rotate_left
        · simp only [Act.put, List.setIfInBounds_toArray, List.set_cons_zero, List.set_cons_succ, i64_w, i32_w]
          rfl
        refine pure_ (i := 6) (N := some 24) (v := ?_) (a' := ?_) #[true, true, true, false, true, true, true, false, false, false] rfl rfl (any_of HT_.out (by kernel_rfl)) (fun _ _ _ h => h) (Or.inl ⟨by rfl, ?_⟩) ?_ ?_
        rotate_left
        · intro w'
          go_simp
          with_reducible rfl
        rotate_left
        · simp only [Act.put, List.setIfInBounds_toArray, List.set_cons_zero, List.set_cons_succ, i64_w, i32_w]
          rfl
        refine one_ (i := 3) (N := some 21) #[true, true, true, true, true, true, true, false, false, false] rfl rfl (one_of HT_.out (by kernel_rfl)) (by decide) (fun K hK => ?_)
        refine goes_ Try.func16 (by kernel_rfl) rfl #[.slice A0 (l0.take (t180 : Int).toNat).length c0] (by rfl) rfl rfl (by (try simp only [List.map_toArray, List.map_cons, List.map_nil]); first | done | (rw [show (l0.take (t180 : Int).toNat).length = t180.toNat from (by rw [List.length_take]; have h_ : (t180 : Int) ≤ (l0.length : Int) := of_decide_eq_true (by first | (with_reducible assumption) | assumption); omega)] <;> rfl) | rfl | (simp only [List.length_drop, List.length_take]; rfl)) ?_
        with_reducible refine (orthoepyref21_Sort.calls _ _ (l0.take (t180 : Int).toNat) t182 _ ?side1 ?side2 A8.out).mono ?_
        (case side1 => repeat (first | exact (Kd.C_below HR181.out HB.out) | (with_reducible refine Kd.C_alloc ?_ _) | (with_reducible refine Kd.C_drewN ?_ _) | (with_reducible refine Kd.C_drew ?_)))
        (case side2 => exact HC181.out)
        rintro e w16 ⟨v183, rfl, ho0, hb⟩
        refine ⟨_, rfl, ?_⟩
        have n0_ := Aside0.mk (Kd.R_lower ho0 (below_size (by repeat (first | (with_reducible first | exact HB.out | apply below_alloc | apply pw_below_drewN | apply below_drew1) | exact HB.out))))
        have n1_ := Aside0.mk (below_step (by repeat (first | (with_reducible first | exact HB.out | apply below_alloc | apply pw_below_drewN | apply below_drew1) | exact HB.out)) hb)
        clear HB
        have HO184 := n0_
        have HB := n1_
        clear n0_ n1_
        (try clear hb)
        (try clear hb2)
        (try clear hk)
        (try clear hi)
        (try clear ho0)
        refine hK.out _ _ trivial (fun hHeld => ?_)
        clear hK K
        refine norm_ (a' := ?_) ?_ ?_
        rotate_left
        · show Act.put _ (some 21) _ = _
          simp only [Act.put, List.setIfInBounds_toArray, List.set_cons_zero, List.set_cons_succ, i64_w, i32_w]
          rfl
        refine one_ (i := 7) (N := some 25) #[true, true, true, true, true, true, true, true, false, false] rfl rfl (one_of HT_.out (by kernel_rfl)) (by decide) (fun K hK => ?_)
        refine goes_ Try.func16 (by kernel_rfl) rfl #[.slice A15 (l0.drop (t180 : Int).toNat).length (c0 - t180.toNat)] (by rfl) rfl rfl (by (try simp only [List.map_toArray, List.map_cons, List.map_nil]); first | done | (rw [show (l0.drop (t180 : Int).toNat).length = (l0.length - t180.toNat) from List.length_drop] <;> rfl) | rfl | (simp only [List.length_drop, List.length_take]; rfl)) ?_
        with_reducible refine (orthoepyref21_Sort.calls _ _ (l0.drop (t180 : Int).toNat) t186 _ ?side1 ?side2 A11.out).mono ?_
        (case side1 => repeat (first | exact (Kd.C_below HR185.out HB.out) | (with_reducible refine Kd.C_alloc ?_ _) | (with_reducible refine Kd.C_drewN ?_ _) | (with_reducible refine Kd.C_drew ?_)))
        (case side2 => exact HC185.out)
        rintro e w17 ⟨v187, rfl, ho0, hb⟩
        refine ⟨_, rfl, ?_⟩
        have n0_ := Aside0.mk (Kd.R_elder' (by (with_reducible repeat (first | apply Kd.R_alloc | apply Kd.R_drewN | apply Kd.R_drew)); exact HO184.out) (Kd.R_base ho0) hb)
        have n1_ := Aside0.mk (Kd.R_lower (Kd.R_new' ho0 (Kd.R_lt (by (with_reducible repeat (first | apply Kd.R_alloc | apply Kd.R_drewN | apply Kd.R_drew)); exact HO184.out))) (below_size (by repeat (first | (with_reducible first | exact HB.out | apply below_alloc | apply pw_below_drewN | apply below_drew1) | exact HB.out))))
        have n2_ := Aside0.mk (below_step (by repeat (first | (with_reducible first | exact HB.out | apply below_alloc | apply pw_below_drewN | apply below_drew1) | exact HB.out)) hb)
        clear HO184
        clear HB
        have HO184 := n0_
        have HO188 := n1_
        have HB := n2_
        clear n0_ n1_ n2_
        (try clear hb)
        (try clear hb2)
        (try clear hk)
        (try clear hi)
        (try clear ho0)
        refine hK.out _ _ trivial (fun hHeld => ?_)
        clear hK K
        refine norm_ (a' := ?_) ?_ ?_
        rotate_left
        · show Act.put _ (some 25) _ = _
          simp only [Act.put, List.setIfInBounds_toArray, List.set_cons_zero, List.set_cons_succ, i64_w, i32_w]
          rfl
        refine pure_ (i := 8) (N := some 6) (v := ?_) (a' := ?_) #[true, true, true, true, true, true, true, true, true, false] rfl rfl (any_of HT_.out (by kernel_rfl)) (fun _ _ _ h => h) (Or.inl ⟨by rfl, ?_⟩) ?_ ?_
        rotate_left
        · intro w'
          go_simp
          with_reducible rfl
        rotate_left
        · simp only [Act.put, List.setIfInBounds_toArray, List.set_cons_zero, List.set_cons_succ, i64_w, i32_w]
          rfl
        refine pure_ (i := 9) (N := some 7) (v := ?_) (a' := ?_) #[true, true, true, true, true, true, true, true, true, true] rfl rfl (any_of HT_.out (by kernel_rfl)) (fun _ _ _ h => h) (Or.inl ⟨by rfl, ?_⟩) ?_ ?_
        rotate_left
        · intro w'
          go_simp
          with_reducible rfl
        rotate_left
        · simp only [Act.put, List.setIfInBounds_toArray, List.set_cons_zero, List.set_cons_succ, i64_w, i32_w]
          rfl
        refine done_ (done_of HT_.out (by kernel_rfl)) ?_
        try go_wp2
        go_loopg [8] k (fun kq v8 w' => ∃ (x7_1 : List Int) (x8_1 : Int), v8 = .int .i64 x8_1 ∧ Aside0 (orthoepylaw21_OrderMerge.l0 kq l0 t180 t182 x7_1 x8_1 = some r) ∧ Aside0 (kq ≤ k) ∧ Aside0 (Kd.R (Kd.int .i64) 3 w' w.heap.size (fun k_ => some k_ ≠ (v187 : Value).ownBlock) v183 t182) ∧ Aside0 (Kd.R (Kd.int .i64) 3 w' w.heap.size (fun k_ => some k_ ≠ (v183 : Value).ownBlock) v187 x7_1) ∧ Aside0 (Below w.heap.size w w'))
        case atStart => exact ⟨(t186), (0), (by first | rfl | (simp; done) | (simp [*]; done)), H', ⟨Nat.le_refl _⟩, ⟨by (with_reducible repeat (first | apply Kd.R_alloc | apply Kd.R_drewN | apply Kd.R_drew)); exact Kd.R_mono HO184.out (fun _ hk => hk.2)⟩, ⟨by (with_reducible repeat (first | apply Kd.R_alloc | apply Kd.R_drewN | apply Kd.R_drew)); exact Kd.R_mono HO188.out (fun _ hk => hk.2)⟩, ⟨by repeat (first | (with_reducible first | exact HB.out | apply below_alloc | apply pw_below_drewN | apply below_drew1) | exact HB.out)⟩⟩
        case round =>
          clear H'
          try clear c1
          try clear p2
          try clear c4
          try clear c5
          try clear c6
          try clear c6b0
          try clear c6b1
          try clear p6
          try clear c7
          try clear c7b0
          try clear c7b1
          try clear c9
          try clear c9b0
          try clear c10
          try clear c10b0
          try clear c16
          try clear c17
          obtain ⟨x7_1, x8_1, rfl, HA, HK1, HO_6, HO_7, HB⟩ := hrel
          cases gk with
          | zero => exact absurd HA.out (by simp [orthoepylaw21_OrderMerge.l0])
          | succ k1 =>
            have H := HA.out
            clear HA
            simp only [orthoepylaw21_OrderMerge.l0] at H
            by_cases c18 : x8_1 < (x7_1.length : Int)
            · rw [if_pos c18] at H
              have c18b0 : decide (x8_1 < (x7_1.length : Int)) = true := decide_eq_true c18
              clear c18
              by_cases c19 : 0 ≤ x8_1
              · rw [if_pos c19] at H
                have c19b0 : decide (0 ≤ x8_1) = true := decide_eq_true c19
                clear c19
                obtain ⟨y190, hy190⟩ : ∃ y_ : List Int, y_ = (x7_1.set (x8_1 : Int).toNat (wrap64 ((rd x7_1 x8_1) + t180))) := ⟨_, rfl⟩
                replace H : (orthoepylaw21_OrderMerge.l0 k1 l0 t180 t182 y190 (wrap64 (x8_1 + 1))) = some r := by first | (rw [hy190]; with_reducible exact H) | (have H2_ := (Option.bind_some _ _).symm.trans H; rw [hy190]; with_reducible exact H2_) | (have H2_ := (Option.bind_some _ _).symm.trans H; with_reducible exact H2_) | with_reducible exact H | (rw [hy190]; exact H) | exact H
                have Ny190 := Aside0.mk hy190
                clear hy190
                have H' := Aside0.mk H
                clear H
                obtain ⟨Ao21, co21, eo21⟩ := Kd.R_slice HO_7.out
                subst eo21
                have p189 : 0 ≤ (x8_1 : Int) := of_decide_eq_true (by first | (with_reducible assumption) | assumption)
                have q189 : x8_1 < (x7_1.length : Int) := of_decide_eq_true (by first | (with_reducible assumption) | assumption)
                obtain ⟨ad189, e189, hx189_0⟩ := Kd.at_int (Kd.R_reads' HO_7.out).2.2 x8_1 p189 q189
                cases e189
                replace p189 := eq_true p189
                replace q189 := eq_true q189
                have p20 : 0 ≤ (x8_1 : Int) := of_decide_eq_true (by first | (with_reducible assumption) | assumption)
                have q20 : (x8_1 : Int) < ((x7_1.length : Int) : Int) := of_decide_eq_true (by first | (with_reducible assumption) | assumption)
                obtain ⟨go20, co20, eo20, gb20, gl20, cl20, HG20⟩ := Kd.R_form HO_7.out (by omega)
                (first | cases eo20 | (injection eo20 with ea_ en_ ec_; (first | subst ea_ | (injection ea_ with ea_; subst ea_)); subst ec_; clear en_))
                have GB20 := Aside0.mk gb20
                have GG20 := Aside0.mk HG20
                clear gb20 gl20 HG20
                (first | simp only [add_plain] at hx189_0 | skip)
                obtain ⟨hx20_0, hf20_0⟩ := Kd.R_celln 0 HO_7.out (x8_1 : Int) p20 q20
                replace p20 := eq_true p20
                replace q20 := eq_true q20
                have HP22 := Kd.R_putg HO_7.out (x8_1 : Int) (wrap64 ((rd x7_1 x8_1) + t180))
                go_wp2_with (first | ((with_reducible refine gate_store (t := 3) (p := 40) rfl ?_); refine store_event (t := 3) (p := 40) (v := ?vo_w23) (w1 := (wr.setCell ⟨go20, (x8_1 : Int).toNat, none⟩ (.int .i64 (wrap64 ((rd x7_1 x8_1) + t180))))) ?hg ?ho ?hn ?hr ?_; (case ho => rfl); (case hg => rfl); (case hn => rfl); (case hr => first | (go_simp; done) | (go_simp; rfl)); intro w23 hw; have hg : wr.grownBy w23 (some go20) := (by rw [hw]; exact HP22.2); have hp_ : Kd.R (Kd.int .i64) 3 w23 w.heap.size (fun k_ => some k_ ≠ (v183 : Value).ownBlock) (.slice (some ⟨go20, 0, none⟩) x7_1.length co21) y190 := (by rw [hw, Ny190.out]; exact HP22.1); clear HP22; have n0_ := Aside0.mk (Kd.R_after (v := (.slice (some ⟨go20, 0, none⟩) x7_1.length co21)) (v1 := (.slice (some ⟨go20, 0, none⟩) x7_1.length co21)) (ok := (fun _ => True)) (by (with_reducible repeat (first | apply Kd.R_alloc | apply Kd.R_drewN | apply Kd.R_drew)); exact Kd.R_mono HO_6.out (fun _ hk => ⟨trivial, hk⟩)) hg (.inl rfl)); have n1_ := Aside0.mk (hp_); have n2_ := Aside0.mk ((by rw [hw]; exact below_set (HB.out) GB20.out : Below w.heap.size w w23)); clear HO_6; clear HO_7; clear HB; have HO_6 := n0_; have HO_7 := n1_; have HB := n2_; clear n0_ n1_ n2_; clear hg hw hp_))
                go_roundg k1
                case measure => have := HK1.out; omega
                case rel => exact ⟨(y190), (wrap64 (x8_1 + 1)), (by first | rfl | (simp; done) | (simp [*]; done)), H', ⟨by have := HK1.out; omega⟩, ⟨by (with_reducible repeat (first | apply Kd.R_alloc | apply Kd.R_drewN | apply Kd.R_drew)); exact Kd.R_mono HO_6.out (fun _ hk => hk.2)⟩, ⟨by (with_reducible repeat (first | apply Kd.R_alloc | apply Kd.R_drewN | apply Kd.R_drew)); exact HO_7.out⟩, ⟨by repeat (first | (with_reducible first | exact HB.out | apply below_alloc | apply pw_below_drewN | apply below_drew1) | exact HB.out)⟩⟩
              · rw [if_neg c19] at H
                exact absurd H (by simp)
            · rw [if_neg c18] at H
              have c18b0 : decide (x8_1 < (x7_1.length : Int)) = false := decide_eq_false c18
              clear c18
              replace H := Option.bind_eq_some_iff.mp H
              obtain ⟨t191, A240, H⟩ := H
              replace H : ((order_Sort.f l0).bind fun t194 => ((orthoepylaw21_same.f t191 t194).bind fun t197 => (if t197 = true then ((order_Merge.f l0 x7_1 t182).bind fun t198 => ((orthoepyref21_Merge.f k1 l0 x7_1 t182).bind fun t201 => ((orthoepylaw21_same.f t198 t201).bind fun t204 => (if t204 = true then ((orthoepylaw21_awake.f).bind fun t205 => (some t205)) else (some false))))) else (some false)))) = some r := H
              have A24 := Aside0.mk A240
              clear A240
              replace H := Option.bind_eq_some_iff.mp H
              obtain ⟨t194, A250, H⟩ := H
              replace H : ((orthoepylaw21_same.f t191 t194).bind fun t197 => (if t197 = true then ((order_Merge.f l0 x7_1 t182).bind fun t198 => ((orthoepyref21_Merge.f k1 l0 x7_1 t182).bind fun t201 => ((orthoepylaw21_same.f t198 t201).bind fun t204 => (if t204 = true then ((orthoepylaw21_awake.f).bind fun t205 => (some t205)) else (some false))))) else (some false))) = some r := H
              have A25 := Aside0.mk A250
              clear A250
              replace H := Option.bind_eq_some_iff.mp H
              obtain ⟨t197, A260, H⟩ := H
              replace H : (if t197 = true then ((order_Merge.f l0 x7_1 t182).bind fun t198 => ((orthoepyref21_Merge.f k1 l0 x7_1 t182).bind fun t201 => ((orthoepylaw21_same.f t198 t201).bind fun t204 => (if t204 = true then ((orthoepylaw21_awake.f).bind fun t205 => (some t205)) else (some false))))) else (some false)) = some r := H
              have A26 := Aside0.mk A260
              clear A260
              by_cases c27 : t197 = true
              · subst c27
                have H1 : ((order_Merge.f l0 x7_1 t182).bind fun t198 => ((orthoepyref21_Merge.f k1 l0 x7_1 t182).bind fun t201 => ((orthoepylaw21_same.f t198 t201).bind fun t204 => (if t204 = true then ((orthoepylaw21_awake.f).bind fun t205 => (some t205)) else (some false))))) = some r := by rw [if_pos rfl] at H; exact H
                clear H
                have H := H1
                clear H1
                replace H := Option.bind_eq_some_iff.mp H
                obtain ⟨t198, A280, H⟩ := H
                replace H : ((orthoepyref21_Merge.f k1 l0 x7_1 t182).bind fun t201 => ((orthoepylaw21_same.f t198 t201).bind fun t204 => (if t204 = true then ((orthoepylaw21_awake.f).bind fun t205 => (some t205)) else (some false)))) = some r := H
                have A28 := Aside0.mk A280
                clear A280
                replace H := Option.bind_eq_some_iff.mp H
                obtain ⟨t201, A290, H⟩ := H
                replace H : ((orthoepylaw21_same.f t198 t201).bind fun t204 => (if t204 = true then ((orthoepylaw21_awake.f).bind fun t205 => (some t205)) else (some false))) = some r := H
                have A29 := Aside0.mk A290
                clear A290
                replace H := Option.bind_eq_some_iff.mp H
                obtain ⟨t204, A300, H⟩ := H
                replace H : (if t204 = true then ((orthoepylaw21_awake.f).bind fun t205 => (some t205)) else (some false)) = some r := H
                have A30 := Aside0.mk A300
                clear A300
                by_cases c31 : t204 = true
                · subst c31
                  have H1 : ((orthoepylaw21_awake.f).bind fun t205 => (some t205)) = some r := by rw [if_pos rfl] at H; exact H
                  clear H
                  have H := H1
                  clear H1
                  replace H := Option.bind_eq_some_iff.mp H
                  obtain ⟨t205, A320, H⟩ := H
                  replace H : (some t205) = some r := H
                  have A32 := Aside0.mk A320
                  clear A320
                  obtain rfl := Option.some.inj H
                  obtain ⟨Ao33, co33, eo33⟩ := Kd.R_slice HO_7.out
                  subst eo33
                  obtain ⟨Ao34, co34, eo34⟩ := Kd.R_slice HO_6.out
                  subst eo34
                  go_wp2_with (first | ((with_reducible refine gate_callee (f := 18) rfl ?_); refine goesL_ (some 44) rfl rfl Try.func18 (by kernel_rfl) rfl #[.slice A0 l0.length c0, .slice Ao34 t182.length co34, .slice Ao33 x7_1.length co33] rfl (by (try simp only [List.map_toArray, List.map_cons, List.map_nil]); first | done | rfl | (simp only [List.length_drop, List.length_take]; rfl)) ?_; (with_reducible refine (order_Merge.calls _ _ l0 _ _ t182 _ _ x7_1 t191 _ ?side1 ?side2 ?side3 ?side4 ?side5 ?side6 A24.out).mono ?_); (case side1 => repeat (first | exact (Kd.C_below HR0.out HB.out) | (with_reducible refine Kd.C_alloc ?_ _) | (with_reducible refine Kd.C_drewN ?_ _) | (with_reducible refine Kd.C_drew ?_))); (case side2 => exact HC0.out); (case side3 => repeat (first | exact (Kd.R_reads' HO_6.out).2.2 | (with_reducible refine Kd.C_alloc ?_ _) | (with_reducible refine Kd.C_drewN ?_ _) | (with_reducible refine Kd.C_drew ?_))); (case side4 => exact (Kd.R_reads' HO_6.out).2.1); (case side5 => repeat (first | exact (Kd.R_reads' HO_7.out).2.2 | (with_reducible refine Kd.C_alloc ?_ _) | (with_reducible refine Kd.C_drewN ?_ _) | (with_reducible refine Kd.C_drew ?_))); (case side6 => exact (Kd.R_reads' HO_7.out).2.1); rintro e w35 ⟨v192, rfl, ho0, hb⟩; refine ⟨_, rfl, ?_⟩; have n0_ := Aside0.mk (Kd.R_elder' (by (with_reducible repeat (first | apply Kd.R_alloc | apply Kd.R_drewN | apply Kd.R_drew)); exact HO_6.out) (Kd.R_base ho0) hb); have n1_ := Aside0.mk (Kd.R_elder' (by (with_reducible repeat (first | apply Kd.R_alloc | apply Kd.R_drewN | apply Kd.R_drew)); exact HO_7.out) (Kd.R_base ho0) hb); have n2_ := Aside0.mk (Kd.R_lower (Kd.R_new' (Kd.R_new' ho0 (Kd.R_lt (by (with_reducible repeat (first | apply Kd.R_alloc | apply Kd.R_drewN | apply Kd.R_drew)); exact HO_6.out))) (Kd.R_lt (by (with_reducible repeat (first | apply Kd.R_alloc | apply Kd.R_drewN | apply Kd.R_drew)); exact HO_7.out))) (below_size (by repeat (first | (with_reducible first | exact HB.out | apply below_alloc | apply pw_below_drewN | apply below_drew1) | exact HB.out)))); have n3_ := Aside0.mk (below_step (by repeat (first | (with_reducible first | exact HB.out | apply below_alloc | apply pw_below_drewN | apply below_drew1) | exact HB.out)) hb); clear HO_6; clear HO_7; clear HB; have HO_6 := n0_; have HO_7 := n1_; have HO193 := n2_; have HB := n3_; clear n0_ n1_ n2_ n3_; (try clear hb); (try clear hb2); (try clear hk); (try clear hi); (try clear ho0)) | ((with_reducible refine gate_callee (f := 15) rfl ?_); refine goesL_ (some 46) rfl rfl Try.func15 (by kernel_rfl) rfl #[.slice A0 l0.length c0] rfl (by (try simp only [List.map_toArray, List.map_cons, List.map_nil]); first | done | rfl | (simp only [List.length_drop, List.length_take]; rfl)) ?_; (with_reducible refine (order_Sort.calls _ _ l0 t194 _ ?side1 ?side2 A25.out).mono ?_); (case side1 => repeat (first | exact (Kd.C_below HR0.out HB.out) | (with_reducible refine Kd.C_alloc ?_ _) | (with_reducible refine Kd.C_drewN ?_ _) | (with_reducible refine Kd.C_drew ?_))); (case side2 => exact HC0.out); rintro e w36 ⟨v195, rfl, ho0, hb⟩; refine ⟨_, rfl, ?_⟩; have n0_ := Aside0.mk (Kd.R_elder' (by (with_reducible repeat (first | apply Kd.R_alloc | apply Kd.R_drewN | apply Kd.R_drew)); exact HO_6.out) (Kd.R_base ho0) hb); have n1_ := Aside0.mk (Kd.R_elder' (by (with_reducible repeat (first | apply Kd.R_alloc | apply Kd.R_drewN | apply Kd.R_drew)); exact HO_7.out) (Kd.R_base ho0) hb); have n2_ := Aside0.mk (Kd.R_elder' (by (with_reducible repeat (first | apply Kd.R_alloc | apply Kd.R_drewN | apply Kd.R_drew)); exact HO193.out) (Kd.R_base ho0) hb); have n3_ := Aside0.mk (Kd.R_lower (Kd.R_new' (Kd.R_new' (Kd.R_new' ho0 (Kd.R_lt (by (with_reducible repeat (first | apply Kd.R_alloc | apply Kd.R_drewN | apply Kd.R_drew)); exact HO_6.out))) (Kd.R_lt (by (with_reducible repeat (first | apply Kd.R_alloc | apply Kd.R_drewN | apply Kd.R_drew)); exact HO_7.out))) (Kd.R_lt (by (with_reducible repeat (first | apply Kd.R_alloc | apply Kd.R_drewN | apply Kd.R_drew)); exact HO193.out))) (below_size (by repeat (first | (with_reducible first | exact HB.out | apply below_alloc | apply pw_below_drewN | apply below_drew1) | exact HB.out)))); have n4_ := Aside0.mk (below_step (by repeat (first | (with_reducible first | exact HB.out | apply below_alloc | apply pw_below_drewN | apply below_drew1) | exact HB.out)) hb); clear HO_6; clear HO_7; clear HO193; clear HB; have HO_6 := n0_; have HO_7 := n1_; have HO193 := n2_; have HO196 := n3_; have HB := n4_; clear n0_ n1_ n2_ n3_ n4_; (try clear hb); (try clear hb2); (try clear hk); (try clear hi); (try clear ho0); obtain ⟨Ao37, co37, eo37⟩ := Kd.R_slice HO193.out; subst eo37; obtain ⟨Ao38, co38, eo38⟩ := Kd.R_slice HO196.out; subst eo38) | ((with_reducible refine gate_callee (f := 14) rfl ?_); refine goesL_ (some 47) rfl rfl Try.func14 (by kernel_rfl) rfl #[.slice Ao37 t191.length co37, .slice Ao38 t194.length co38] rfl (by (try simp only [List.map_toArray, List.map_cons, List.map_nil]); first | done | rfl | (simp only [List.length_drop, List.length_take]; rfl)) ?_; (with_reducible refine (orthoepylaw21_same.calls _ _ t191 _ _ t194 true _ ?side1 ?side2 ?side3 ?side4 A26.out).mono ?_); (case side1 => repeat (first | exact (Kd.R_reads' HO193.out).2.2 | (with_reducible refine Kd.C_alloc ?_ _) | (with_reducible refine Kd.C_drewN ?_ _) | (with_reducible refine Kd.C_drew ?_))); (case side2 => exact (Kd.R_reads' HO193.out).2.1); (case side3 => repeat (first | exact (Kd.R_reads' HO196.out).2.2 | (with_reducible refine Kd.C_alloc ?_ _) | (with_reducible refine Kd.C_drewN ?_ _) | (with_reducible refine Kd.C_drew ?_))); (case side4 => exact (Kd.R_reads' HO196.out).2.1); rintro e w' ⟨rfl, ⟨nd, rfl⟩⟩; refine ⟨_, rfl, ?_⟩) | (go_at_call 18; (with_reducible refine (order_Merge.calls _ _ l0 _ _ x7_1 _ _ t182 t198 _ ?side1 ?side2 ?side3 ?side4 ?side5 ?side6 A28.out).mono ?_); (case side1 => repeat (first | exact (Kd.C_below HR0.out (by repeat (first | (with_reducible first | exact HB.out | apply below_alloc | apply pw_below_drewN | apply below_drew1) | exact HB.out))) | (with_reducible refine Kd.C_alloc ?_ _) | (with_reducible refine Kd.C_drewN ?_ _) | (with_reducible refine Kd.C_drew ?_))); (case side2 => exact HC0.out); (case side3 => repeat (first | exact (Kd.R_reads' HO_7.out).2.2 | (with_reducible refine Kd.C_alloc ?_ _) | (with_reducible refine Kd.C_drewN ?_ _) | (with_reducible refine Kd.C_drew ?_))); (case side4 => exact (Kd.R_reads' HO_7.out).2.1); (case side5 => repeat (first | exact (Kd.R_reads' HO_6.out).2.2 | (with_reducible refine Kd.C_alloc ?_ _) | (with_reducible refine Kd.C_drewN ?_ _) | (with_reducible refine Kd.C_drew ?_))); (case side6 => exact (Kd.R_reads' HO_6.out).2.1); rintro e w39 ⟨v199, rfl, ho0, hb⟩; have n0_ := Aside0.mk (Kd.R_elder' (by (with_reducible repeat (first | apply Kd.R_alloc | apply Kd.R_drewN | apply Kd.R_drew)); exact HO_6.out) (Kd.R_base ho0) hb); have n1_ := Aside0.mk (Kd.R_elder' (by (with_reducible repeat (first | apply Kd.R_alloc | apply Kd.R_drewN | apply Kd.R_drew)); exact HO_7.out) (Kd.R_base ho0) hb); have n2_ := Aside0.mk (Kd.R_elder' (by (with_reducible repeat (first | apply Kd.R_alloc | apply Kd.R_drewN | apply Kd.R_drew)); exact HO193.out) (Kd.R_base ho0) hb); have n3_ := Aside0.mk (Kd.R_elder' (by (with_reducible repeat (first | apply Kd.R_alloc | apply Kd.R_drewN | apply Kd.R_drew)); exact HO196.out) (Kd.R_base ho0) hb); have n4_ := Aside0.mk (Kd.R_lower (Kd.R_new' (Kd.R_new' (Kd.R_new' (Kd.R_new' ho0 (Kd.R_lt (by (with_reducible repeat (first | apply Kd.R_alloc | apply Kd.R_drewN | apply Kd.R_drew)); exact HO_6.out))) (Kd.R_lt (by (with_reducible repeat (first | apply Kd.R_alloc | apply Kd.R_drewN | apply Kd.R_drew)); exact HO_7.out))) (Kd.R_lt (by (with_reducible repeat (first | apply Kd.R_alloc | apply Kd.R_drewN | apply Kd.R_drew)); exact HO193.out))) (Kd.R_lt (by (with_reducible repeat (first | apply Kd.R_alloc | apply Kd.R_drewN | apply Kd.R_drew)); exact HO196.out))) (below_size (by repeat (first | (with_reducible first | exact HB.out | apply below_alloc | apply pw_below_drewN | apply below_drew1) | exact HB.out)))); have n5_ := Aside0.mk (below_step (by repeat (first | (with_reducible first | exact HB.out | apply below_alloc | apply pw_below_drewN | apply below_drew1) | exact HB.out)) hb); clear HO_6; clear HO_7; clear HO193; clear HO196; clear HB; have HO_6 := n0_; have HO_7 := n1_; have HO193 := n2_; have HO196 := n3_; have HO200 := n4_; have HB := n5_; clear n0_ n1_ n2_ n3_ n4_ n5_; (try clear hb); (try clear hb2); (try clear hk); (try clear hi); (try clear ho0)) | (go_at_call 19; (with_reducible refine (orthoepyref21_Merge.calls k1 _ _ l0 _ _ x7_1 _ _ t182 t201 _ ?side1 ?side2 ?side3 ?side4 ?side5 ?side6 A29.out).mono ?_); (case side1 => repeat (first | exact (Kd.C_below HR0.out HB.out) | (with_reducible refine Kd.C_alloc ?_ _) | (with_reducible refine Kd.C_drewN ?_ _) | (with_reducible refine Kd.C_drew ?_))); (case side2 => exact HC0.out); (case side3 => repeat (first | exact (Kd.R_reads' HO_7.out).2.2 | (with_reducible refine Kd.C_alloc ?_ _) | (with_reducible refine Kd.C_drewN ?_ _) | (with_reducible refine Kd.C_drew ?_))); (case side4 => exact (Kd.R_reads' HO_7.out).2.1); (case side5 => repeat (first | exact (Kd.R_reads' HO_6.out).2.2 | (with_reducible refine Kd.C_alloc ?_ _) | (with_reducible refine Kd.C_drewN ?_ _) | (with_reducible refine Kd.C_drew ?_))); (case side6 => exact (Kd.R_reads' HO_6.out).2.1); rintro e w40 ⟨v202, rfl, ho0, hb⟩; have n0_ := Aside0.mk (Kd.R_elder' (by (with_reducible repeat (first | apply Kd.R_alloc | apply Kd.R_drewN | apply Kd.R_drew)); exact HO_6.out) (Kd.R_base ho0) hb); have n1_ := Aside0.mk (Kd.R_elder' (by (with_reducible repeat (first | apply Kd.R_alloc | apply Kd.R_drewN | apply Kd.R_drew)); exact HO_7.out) (Kd.R_base ho0) hb); have n2_ := Aside0.mk (Kd.R_elder' (by (with_reducible repeat (first | apply Kd.R_alloc | apply Kd.R_drewN | apply Kd.R_drew)); exact HO193.out) (Kd.R_base ho0) hb); have n3_ := Aside0.mk (Kd.R_elder' (by (with_reducible repeat (first | apply Kd.R_alloc | apply Kd.R_drewN | apply Kd.R_drew)); exact HO196.out) (Kd.R_base ho0) hb); have n4_ := Aside0.mk (Kd.R_elder' (by (with_reducible repeat (first | apply Kd.R_alloc | apply Kd.R_drewN | apply Kd.R_drew)); exact HO200.out) (Kd.R_base ho0) hb); have n5_ := Aside0.mk (Kd.R_lower (Kd.R_new' (Kd.R_new' (Kd.R_new' (Kd.R_new' (Kd.R_new' ho0 (Kd.R_lt (by (with_reducible repeat (first | apply Kd.R_alloc | apply Kd.R_drewN | apply Kd.R_drew)); exact HO_6.out))) (Kd.R_lt (by (with_reducible repeat (first | apply Kd.R_alloc | apply Kd.R_drewN | apply Kd.R_drew)); exact HO_7.out))) (Kd.R_lt (by (with_reducible repeat (first | apply Kd.R_alloc | apply Kd.R_drewN | apply Kd.R_drew)); exact HO193.out))) (Kd.R_lt (by (with_reducible repeat (first | apply Kd.R_alloc | apply Kd.R_drewN | apply Kd.R_drew)); exact HO196.out))) (Kd.R_lt (by (with_reducible repeat (first | apply Kd.R_alloc | apply Kd.R_drewN | apply Kd.R_drew)); exact HO200.out))) (below_size (by repeat (first | (with_reducible first | exact HB.out | apply below_alloc | apply pw_below_drewN | apply below_drew1) | exact HB.out)))); have n6_ := Aside0.mk (below_step (by repeat (first | (with_reducible first | exact HB.out | apply below_alloc | apply pw_below_drewN | apply below_drew1) | exact HB.out)) hb); clear HO_6; clear HO_7; clear HO193; clear HO196; clear HO200; clear HB; have HO_6 := n0_; have HO_7 := n1_; have HO193 := n2_; have HO196 := n3_; have HO200 := n4_; have HO203 := n5_; have HB := n6_; clear n0_ n1_ n2_ n3_ n4_ n5_ n6_; (try clear hb); (try clear hb2); (try clear hk); (try clear hi); (try clear ho0); obtain ⟨Ao41, co41, eo41⟩ := Kd.R_slice HO200.out; subst eo41; obtain ⟨Ao42, co42, eo42⟩ := Kd.R_slice HO203.out; subst eo42) | (go_at_call 14; (with_reducible refine (orthoepylaw21_same.calls _ _ t198 _ _ t201 true _ ?side1 ?side2 ?side3 ?side4 A30.out).mono ?_); (case side1 => repeat (first | exact (Kd.R_reads' HO200.out).2.2 | (with_reducible refine Kd.C_alloc ?_ _) | (with_reducible refine Kd.C_drewN ?_ _) | (with_reducible refine Kd.C_drew ?_))); (case side2 => exact (Kd.R_reads' HO200.out).2.1); (case side3 => repeat (first | exact (Kd.R_reads' HO203.out).2.2 | (with_reducible refine Kd.C_alloc ?_ _) | (with_reducible refine Kd.C_drewN ?_ _) | (with_reducible refine Kd.C_drew ?_))); (case side4 => exact (Kd.R_reads' HO203.out).2.1); rintro e w' ⟨rfl, ⟨nd, rfl⟩⟩) | (go_at_call 11; (with_reducible refine (orthoepylaw21_awake.calls  t205 _ A32.out).mono ?_); rintro e w43 ⟨rfl, hb⟩; have n0_ := Aside0.mk (Kd.R_below (by (with_reducible repeat (first | apply Kd.R_alloc | apply Kd.R_drewN | apply Kd.R_drew)); exact HO_6.out) hb); have n1_ := Aside0.mk (Kd.R_below (by (with_reducible repeat (first | apply Kd.R_alloc | apply Kd.R_drewN | apply Kd.R_drew)); exact HO_7.out) hb); have n2_ := Aside0.mk (Kd.R_below (by (with_reducible repeat (first | apply Kd.R_alloc | apply Kd.R_drewN | apply Kd.R_drew)); exact HO193.out) hb); have n3_ := Aside0.mk (Kd.R_below (by (with_reducible repeat (first | apply Kd.R_alloc | apply Kd.R_drewN | apply Kd.R_drew)); exact HO196.out) hb); have n4_ := Aside0.mk (Kd.R_below (by (with_reducible repeat (first | apply Kd.R_alloc | apply Kd.R_drewN | apply Kd.R_drew)); exact HO200.out) hb); have n5_ := Aside0.mk (Kd.R_below (by (with_reducible repeat (first | apply Kd.R_alloc | apply Kd.R_drewN | apply Kd.R_drew)); exact HO203.out) hb); have n6_ := Aside0.mk (below_step (by repeat (first | (with_reducible first | exact HB.out | apply below_alloc | apply pw_below_drewN | apply below_drew1) | exact HB.out)) hb); clear HO_6; clear HO_7; clear HO193; clear HO196; clear HO200; clear HO203; clear HB; have HO_6 := n0_; have HO_7 := n1_; have HO193 := n2_; have HO196 := n3_; have HO200 := n4_; have HO203 := n5_; have HB := n6_; clear n0_ n1_ n2_ n3_ n4_ n5_ n6_; (try clear hb); (try clear hb2); (try clear hk); (try clear hi)))
                  go_ret
                  exact ⟨by first | rfl | (simp [errW_none, errW_some] <;> rfl) | (simp [*, errW_none, errW_some] <;> rfl), by repeat (first | (with_reducible first | exact HB.out | apply below_alloc | apply pw_below_drewN | apply below_drew1) | exact HB.out)⟩
                · replace c31 := Bool.eq_false_iff.mpr c31
                  subst c31
                  have H1 : (some false) = some r := by rw [if_neg (show ¬ (false = true) by decide)] at H; exact H
                  clear H
                  have H := H1
                  clear H1
                  obtain rfl := Option.some.inj H
                  exact absurd hT_.out (by decide)
              · replace c27 := Bool.eq_false_iff.mpr c27
                subst c27
                have H1 : (some false) = some r := by rw [if_neg (show ¬ (false = true) by decide)] at H; exact H
                clear H
                have H := H1
                clear H1
                obtain rfl := Option.some.inj H
                exact absurd hT_.out (by decide)
      · rw [if_neg c7] at H
        exact absurd H (by simp)
    · rw [if_neg c6] at H
      exact absurd H (by simp)
  · replace c4 := Bool.eq_false_iff.mpr c4
    subst c4
    have H1 : ((orthoepylaw21_awake.f).bind fun t179 => (some t179)) = some r := by rw [if_neg (show ¬ (false = true) by decide)] at H; exact H
    clear H
    have H := H1
    clear H1
    replace H := Option.bind_eq_some_iff.mp H
    obtain ⟨t179, A440, H⟩ := H
    replace H : (some t179) = some r := H
    have A44 := Aside0.mk A440
    clear A440
    obtain rfl := Option.some.inj H
    go_enter Try.func5, Try.ntmps5
    go_wp2_with (first | ((with_reducible refine gate_callee (f := 10) rfl ?_); refine goesL_ (some 10) rfl rfl Try.func10 (by kernel_rfl) rfl #[.slice A0 l0.length c0] rfl (by (try simp only [List.map_toArray, List.map_cons, List.map_nil]); first | done | rfl | (simp only [List.length_drop, List.length_take]; rfl)) ?_; (with_reducible refine (orthoepylaw21_right.calls k _ _ l0 false _ ?side1 ?side2 A3.out).mono ?_); (case side1 => repeat (first | exact HR0.out | (with_reducible refine Kd.C_alloc ?_ _) | (with_reducible refine Kd.C_drewN ?_ _) | (with_reducible refine Kd.C_drew ?_))); (case side2 => exact HC0.out); rintro e w45 ⟨rfl, hb⟩; refine ⟨_, rfl, ?_⟩; have n0_ := Aside0.mk (below_step (by repeat (first | (with_reducible first | exact HB.out | apply below_alloc | apply pw_below_drewN | apply below_drew1) | exact HB.out)) hb); clear HB; have HB := n0_; clear n0_; (try clear hb); (try clear hb2); (try clear hk); (try clear hi)) | ((with_reducible refine gate_callee (f := 11) rfl ?_); refine goesL_ (some 12) rfl rfl Try.func11 (by kernel_rfl) rfl #[] rfl (by (try simp only [List.map_toArray, List.map_cons, List.map_nil]); first | done | rfl | (simp only [List.length_drop, List.length_take]; rfl)) ?_; (with_reducible refine (orthoepylaw21_awake.calls  t179 _ A44.out).mono ?_); rintro e w46 ⟨rfl, hb⟩; refine ⟨_, rfl, ?_⟩; have n0_ := Aside0.mk (below_step (by repeat (first | (with_reducible first | exact HB.out | apply below_alloc | apply pw_below_drewN | apply below_drew1) | exact HB.out)) hb); clear HB; have HB := n0_; clear n0_; (try clear hb); (try clear hb2); (try clear hk); (try clear hi)))
    go_ret
    exact ⟨by first | rfl | (simp [errW_none, errW_some] <;> rfl) | (simp [*, errW_none, errW_some] <;> rfl), by repeat (first | (with_reducible first | exact HB.out | apply below_alloc | apply pw_below_drewN | apply below_drew1) | exact HB.out)⟩

end Go.Proofs.Ytajinnlaajhoeaa.PTwo
