-- The machine's side of laws, written by a program of this session (wip/gen/pp.sh). Lean checks it.
import Derived.Test.YtajinnlaajhoeaaPThrx0
import Derived.Test.YtajinnlaajhoeaaPThrx1
namespace Go.Proofs.Ytajinnlaajhoeaa.PThr
open Go.RowKit Go.Proofs.YtajinnlaajhoeaaW.PrintWords Go.Proofs.YtajinnlaajhoeaaW.PrintLast
set_option linter.unusedVariables false
set_option linter.unusedSimpArgs false

/-! ### orthoepylaw21_put: function 20 -/
def orthoepylaw21_put.l0 : Nat → List ByteArray → List Int → Int → Int → Option (List Int)
  | 0, _, _, _, _ => none
  | k + 1, x0, x1, x2, x7 => if x7 > 0 then (if 0 ≤ x2 then (if x2 < (x0.length : Int) then (if 0 ≤ (wrap64 (x7 - 1)) then (if (wrap64 (x7 - 1)) < (x1.length : Int) then (if 0 ≤ (rd x1 (wrap64 (x7 - 1))) then (if (rd x1 (wrap64 (x7 - 1))) < (x0.length : Int) then ((orthoepyref21_Less.f (rdOf ByteArray.empty x0 x2) (rdOf ByteArray.empty x0 (rd x1 (wrap64 (x7 - 1))))).bind fun t158 => (if t158 = true then (orthoepylaw21_put.l0 k x0 x1 x2 (wrap64 (x7 - 1))) else (if 0 ≤ x7 then (if x7 ≤ (x1.length : Int) then (if ([] : List Int).length + (x1.take (x7 : Int).toNat).length < 17592186044416 then ((some (([] : List Int) ++ (x1.take (x7 : Int).toNat) : List Int)).bind fun y160 => ((some (([x2] : List Int) : List Int)).bind fun y163 => (if y160.length + y163.length < 17592186044416 then ((some (y160 ++ y163 : List Int)).bind fun y166 => (if y166.length + (x1.drop (x7 : Int).toNat).length < 17592186044416 then (some (y166 ++ (x1.drop (x7 : Int).toNat))) else (none))) else (none)))) else (none)) else (none)) else (none)))) else (none)) else (none)) else (none)) else (none)) else (none)) else (none)) else (if 0 ≤ x7 then (if x7 ≤ (x1.length : Int) then (if ([] : List Int).length + (x1.take (x7 : Int).toNat).length < 17592186044416 then ((some (([] : List Int) ++ (x1.take (x7 : Int).toNat) : List Int)).bind fun y174 => ((some (([x2] : List Int) : List Int)).bind fun y177 => (if y174.length + y177.length < 17592186044416 then ((some (y174 ++ y177 : List Int)).bind fun y180 => (if y180.length + (x1.drop (x7 : Int).toNat).length < 17592186044416 then (some (y180 ++ (x1.drop (x7 : Int).toNat))) else (none))) else (none)))) else (none)) else (none)) else (none))
def orthoepylaw21_put.f (k : Nat) (l0 : List ByteArray) (l1 : List Int) (a2 : Int) : Option (List Int) := orthoepylaw21_put.l0 k l0 l1 a2 (l1.length : Int)
theorem orthoepylaw21_put.mono_l : ∀ k, (∀ y0 y1 y2 y3, LeO (orthoepylaw21_put.l0 k y0 y1 y2 y3) (orthoepylaw21_put.l0 (k + 1) y0 y1 y2 y3))
  | 0 => fun _ _ _ _ r h => by simp [orthoepylaw21_put.l0] at h
  | k + 1 => by
    have ih0 := orthoepylaw21_put.mono_l k
    · intro y0 y1 y2 y3
      unfold orthoepylaw21_put.l0
      repeat' first
      | (with_reducible exact ih0 _ _ _ _)
      | (with_reducible exact LeO.refl _)
      | (with_reducible exact LeO.none _)
      | (with_reducible refine LeO.ite ?_ ?_)
      | (with_reducible refine LeO.bind ?_ (fun _ => ?_))
      | exact ih0 _ _ _ _
      | exact LeO.none _
      | refine LeO.ite ?_ ?_
      | refine LeO.bind ?_ (fun _ => ?_)
theorem orthoepylaw21_put.mono : ∀ a0 a1 a2 k, LeO (orthoepylaw21_put.f k a0 a1 a2) (orthoepylaw21_put.f (k + 1) a0 a1 a2) := by
  intro a0 a1 a2 k
  have ih0 := orthoepylaw21_put.mono_l k
  unfold orthoepylaw21_put.f
  repeat' first
      | (with_reducible exact ih0 _ _ _ _)
      | (with_reducible exact LeO.refl _)
      | (with_reducible exact LeO.none _)
      | (with_reducible refine LeO.ite ?_ ?_)
      | (with_reducible refine LeO.bind ?_ (fun _ => ?_))
      | exact ih0 _ _ _ _
      | exact LeO.none _
      | refine LeO.ite ?_ ?_
      | refine LeO.bind ?_ (fun _ => ?_)
def orthoepylaw21_put.T2 : Bool × List (List Nat × List Nat) := (true, [([], []), ([0], [0]), ([1], [1]), ([2], [2]), ([2], [2]), ([3, 4, 2], [2, 3, 4]), ([5, 2], [2, 5]), ([2], [2]), ([2], [2]), ([2], [2]), ([9, 2], [2, 9]), ([8, 10, 2], [2, 8, 10]), ([11, 2], [2, 11]), ([7, 12, 2], [2, 7, 12]), ([13, 2], [2, 13]), ([6, 14, 2, 2], [2, 6, 14]), ([2, 15], [2, 15])])
def orthoepylaw21_put.B2 : List Nat := [0, 1, 3, 7, 7, 31, 63, 7, 7, 7, 519, 1799, 3847, 8071, 16263, 32767, 65535]
theorem orthoepylaw21_put.tab2 : rtab .any (opsOf Try.f20 2) = orthoepylaw21_put.T2 := by kernel_rfl
theorem orthoepylaw21_put.bits2 : waitsOk orthoepylaw21_put.T2.2 orthoepylaw21_put.B2 = true := by kernel_rfl
def orthoepylaw21_put.T5 : Bool × List (List Nat × List Nat) := (true, [([], []), ([], []), ([], []), ([1, 2], [1, 2]), ([0, 3], [0, 3]), ([], []), ([5], [5]), ([4, 6, 4], [4, 6]), ([], []), ([], []), ([8, 9], [8, 9]), ([7, 10, 7], [7, 10]), ([11, 11, 0, 1, 2, 3, 4, 5, 6, 7, 8, 9, 10, 11], [11])])
def orthoepylaw21_put.B5 : List Nat := [0, 0, 0, 6, 15, 0, 32, 127, 0, 0, 768, 2047, 4095]
theorem orthoepylaw21_put.tab5 : rtab .any (opsOf Try.f20 5) = orthoepylaw21_put.T5 := by kernel_rfl
theorem orthoepylaw21_put.bits5 : waitsOk orthoepylaw21_put.T5.2 orthoepylaw21_put.B5 = true := by kernel_rfl
set_option maxHeartbeats 8000000 in
set_option maxRecDepth 100000 in
theorem orthoepylaw21_put.calls (k : Nat) (A0 : Option Addr) (c0 : Nat) (l0 : List ByteArray) (A1 : Option Addr) (c1 : Nat) (l1 : List Int) (a2 : Int) (r : List Int) (w : World) (hr0 : Kd.C Kd.string w A0 l0.length l0) (hc0 : l0.length ≤ c0) (hr1 : Kd.C (Kd.int .i64) w A1 l1.length l1) (hc1 : l1.length ≤ c1) (h : orthoepylaw21_put.f k l0 l1 a2 = some r) :
    Calls Try.prog 20 #[.slice A0 l0.length c0, .slice A1 l1.length c1, .int .i64 a2] w fun e w' => ∃ v0_ : Value, e = .returned (v0_) ∧ Kd.R (Kd.int .i64) 3 w' w.heap.size (fun _ => True) v0_ r ∧ Below w.heap.size w w' := by
  have HR0 := Aside0.mk hr0
  have HC0 := Aside0.mk hc0
  clear hr0 hc0
  have HR1 := Aside0.mk hr1
  have HC1 := Aside0.mk hc1
  clear hr1 hc1
  have HB := Aside0.mk (Below.refl w.heap.size w)
  have H : (orthoepylaw21_put.l0 k l0 l1 a2 (l1.length : Int)) = some r := h
  clear h
  have H' := Aside0.mk H
  clear H
  go_enter Try.func20, Try.ntmps20
  go_wp2
  go_loopg [7] k (fun kq v7 w' => ∃ (x7_1 : Int), v7 = .int .i64 x7_1 ∧ Aside0 (orthoepylaw21_put.l0 kq l0 l1 a2 x7_1 = some r) ∧ Aside0 (kq ≤ k) ∧ Aside0 (Below w.heap.size w w'))
  case atStart => exact ⟨((l1.length : Int)), (by first | rfl | (simp; done) | (simp [*]; done)), H', ⟨Nat.le_refl _⟩, ⟨by repeat (first | (with_reducible first | exact HB.out | apply below_alloc | apply pw_below_drewN | apply below_drew1) | exact HB.out)⟩⟩
  case round =>
    clear H'
    try clear c1
    try clear c2
    try clear p2
    obtain ⟨x7_1, rfl, HA, HK1, HB⟩ := hrel
    cases gk with
    | zero => exact absurd HA.out (by simp [orthoepylaw21_put.l0])
    | succ k1 =>
      have H := HA.out
      clear HA
      simp only [orthoepylaw21_put.l0] at H
      by_cases c4 : x7_1 > 0
      · rw [if_pos c4] at H
        have c4b0 : decide (0 < x7_1) = true := decide_eq_true c4
        clear c4
        by_cases c5 : 0 ≤ a2
        · rw [if_pos c5] at H
          have c5b0 : decide (0 ≤ a2) = true := decide_eq_true c5
          clear c5
          by_cases c6 : a2 < (l0.length : Int)
          · rw [if_pos c6] at H
            have c6b0 : decide (a2 < (l0.length : Int)) = true := decide_eq_true c6
            clear c6
            obtain ⟨ji7, hji7⟩ : ∃ j_ : Int, (wrap64 (x7_1 - 1)) = j_ := ⟨_, rfl⟩
            replace H : (if 0 ≤ (ji7) then (if (ji7) < (l1.length : Int) then (if 0 ≤ (rd l1 (ji7)) then (if (rd l1 (ji7)) < (l0.length : Int) then ((orthoepyref21_Less.f (rdOf ByteArray.empty l0 a2) (rdOf ByteArray.empty l0 (rd l1 (ji7)))).bind fun t158 => (if t158 = true then (orthoepylaw21_put.l0 k1 l0 l1 a2 ji7) else (if 0 ≤ x7_1 then (if x7_1 ≤ (l1.length : Int) then (if ([] : List Int).length + (l1.take (x7_1 : Int).toNat).length < 17592186044416 then ((some (([] : List Int) ++ (l1.take (x7_1 : Int).toNat) : List Int)).bind fun y160 => ((some (([a2] : List Int) : List Int)).bind fun y163 => (if y160.length + y163.length < 17592186044416 then ((some (y160 ++ y163 : List Int)).bind fun y166 => (if y166.length + (l1.drop (x7_1 : Int).toNat).length < 17592186044416 then (some (y166 ++ (l1.drop (x7_1 : Int).toNat))) else (none))) else (none)))) else (none)) else (none)) else (none)))) else (none)) else (none)) else (none)) else (none)) = some r := by first | (rw [hji7] at H; exact H) | (simp only [hji7] at H ⊢; exact H)
            have hji7w : (IntKind.i64.wrap (x7_1 - 1)) = ji7 := (i64_w _).trans hji7
            by_cases c8 : 0 ≤ (ji7)
            · rw [if_pos c8] at H
              have c8b0 : decide (0 ≤ (ji7)) = true := decide_eq_true c8
              clear c8
              by_cases c9 : (ji7) < (l1.length : Int)
              · rw [if_pos c9] at H
                have c9b0 : decide ((ji7) < (l1.length : Int)) = true := decide_eq_true c9
                clear c9
                by_cases c10 : 0 ≤ (rd l1 (ji7))
                · rw [if_pos c10] at H
                  have c10b0 : decide (0 ≤ (rd l1 (ji7))) = true := decide_eq_true c10
                  clear c10
                  by_cases c11 : (rd l1 (ji7)) < (l0.length : Int)
                  · rw [if_pos c11] at H
                    have c11b0 : decide ((rd l1 (ji7)) < (l0.length : Int)) = true := decide_eq_true c11
                    clear c11
                    replace H := Option.bind_eq_some_iff.mp H
                    obtain ⟨t158, A120, H⟩ := H
                    replace H : (if t158 = true then (orthoepylaw21_put.l0 k1 l0 l1 a2 ji7) else (if 0 ≤ x7_1 then (if x7_1 ≤ (l1.length : Int) then (if ([] : List Int).length + (l1.take (x7_1 : Int).toNat).length < 17592186044416 then ((some (([] : List Int) ++ (l1.take (x7_1 : Int).toNat) : List Int)).bind fun y160 => ((some (([a2] : List Int) : List Int)).bind fun y163 => (if y160.length + y163.length < 17592186044416 then ((some (y160 ++ y163 : List Int)).bind fun y166 => (if y166.length + (l1.drop (x7_1 : Int).toNat).length < 17592186044416 then (some (y166 ++ (l1.drop (x7_1 : Int).toNat))) else (none))) else (none)))) else (none)) else (none)) else (none))) = some r := H
                    have A12 := Aside0.mk A120
                    clear A120
                    by_cases c13 : t158 = true
                    · subst c13
                      have H1 : (orthoepylaw21_put.l0 k1 l0 l1 a2 ji7) = some r := by rw [if_pos rfl] at H; exact H
                      clear H
                      have H := H1
                      clear H1
                      have H' := Aside0.mk H
                      clear H
                      try go_wp2
                      have n0_ := Aside0.mk (below_drew1 HB.out)
                      clear HB
                      have HB := n0_
                      clear n0_
                      have p155 : 0 ≤ (a2 : Int) := of_decide_eq_true (by first | (with_reducible assumption) | assumption)
                      have q155 : a2 < (l0.length : Int) := of_decide_eq_true (by first | (with_reducible assumption) | assumption)
                      obtain ⟨ad155, e155, hx155_0⟩ := Kd.at_string HR0.out a2 p155 q155
                      have hw155_0 := hx155_0
                      cases e155
                      replace hx155_0 := (HB.out.cell (World.block_lt_of_cell? w _ hx155_0)).trans hx155_0
                      replace p155 := eq_true p155
                      replace q155 := eq_true q155
                      have p156 : 0 ≤ ((ji7) : Int) := of_decide_eq_true (by first | (with_reducible assumption) | assumption)
                      have q156 : (ji7) < (l1.length : Int) := of_decide_eq_true (by first | (with_reducible assumption) | assumption)
                      obtain ⟨ad156, e156, hx156_0⟩ := Kd.at_int HR1.out (ji7) p156 q156
                      have hw156_0 := hx156_0
                      cases e156
                      replace hx156_0 := (HB.out.cell (World.block_lt_of_cell? w _ hx156_0)).trans hx156_0
                      replace p156 := eq_true p156
                      replace q156 := eq_true q156
                      have p157 : 0 ≤ ((rd l1 (ji7)) : Int) := of_decide_eq_true (by first | (with_reducible assumption) | assumption)
                      have q157 : (rd l1 (ji7)) < (l0.length : Int) := of_decide_eq_true (by first | (with_reducible assumption) | assumption)
                      obtain ⟨ad157, e157, hx157_0⟩ := Kd.at_string HR0.out (rd l1 (ji7)) p157 q157
                      have hw157_0 := hx157_0
                      obtain rfl : ad155 = ad157 := (by injection e157)
                      replace hx157_0 := (HB.out.cell (World.block_lt_of_cell? w _ hx157_0)).trans hx157_0
                      replace p157 := eq_true p157
                      replace q157 := eq_true q157
                      refine start_ (n := 17) (S := fun w' => w'.cell? (ad155.add (a2).toNat) = some (.string (rdOf ByteArray.empty l0 a2)) ∧ w'.cell? (ad156.add ((ji7)).toNat) = some (.int .i64 (rd l1 (ji7))) ∧ w'.cell? (ad155.add ((rd l1 (ji7))).toNat) = some (.string (rdOf ByteArray.empty l0 (rd l1 (ji7))))) (ds := []) #[false, false, false, false, false, false, false, false, false, false, false, false, false, false, false, false, false] (by kernel_rfl) rfl rfl ⟨((HB.out.cell (World.block_lt_of_cell? w _ hw155_0)).trans hw155_0), ((HB.out.cell (World.block_lt_of_cell? w _ hw156_0)).trans hw156_0), ((HB.out.cell (World.block_lt_of_cell? w _ hw157_0)).trans hw157_0)⟩ (fun hHeld => ?_); refine with_tabW orthoepylaw21_put.tab2 orthoepylaw21_put.bits2 (fun HT_ HW_ => ?_)
                      generalize wr.drew = w14 at HB hx155_0 hx156_0 hx157_0 hHeld ⊢
                      refine pure_ (i := 0) (N := some 11) (v := ?_) (a' := ?_) #[true, false, false, false, false, false, false, false, false, false, false, false, false, false, false, false, false] rfl rfl (any_of HT_.out (by kernel_rfl)) (fun _ _ _ h => h) (Or.inl ⟨by rfl, ?_⟩) ?_ ?_
                      rotate_left
                      · intro w'
                        go_simp
                        with_reducible rfl
                      rotate_left
                      · simp only [Act.put, List.setIfInBounds_toArray, List.set_cons_zero, List.set_cons_succ, i64_w, i32_w]
                        rfl
                      refine pure_ (i := 1) (N := some 12) (v := ?_) (a' := ?_) #[true, true, false, false, false, false, false, false, false, false, false, false, false, false, false, false, false] rfl rfl (any_of HT_.out (by kernel_rfl)) (fun _ _ _ h => h) (Or.inl ⟨by rfl, ?_⟩) ?_ ?_
                      rotate_left
                      · intro w'
                        go_simp
                        with_reducible rfl
                      rotate_left
                      · simp only [Act.put, List.setIfInBounds_toArray, List.set_cons_zero, List.set_cons_succ, i64_w, i32_w]
                        rfl
                      refine pure_ (i := 2) (N := some 13) (v := ?_) (a' := ?_) #[true, true, true, false, false, false, false, false, false, false, false, false, false, false, false, false, false] rfl rfl (any_of HT_.out (by kernel_rfl)) (fun _ _ _ h => h) (Or.inl ⟨by rfl, ?_⟩) ?_ ?_
                      rotate_left
                      · intro w'
                        go_simp
                        with_reducible rfl
                      rotate_left
                      · simp only [Act.put, List.setIfInBounds_toArray, List.set_cons_zero, List.set_cons_succ, i64_w, i32_w]
                        rfl
                      refine pure_ (i := 3) (N := some 14) (v := ?_) (a' := ?_) #[true, true, true, true, false, false, false, false, false, false, false, false, false, false, false, false, false] rfl rfl (any_of HT_.out (by kernel_rfl)) (fun _ _ _ h => h) (Or.inl ⟨by rfl, ?_⟩) ?_ ?_
                      rotate_left
                      · intro w'
                        go_simp
                        with_reducible rfl
                      rotate_left
                      · simp only [Act.put, List.setIfInBounds_toArray, List.set_cons_zero, List.set_cons_succ, i64_w, i32_w]
                        rfl
                      refine pure_ (i := 4) (N := some 15) (v := ?_) (a' := ?_) #[true, true, true, true, true, false, false, false, false, false, false, false, false, false, false, false, false] rfl rfl (any_of HT_.out (by kernel_rfl)) (fun _ _ _ h => h) (Or.inl ⟨by rfl, ?_⟩) ?_ ?_
                      rotate_left
                      · intro w'
                        go_simp
                        with_reducible rfl
                      rotate_left
                      · simp only [Act.put, List.setIfInBounds_toArray, List.set_cons_zero, List.set_cons_succ, i64_w, i32_w]
                        rfl
                      refine pure_ (i := 5) (N := some 16) (v := ?_) (a' := ?_) #[true, true, true, true, true, true, false, false, false, false, false, false, false, false, false, false, false] rfl rfl (any_of HT_.out (by kernel_rfl)) (fun _ _ _ h => h) (Or.inl ⟨by rfl, ?_⟩) ?_ ?_
                      rotate_left
                      · intro w'
                        go_simp
                        with_reducible rfl
                      rotate_left
                      · simp only [Act.put, List.setIfInBounds_toArray, List.set_cons_zero, List.set_cons_succ, i64_w, i32_w]
                        rfl
                      refine pure_ (i := 7) (N := some 18) (v := ?_) (a' := ?_) #[true, true, true, true, true, true, false, true, false, false, false, false, false, false, false, false, false] rfl rfl (any_of HT_.out (by kernel_rfl)) (fun _ _ _ h => h) (Or.inl ⟨by rfl, ?_⟩) ?_ ?_
                      rotate_left
                      · intro w'
                        go_simp
                        with_reducible rfl
                      rotate_left
                      · simp only [Act.put, List.setIfInBounds_toArray, List.set_cons_zero, List.set_cons_succ, i64_w, i32_w]
                        rfl
                      refine pure_ (i := 8) (N := some 19) (v := ?_) (a' := ?_) #[true, true, true, true, true, true, false, true, true, false, false, false, false, false, false, false, false] rfl rfl (any_of HT_.out (by kernel_rfl)) (fun _ _ _ h => h) (Or.inl ⟨by rfl, ?_⟩) ?_ ?_
                      rotate_left
                      · intro w'
                        go_simp
                        with_reducible rfl
                      rotate_left
                      · simp only [Act.put, List.setIfInBounds_toArray, List.set_cons_zero, List.set_cons_succ, i64_w, i32_w]
                        rfl
                      refine pure_ (i := 9) (N := some 20) (v := ?_) (a' := ?_) #[true, true, true, true, true, true, false, true, true, true, false, false, false, false, false, false, false] rfl rfl (any_of HT_.out (by kernel_rfl)) (fun _ _ _ h => h) (Or.inl ⟨by rfl, ?_⟩) ?_ ?_
                      rotate_left
                      · intro w'
                        go_simp
                        with_reducible rfl
                      rotate_left
                      · simp only [Act.put, List.setIfInBounds_toArray, List.set_cons_zero, List.set_cons_succ, i64_w, i32_w]
                        rfl
                      refine pure_ (i := 10) (N := some 21) (v := ?_) (a' := ?_) #[true, true, true, true, true, true, false, true, true, true, true, false, false, false, false, false, false] rfl rfl (any_of HT_.out (by kernel_rfl)) (fun _ _ _ h => h) (Or.inl ⟨by rfl, ?_⟩) ?_ ?_
                      rotate_left
                      · intro w'
                        go_simp
                        with_reducible rfl
                      rotate_left
                      · simp only [Act.put, List.setIfInBounds_toArray, List.set_cons_zero, List.set_cons_succ, i64_w, i32_w]
                        rfl
                      refine pure_ (i := 11) (N := some 22) (v := ?_) (a' := ?_) #[true, true, true, true, true, true, false, true, true, true, true, true, false, false, false, false, false] rfl rfl (any_of HT_.out (by kernel_rfl)) (fun _ _ _ h => h) (Or.inl ⟨by rfl, ?_⟩) ?_ ?_
                      rotate_left
                      · intro w'
                        go_simp
                        with_reducible rfl
                      rotate_left
                      · simp only [Act.put, List.setIfInBounds_toArray, List.set_cons_zero, List.set_cons_succ, i64_w, i32_w]
                        rfl
                      refine take_ (i := 6) (N := some 17) (v := ?_) (a' := ?_) #[true, true, true, true, true, true, true, true, true, true, true, true, false, false, false, false, false] rfl rfl (take_ofW HT_.out HW_.out (by kernel_rfl)) (fun _ _ _ h => h) (Or.inl ⟨by rfl, ?_⟩) hHeld ?_ ?_
                      rotate_left
                      · rintro w' ⟨s0, s1, s2⟩
                        go_simp
                        with_reducible rfl
                      rotate_left
                      · simp only [Act.put, List.setIfInBounds_toArray, List.set_cons_zero, List.set_cons_succ, i64_w, i32_w]
                        rfl
                      refine take_ (i := 12) (N := some 23) (v := ?_) (a' := ?_) #[true, true, true, true, true, true, true, true, true, true, true, true, true, false, false, false, false] rfl rfl (take_ofW HT_.out HW_.out (by kernel_rfl)) (fun _ _ _ h => h) (Or.inl ⟨by rfl, ?_⟩) hHeld ?_ ?_
                      rotate_left
                      · rintro w' ⟨s0, s1, s2⟩
                        go_simp
                        with_reducible rfl
                      rotate_left
                      · simp only [Act.put, List.setIfInBounds_toArray, List.set_cons_zero, List.set_cons_succ, i64_w, i32_w]
                        rfl
                      refine pure_ (i := 13) (N := some 24) (v := ?_) (a' := ?_) #[true, true, true, true, true, true, true, true, true, true, true, true, true, true, false, false, false] rfl rfl (any_of HT_.out (by kernel_rfl)) (fun _ _ _ h => h) (Or.inl ⟨by rfl, ?_⟩) ?_ ?_
                      rotate_left
                      · intro w'
                        go_simp
                        with_reducible rfl
                      rotate_left
                      · simp only [Act.put, List.setIfInBounds_toArray, List.set_cons_zero, List.set_cons_succ, i64_w, i32_w]
                        rfl
                      refine take_ (i := 14) (N := some 25) (v := ?_) (a' := ?_) #[true, true, true, true, true, true, true, true, true, true, true, true, true, true, true, false, false] rfl rfl (take_ofW HT_.out HW_.out (by kernel_rfl)) (fun _ _ _ h => h) (Or.inl ⟨by rfl, ?_⟩) hHeld ?_ ?_
                      rotate_left
                      · rintro w' ⟨s0, s1, s2⟩
                        go_simp
                        with_reducible rfl
                      rotate_left
                      · simp only [Act.put, List.setIfInBounds_toArray, List.set_cons_zero, List.set_cons_succ, i64_w, i32_w]
                        rfl
                      refine one_ (i := 15) (N := some 26) #[true, true, true, true, true, true, true, true, true, true, true, true, true, true, true, true, false] rfl rfl (one_of HT_.out (by kernel_rfl)) (by decide) (fun K hK => ?_)
                      refine goes_ Try.func13 (by kernel_rfl) rfl #[.string (rdOf ByteArray.empty l0 a2), .string (rdOf ByteArray.empty l0 (rd l1 (ji7)))] (by rfl) rfl rfl (by (try simp only [List.map_toArray, List.map_cons, List.map_nil]); first | done | (simp only [hji7]; rfl) | rfl | (simp only [List.length_drop, List.length_take]; rfl)) ?_
                      with_reducible refine (orthoepyref21_Less.calls (rdOf ByteArray.empty l0 a2) (rdOf ByteArray.empty l0 (rd l1 (ji7))) true _ A12.out).mono ?_
                      rintro e w15 ⟨rfl, hb⟩
                      refine ⟨_, rfl, ?_⟩
                      have n0_ := Aside0.mk (below_step (by repeat (first | (with_reducible first | exact HB.out | apply below_alloc | apply pw_below_drewN | apply below_drew1) | exact HB.out)) hb)
                      clear HB
                      have HB := n0_
                      clear n0_
                      (try clear hb)
                      (try clear hb2)
                      (try clear hk)
                      (try clear hi)
                      refine hK.out _ _ ⟨((HB.out.cell (World.block_lt_of_cell? w _ hw155_0)).trans hw155_0), ((HB.out.cell (World.block_lt_of_cell? w _ hw156_0)).trans hw156_0), ((HB.out.cell (World.block_lt_of_cell? w _ hw157_0)).trans hw157_0)⟩ (fun hHeld => ?_)
                      clear hK K
                      refine norm_ (a' := ?_) ?_ ?_
                      rotate_left
                      · show Act.put _ (some 26) _ = _
                        simp only [Act.put, List.setIfInBounds_toArray, List.set_cons_zero, List.set_cons_succ, i64_w, i32_w]
                        rfl
                      refine pure_ (i := 16) (N := some 27) (v := ?_) (a' := ?_) #[true, true, true, true, true, true, true, true, true, true, true, true, true, true, true, true, true] rfl rfl (any_of HT_.out (by kernel_rfl)) (fun _ _ _ h => h) (Or.inl ⟨by rfl, ?_⟩) ?_ ?_
                      rotate_left
                      · intro w'
                        go_simp
                        with_reducible rfl
                      rotate_left
                      · simp only [Act.put, List.setIfInBounds_toArray, List.set_cons_zero, List.set_cons_succ, i64_w, i32_w]
                        rfl
                      refine done_ (done_of HT_.out (by kernel_rfl)) ?_
                      try go_wp2
                      go_roundg k1
                      case measure => have := HK1.out; omega
                      case rel => exact ⟨(ji7), (by first | rfl | (simp; done) | (simp only [← hji7] <;> (first | rfl | simp)) | (simp [*]; done)), H', ⟨by have := HK1.out; omega⟩, ⟨by repeat (first | (with_reducible first | exact HB.out | apply below_alloc | apply pw_below_drewN | apply below_drew1) | exact HB.out)⟩⟩
                    · replace c13 := Bool.eq_false_iff.mpr c13
                      subst c13
                      have H1 : (if 0 ≤ x7_1 then (if x7_1 ≤ (l1.length : Int) then (if ([] : List Int).length + (l1.take (x7_1 : Int).toNat).length < 17592186044416 then ((some (([] : List Int) ++ (l1.take (x7_1 : Int).toNat) : List Int)).bind fun y160 => ((some (([a2] : List Int) : List Int)).bind fun y163 => (if y160.length + y163.length < 17592186044416 then ((some (y160 ++ y163 : List Int)).bind fun y166 => (if y166.length + (l1.drop (x7_1 : Int).toNat).length < 17592186044416 then (some (y166 ++ (l1.drop (x7_1 : Int).toNat))) else (none))) else (none)))) else (none)) else (none)) else (none)) = some r := by rw [if_neg (show ¬ (false = true) by decide)] at H; exact H
                      clear H
                      have H := H1
                      clear H1
                      by_cases c16 : 0 ≤ x7_1
                      · rw [if_pos c16] at H
                        have c16b0 := eq_true c16
                        have c16b1 : decide (0 ≤ x7_1) = true := decide_eq_true c16
                        clear c16
                        by_cases c17 : x7_1 ≤ (l1.length : Int)
                        · rw [if_pos c17] at H
                          have c17b0 := eq_true c17
                          have c17b1 : decide (x7_1 ≤ (l1.length : Int)) = true := decide_eq_true c17
                          clear c17
                          by_cases c18 : ([] : List Int).length + (l1.take (x7_1 : Int).toNat).length < 17592186044416
                          · rw [if_pos c18] at H
                            have LMc18 := Aside0.mk c18
                            clear c18
                            obtain ⟨y160, hy160⟩ : ∃ y_ : List Int, y_ = (([] : List Int) ++ (l1.take (x7_1 : Int).toNat)) := ⟨_, rfl⟩
                            replace H : ((some (([a2] : List Int) : List Int)).bind fun y163 => (if y160.length + y163.length < 17592186044416 then ((some (y160 ++ y163 : List Int)).bind fun y166 => (if y166.length + (l1.drop (x7_1 : Int).toNat).length < 17592186044416 then (some (y166 ++ (l1.drop (x7_1 : Int).toNat))) else (none))) else (none))) = some r := by first | (rw [hy160]; with_reducible exact H) | (have H2_ := (Option.bind_some _ _).symm.trans H; rw [hy160]; with_reducible exact H2_) | (have H2_ := (Option.bind_some _ _).symm.trans H; with_reducible exact H2_) | with_reducible exact H | (rw [hy160]; exact H) | exact H
                            have Ny160 := Aside0.mk hy160
                            clear hy160
                            obtain ⟨y163, hy163⟩ : ∃ y_ : List Int, y_ = (([a2] : List Int)) := ⟨_, rfl⟩
                            replace H : (if y160.length + y163.length < 17592186044416 then ((some (y160 ++ y163 : List Int)).bind fun y166 => (if y166.length + (l1.drop (x7_1 : Int).toNat).length < 17592186044416 then (some (y166 ++ (l1.drop (x7_1 : Int).toNat))) else (none))) else (none)) = some r := by first | (rw [hy163]; with_reducible exact H) | (have H2_ := (Option.bind_some _ _).symm.trans H; rw [hy163]; with_reducible exact H2_) | (have H2_ := (Option.bind_some _ _).symm.trans H; with_reducible exact H2_) | with_reducible exact H | (rw [hy163]; exact H) | exact H
                            have Ny163 := Aside0.mk hy163
                            clear hy163
                            by_cases c19 : y160.length + y163.length < 17592186044416
                            · rw [if_pos c19] at H
                              have LMc19 := Aside0.mk c19
                              clear c19
                              obtain ⟨y166, hy166⟩ : ∃ y_ : List Int, y_ = (y160 ++ y163) := ⟨_, rfl⟩
                              replace H : (if y166.length + (l1.drop (x7_1 : Int).toNat).length < 17592186044416 then (some (y166 ++ (l1.drop (x7_1 : Int).toNat))) else (none)) = some r := by first | (rw [hy166]; with_reducible exact H) | (have H2_ := (Option.bind_some _ _).symm.trans H; rw [hy166]; with_reducible exact H2_) | (have H2_ := (Option.bind_some _ _).symm.trans H; with_reducible exact H2_) | with_reducible exact H | (rw [hy166]; exact H) | exact H
                              have Ny166 := Aside0.mk hy166
                              clear hy166
                              have c20b0 := eq_true (of_decide_eq_true (by first | (with_reducible assumption) | assumption) : 0 ≤ x7_1)
                              have c21b0 := eq_true (of_decide_eq_true (by first | (with_reducible assumption) | assumption) : x7_1 ≤ (l1.length : Int))
                              by_cases c22 : y166.length + (l1.drop (x7_1 : Int).toNat).length < 17592186044416
                              · rw [if_pos c22] at H
                                have LMc22 := Aside0.mk c22
                                clear c22
                                obtain ⟨y170, hy170⟩ : ∃ y_ : List Int, y_ = (y166 ++ (l1.drop (x7_1 : Int).toNat)) := ⟨_, rfl⟩
                                replace H : (some y170) = some r := by first | (rw [hy170]; with_reducible exact H) | (have H2_ := (Option.bind_some _ _).symm.trans H; rw [hy170]; with_reducible exact H2_) | (have H2_ := (Option.bind_some _ _).symm.trans H; with_reducible exact H2_) | with_reducible exact H | (rw [hy170]; exact H) | exact H
                                have Ny170 := Aside0.mk hy170
                                clear hy170
                                obtain rfl := Option.some.inj H
                                try go_wp2
                                have n0_ := Aside0.mk (below_drew1 HB.out)
                                clear HB
                                have HB := n0_
                                clear n0_
                                have p155 : 0 ≤ (a2 : Int) := of_decide_eq_true (by first | (with_reducible assumption) | assumption)
                                have q155 : a2 < (l0.length : Int) := of_decide_eq_true (by first | (with_reducible assumption) | assumption)
                                obtain ⟨ad155, e155, hx155_0⟩ := Kd.at_string HR0.out a2 p155 q155
                                have hw155_0 := hx155_0
                                cases e155
                                replace hx155_0 := (HB.out.cell (World.block_lt_of_cell? w _ hx155_0)).trans hx155_0
                                replace p155 := eq_true p155
                                replace q155 := eq_true q155
                                have p156 : 0 ≤ ((ji7) : Int) := of_decide_eq_true (by first | (with_reducible assumption) | assumption)
                                have q156 : (ji7) < (l1.length : Int) := of_decide_eq_true (by first | (with_reducible assumption) | assumption)
                                obtain ⟨ad156, e156, hx156_0⟩ := Kd.at_int HR1.out (ji7) p156 q156
                                have hw156_0 := hx156_0
                                cases e156
                                replace hx156_0 := (HB.out.cell (World.block_lt_of_cell? w _ hx156_0)).trans hx156_0
                                replace p156 := eq_true p156
                                replace q156 := eq_true q156
                                have p157 : 0 ≤ ((rd l1 (ji7)) : Int) := of_decide_eq_true (by first | (with_reducible assumption) | assumption)
                                have q157 : (rd l1 (ji7)) < (l0.length : Int) := of_decide_eq_true (by first | (with_reducible assumption) | assumption)
                                obtain ⟨ad157, e157, hx157_0⟩ := Kd.at_string HR0.out (rd l1 (ji7)) p157 q157
                                have hw157_0 := hx157_0
                                obtain rfl : ad155 = ad157 := (by injection e157)
                                replace hx157_0 := (HB.out.cell (World.block_lt_of_cell? w _ hx157_0)).trans hx157_0
                                replace p157 := eq_true p157
                                replace q157 := eq_true q157
                                refine start_ (n := 17) (S := fun w' => w'.cell? (ad155.add (a2).toNat) = some (.string (rdOf ByteArray.empty l0 a2)) ∧ w'.cell? (ad156.add ((ji7)).toNat) = some (.int .i64 (rd l1 (ji7))) ∧ w'.cell? (ad155.add ((rd l1 (ji7))).toNat) = some (.string (rdOf ByteArray.empty l0 (rd l1 (ji7))))) (ds := []) #[false, false, false, false, false, false, false, false, false, false, false, false, false, false, false, false, false] (by kernel_rfl) rfl rfl ⟨((HB.out.cell (World.block_lt_of_cell? w _ hw155_0)).trans hw155_0), ((HB.out.cell (World.block_lt_of_cell? w _ hw156_0)).trans hw156_0), ((HB.out.cell (World.block_lt_of_cell? w _ hw157_0)).trans hw157_0)⟩ (fun hHeld => ?_); refine with_tabW orthoepylaw21_put.tab2 orthoepylaw21_put.bits2 (fun HT_ HW_ => ?_)
                                generalize wr.drew = w23 at HB hx155_0 hx156_0 hx157_0 hHeld ⊢
                                refine pure_ (i := 0) (N := some 11) (v := ?_) (a' := ?_) #[true, false, false, false, false, false, false, false, false, false, false, false, false, false, false, false, false] rfl rfl (any_of HT_.out (by kernel_rfl)) (fun _ _ _ h => h) (Or.inl ⟨by rfl, ?_⟩) ?_ ?_
                                rotate_left
                                · intro w'
                                  go_simp
                                  with_reducible rfl
                                rotate_left
                                · simp only [Act.put, List.setIfInBounds_toArray, List.set_cons_zero, List.set_cons_succ, i64_w, i32_w]
                                  rfl
                                refine pure_ (i := 1) (N := some 12) (v := ?_) (a' := ?_) #[true, true, false, false, false, false, false, false, false, false, false, false, false, false, false, false, false] rfl rfl (any_of HT_.out (by kernel_rfl)) (fun _ _ _ h => h) (Or.inl ⟨by rfl, ?_⟩) ?_ ?_
                                rotate_left
                                · intro w'
                                  go_simp
                                  with_reducible rfl
                                rotate_left
                                · simp only [Act.put, List.setIfInBounds_toArray, List.set_cons_zero, List.set_cons_succ, i64_w, i32_w]
                                  rfl
                                refine pure_ (i := 2) (N := some 13) (v := ?_) (a' := ?_) #[true, true, true, false, false, false, false, false, false, false, false, false, false, false, false, false, false] rfl rfl (any_of HT_.out (by kernel_rfl)) (fun _ _ _ h => h) (Or.inl ⟨by rfl, ?_⟩) ?_ ?_
                                rotate_left
                                · intro w'
                                  go_simp
                                  with_reducible rfl
                                rotate_left
                                · simp only [Act.put, List.setIfInBounds_toArray, List.set_cons_zero, List.set_cons_succ, i64_w, i32_w]
                                  rfl
                                refine pure_ (i := 3) (N := some 14) (v := ?_) (a' := ?_) #[true, true, true, true, false, false, false, false, false, false, false, false, false, false, false, false, false] rfl rfl (any_of HT_.out (by kernel_rfl)) (fun _ _ _ h => h) (Or.inl ⟨by rfl, ?_⟩) ?_ ?_
                                rotate_left
                                · intro w'
                                  go_simp
                                  with_reducible rfl
                                rotate_left
                                · simp only [Act.put, List.setIfInBounds_toArray, List.set_cons_zero, List.set_cons_succ, i64_w, i32_w]
                                  rfl
                                refine pure_ (i := 4) (N := some 15) (v := ?_) (a' := ?_) #[true, true, true, true, true, false, false, false, false, false, false, false, false, false, false, false, false] rfl rfl (any_of HT_.out (by kernel_rfl)) (fun _ _ _ h => h) (Or.inl ⟨by rfl, ?_⟩) ?_ ?_
                                rotate_left
                                · intro w'
                                  go_simp
                                  with_reducible rfl
                                rotate_left
                                · simp only [Act.put, List.setIfInBounds_toArray, List.set_cons_zero, List.set_cons_succ, i64_w, i32_w]
                                  rfl
                                refine pure_ (i := 5) (N := some 16) (v := ?_) (a' := ?_) #[true, true, true, true, true, true, false, false, false, false, false, false, false, false, false, false, false] rfl rfl (any_of HT_.out (by kernel_rfl)) (fun _ _ _ h => h) (Or.inl ⟨by rfl, ?_⟩) ?_ ?_
                                rotate_left
                                · intro w'
                                  go_simp
                                  with_reducible rfl
                                rotate_left
                                · simp only [Act.put, List.setIfInBounds_toArray, List.set_cons_zero, List.set_cons_succ, i64_w, i32_w]
                                  rfl
                                refine pure_ (i := 7) (N := some 18) (v := ?_) (a' := ?_) #[true, true, true, true, true, true, false, true, false, false, false, false, false, false, false, false, false] rfl rfl (any_of HT_.out (by kernel_rfl)) (fun _ _ _ h => h) (Or.inl ⟨by rfl, ?_⟩) ?_ ?_
                                rotate_left
                                · intro w'
                                  go_simp
                                  with_reducible rfl
                                rotate_left
                                · simp only [Act.put, List.setIfInBounds_toArray, List.set_cons_zero, List.set_cons_succ, i64_w, i32_w]
                                  rfl
                                refine pure_ (i := 8) (N := some 19) (v := ?_) (a' := ?_) #[true, true, true, true, true, true, false, true, true, false, false, false, false, false, false, false, false] rfl rfl (any_of HT_.out (by kernel_rfl)) (fun _ _ _ h => h) (Or.inl ⟨by rfl, ?_⟩) ?_ ?_
                                rotate_left
                                · intro w'
                                  go_simp
                                  with_reducible rfl
                                rotate_left
                                · simp only [Act.put, List.setIfInBounds_toArray, List.set_cons_zero, List.set_cons_succ, i64_w, i32_w]
                                  rfl
                                refine pure_ (i := 9) (N := some 20) (v := ?_) (a' := ?_) #[true, true, true, true, true, true, false, true, true, true, false, false, false, false, false, false, false] rfl rfl (any_of HT_.out (by kernel_rfl)) (fun _ _ _ h => h) (Or.inl ⟨by rfl, ?_⟩) ?_ ?_
                                rotate_left
                                · intro w'
                                  go_simp
                                  with_reducible rfl
                                rotate_left
                                · simp only [Act.put, List.setIfInBounds_toArray, List.set_cons_zero, List.set_cons_succ, i64_w, i32_w]
                                  rfl
                                refine pure_ (i := 10) (N := some 21) (v := ?_) (a' := ?_) #[true, true, true, true, true, true, false, true, true, true, true, false, false, false, false, false, false] rfl rfl (any_of HT_.out (by kernel_rfl)) (fun _ _ _ h => h) (Or.inl ⟨by rfl, ?_⟩) ?_ ?_
                                rotate_left
                                · intro w'
                                  go_simp
                                  with_reducible rfl
                                rotate_left
                                · simp only [Act.put, List.setIfInBounds_toArray, List.set_cons_zero, List.set_cons_succ, i64_w, i32_w]
                                  rfl
                                refine pure_ (i := 11) (N := some 22) (v := ?_) (a' := ?_) #[true, true, true, true, true, true, false, true, true, true, true, true, false, false, false, false, false] rfl rfl (any_of HT_.out (by kernel_rfl)) (fun _ _ _ h => h) (Or.inl ⟨by rfl, ?_⟩) ?_ ?_
                                rotate_left
                                · intro w'
                                  go_simp
                                  with_reducible rfl
                                rotate_left
                                · simp only [Act.put, List.setIfInBounds_toArray, List.set_cons_zero, List.set_cons_succ, i64_w, i32_w]
                                  rfl
                                refine take_ (i := 6) (N := some 17) (v := ?_) (a' := ?_) #[true, true, true, true, true, true, true, true, true, true, true, true, false, false, false, false, false] rfl rfl (take_ofW HT_.out HW_.out (by kernel_rfl)) (fun _ _ _ h => h) (Or.inl ⟨by rfl, ?_⟩) hHeld ?_ ?_
                                rotate_left
                                · rintro w' ⟨s0, s1, s2⟩
                                  go_simp
                                  with_reducible rfl
                                rotate_left
                                · simp only [Act.put, List.setIfInBounds_toArray, List.set_cons_zero, List.set_cons_succ, i64_w, i32_w]
                                  rfl
                                refine take_ (i := 12) (N := some 23) (v := ?_) (a' := ?_) #[true, true, true, true, true, true, true, true, true, true, true, true, true, false, false, false, false] rfl rfl (take_ofW HT_.out HW_.out (by kernel_rfl)) (fun _ _ _ h => h) (Or.inl ⟨by rfl, ?_⟩) hHeld ?_ ?_
                                rotate_left
                                · rintro w' ⟨s0, s1, s2⟩
                                  go_simp
                                  with_reducible rfl
                                rotate_left
                                · simp only [Act.put, List.setIfInBounds_toArray, List.set_cons_zero, List.set_cons_succ, i64_w, i32_w]
                                  rfl
                                refine pure_ (i := 13) (N := some 24) (v := ?_) (a' := ?_) #[true, true, true, true, true, true, true, true, true, true, true, true, true, true, false, false, false] rfl rfl (any_of HT_.out (by kernel_rfl)) (fun _ _ _ h => h) (Or.inl ⟨by rfl, ?_⟩) ?_ ?_
                                rotate_left
                                · intro w'
                                  go_simp
                                  with_reducible rfl
                                rotate_left
                                · simp only [Act.put, List.setIfInBounds_toArray, List.set_cons_zero, List.set_cons_succ, i64_w, i32_w]
                                  rfl
                                refine take_ (i := 14) (N := some 25) (v := ?_) (a' := ?_) #[true, true, true, true, true, true, true, true, true, true, true, true, true, true, true, false, false] rfl rfl (take_ofW HT_.out HW_.out (by kernel_rfl)) (fun _ _ _ h => h) (Or.inl ⟨by rfl, ?_⟩) hHeld ?_ ?_
                                rotate_left
                                · rintro w' ⟨s0, s1, s2⟩
                                  go_simp
                                  with_reducible rfl
                                rotate_left
                                · simp only [Act.put, List.setIfInBounds_toArray, List.set_cons_zero, List.set_cons_succ, i64_w, i32_w]
                                  rfl
                                refine one_ (i := 15) (N := some 26) #[true, true, true, true, true, true, true, true, true, true, true, true, true, true, true, true, false] rfl rfl (one_of HT_.out (by kernel_rfl)) (by decide) (fun K hK => ?_)
                                refine goes_ Try.func13 (by kernel_rfl) rfl #[.string (rdOf ByteArray.empty l0 a2), .string (rdOf ByteArray.empty l0 (rd l1 (ji7)))] (by rfl) rfl rfl (by (try simp only [List.map_toArray, List.map_cons, List.map_nil]); first | done | (simp only [hji7]; rfl) | rfl | (simp only [List.length_drop, List.length_take]; rfl)) ?_
                                with_reducible refine (orthoepyref21_Less.calls (rdOf ByteArray.empty l0 a2) (rdOf ByteArray.empty l0 (rd l1 (ji7))) false _ A12.out).mono ?_
                                rintro e w24 ⟨rfl, hb⟩
                                refine ⟨_, rfl, ?_⟩
                                have n0_ := Aside0.mk (below_step (by repeat (first | (with_reducible first | exact HB.out | apply below_alloc | apply pw_below_drewN | apply below_drew1) | exact HB.out)) hb)
                                clear HB
                                have HB := n0_
                                clear n0_
                                (try clear hb)
                                (try clear hb2)
                                (try clear hk)
                                (try clear hi)
                                refine hK.out _ _ ⟨((HB.out.cell (World.block_lt_of_cell? w _ hw155_0)).trans hw155_0), ((HB.out.cell (World.block_lt_of_cell? w _ hw156_0)).trans hw156_0), ((HB.out.cell (World.block_lt_of_cell? w _ hw157_0)).trans hw157_0)⟩ (fun hHeld => ?_)
                                clear hK K
                                refine norm_ (a' := ?_) ?_ ?_
                                rotate_left
                                · show Act.put _ (some 26) _ = _
                                  simp only [Act.put, List.setIfInBounds_toArray, List.set_cons_zero, List.set_cons_succ, i64_w, i32_w]
                                  rfl
                                refine pure_ (i := 16) (N := some 27) (v := ?_) (a' := ?_) #[true, true, true, true, true, true, true, true, true, true, true, true, true, true, true, true, true] rfl rfl (any_of HT_.out (by kernel_rfl)) (fun _ _ _ h => h) (Or.inl ⟨by rfl, ?_⟩) ?_ ?_
                                rotate_left
                                · intro w'
                                  go_simp
                                  with_reducible rfl
                                rotate_left
                                · simp only [Act.put, List.setIfInBounds_toArray, List.set_cons_zero, List.set_cons_succ, i64_w, i32_w]
                                  rfl
                                refine done_ (done_of HT_.out (by kernel_rfl)) ?_
                                try go_wp2
                                have n0_ := Aside0.mk (below_drew1 HB.out)
                                clear HB
                                have HB := n0_
                                clear n0_
                                obtain ⟨i026, hi026, _, hsz26, _⟩ := info_parts info3
                                obtain ⟨hcut26, hA26, hC26⟩ := print_take_of (P := Try.prog) (Value.int .i64) 0 27 3 .i64 Try.underlying27 hi026 hsz26 (some ad156) c1 l1 x7_1 (of_decide_eq_true (by first | (with_reducible assumption) | assumption)) (of_decide_eq_true (by first | (with_reducible assumption) | assumption)) HC1.out
                                have HR159 := Aside0.mk (Kd.C_of_reads (h1 := fun _ => rfl) (hA26 _ (Kd.reads_of_C HR1.out)))
                                have HC159 := Aside0.mk hC26
                                clear hA26 hC26 hi026 hsz26
                                obtain ⟨i027, hi027, _, hsz27, _⟩ := info_parts info3
                                obtain ⟨A27, hcut27, hA27, hC27⟩ := print_drop_of (P := Try.prog) (Value.int .i64) 0 27 3 .i64 Try.underlying27 hi027 hsz27 (some ad156) c1 l1 x7_1 (of_decide_eq_true (by first | (with_reducible assumption) | assumption)) (of_decide_eq_true (by first | (with_reducible assumption) | assumption)) HC1.out
                                have HR169 := Aside0.mk (Kd.C_of_reads (h1 := fun _ => rfl) (hA27 _ (Kd.reads_of_C HR1.out)))
                                have HC169 := Aside0.mk hC27
                                clear hA27 hC27 hi027 hsz27
                                refine start_ (n := 13) (S := fun w' => True) (ds := []) #[false, false, false, false, false, false, false, false, false, false, false, false, false] (by kernel_rfl) rfl rfl trivial (fun hHeld => ?_); refine with_tabW orthoepylaw21_put.tab5 orthoepylaw21_put.bits5 (fun HT_ HW_ => ?_)
                                generalize w24.drew = w25 at HB HR159 HR169 hHeld ⊢
                                refine pure_ (i := 0) (N := some 30) (v := ?_) (a' := ?_) #[true, false, false, false, false, false, false, false, false, false, false, false, false] rfl rfl (any_of HT_.out (by kernel_rfl)) (fun _ _ _ h => h) (Or.inl ⟨by rfl, ?_⟩) ?_ ?_
                                rotate_left
                                · intro w'
                                  go_simp
                                  with_reducible rfl
                                rotate_left
                                · simp only [Act.put, List.setIfInBounds_toArray, List.set_cons_zero, List.set_cons_succ, i64_w, i32_w]
                                  rfl
                                refine pure_ (i := 1) (N := some 31) (v := ?_) (a' := ?_) #[true, true, false, false, false, false, false, false, false, false, false, false, false] rfl rfl (any_of HT_.out (by kernel_rfl)) (fun _ _ _ h => h) (Or.inl ⟨by rfl, ?_⟩) ?_ ?_
                                rotate_left
                                · intro w'
                                  go_simp
                                  with_reducible rfl
                                rotate_left
                                · simp only [Act.put, List.setIfInBounds_toArray, List.set_cons_zero, List.set_cons_succ, i64_w, i32_w]
                                  rfl
                                refine pure_ (i := 2) (N := some 32) (v := ?_) (a' := ?_) #[true, true, true, false, false, false, false, false, false, false, false, false, false] rfl rfl (any_of HT_.out (by kernel_rfl)) (fun _ _ _ h => h) (Or.inl ⟨by rfl, ?_⟩) ?_ ?_
                                rotate_left
                                · intro w'
                                  go_simp
                                  with_reducible rfl
                                rotate_left
                                · simp only [Act.put, List.setIfInBounds_toArray, List.set_cons_zero, List.set_cons_succ, i64_w, i32_w]
                                  rfl
                                refine pure_ (i := 3) (N := some 33) (v := ?_) (a' := ?_) #[true, true, true, true, false, false, false, false, false, false, false, false, false] rfl rfl (any_of HT_.out (by kernel_rfl)) (fun _ _ _ h => h) (Or.inl ⟨by rfl, ?_⟩) ?_ ?_
                                rotate_left
                                · intro w'
                                  go_simp
                                  with_reducible rfl
                                rotate_left
                                · simp only [Act.put, List.setIfInBounds_toArray, List.set_cons_zero, List.set_cons_succ, i64_w, i32_w]
                                  rfl
                                refine pure_ (i := 5) (N := some 35) (v := ?_) (a' := ?_) #[true, true, true, true, false, true, false, false, false, false, false, false, false] rfl rfl (any_of HT_.out (by kernel_rfl)) (fun _ _ _ h => h) (Or.inl ⟨by rfl, ?_⟩) ?_ ?_
                                rotate_left
                                · intro w'
                                  go_simp
                                  with_reducible rfl
                                rotate_left
                                · simp only [Act.put, List.setIfInBounds_toArray, List.set_cons_zero, List.set_cons_succ, i64_w, i32_w]
                                  rfl
                                refine pure_ (i := 8) (N := some 38) (v := ?_) (a' := ?_) #[true, true, true, true, false, true, false, false, true, false, false, false, false] rfl rfl (any_of HT_.out (by kernel_rfl)) (fun _ _ _ h => h) (Or.inl ⟨by rfl, ?_⟩) ?_ ?_
                                rotate_left
                                · intro w'
                                  go_simp
                                  with_reducible rfl
                                rotate_left
                                · simp only [Act.put, List.setIfInBounds_toArray, List.set_cons_zero, List.set_cons_succ, i64_w, i32_w]
                                  rfl
                                refine pure_ (i := 9) (N := some 39) (v := ?_) (a' := ?_) #[true, true, true, true, false, true, false, false, true, true, false, false, false] rfl rfl (any_of HT_.out (by kernel_rfl)) (fun _ _ _ h => h) (Or.inl ⟨by rfl, ?_⟩) ?_ ?_
                                rotate_left
                                · intro w'
                                  go_simp
                                  with_reducible rfl
                                rotate_left
                                · simp only [Act.put, List.setIfInBounds_toArray, List.set_cons_zero, List.set_cons_succ, i64_w, i32_w]
                                  rfl
                                refine pure_ (i := 10) (N := some 40) (v := ?_) (a' := ?_) #[true, true, true, true, false, true, false, false, true, true, true, false, false] rfl rfl (any_of HT_.out (by kernel_rfl)) (fun _ _ _ h => h) (Or.inl ⟨by rfl, ?_⟩) ?_ ?_
                                rotate_left
                                · intro w'
                                  go_simp
                                  with_reducible rfl
                                rotate_left
                                · simp only [Act.put, List.setIfInBounds_toArray, List.set_cons_zero, List.set_cons_succ, i64_w, i32_w]
                                  rfl
                                refine join_ (σ := Value × Value) 3 #[true, true, true, true, true, true, true, false, true, true, true, false, false] (fun s_ => [(34, s_.1), (36, s_.2)]) (fun s_ w' => (Kd.R (Kd.int .i64) 3 w' w.heap.size (fun k_ => some k_ ≠ (s_.2 : Value).ownBlock) s_.1 y160) ∧ (Kd.R (Kd.int .i64) 3 w' w.heap.size (fun k_ => some k_ ≠ (s_.1 : Value).ownBlock) s_.2 y163) ∧ (Below w.heap.size w w')) ?_ ?_
                                rotate_left
                                · intro hCont
                                  refine two_ (i := 4) (j := 6) (Ni := some 34) (Nj := some 36) #[true, true, true, true, true, true, false, false, true, true, true, false, false] #[true, true, true, true, false, true, true, false, true, true, true, false, false] rfl rfl rfl rfl (two_of HT_.out (by kernel_rfl)) (by decide) (by decide) (fun K hK => ?_) (fun K hK => ?_)
                                  · skip
                                    refine Kd.R_append_rows_step (Kd.int .i64) (w0 := w) w.heap.size (by rfl) (.tmp 30) (.tmp 33) 27 3 (.int .i64 0) 8 rfl Try.underlying27 info3 rfl (by decide) (by omega) (.slice none 0 0) ([] : List Int) (l1.take (x7_1 : Int).toNat) _ _ _ (fun _ => True) (fun _ => False) rfl rfl ?aO ?aR (fun _ _ h => h) (fun _ h => h.elim) ?aF ?aB ?aS ?aL ?_
                                    (case aR => refine (show ∀ {E_ : Type} {R_ : E_ → List Value → Prop} {s_ : Nat} {w_ : World} {A_ : Option Addr} {n_ m_ : Nat} {x_ : List E_}, n_ = m_ → ReadsRow R_ s_ w_ A_ n_ x_ → ReadsRow R_ s_ w_ A_ m_ x_ from fun h_ r_ => h_ ▸ r_) (show (l1.take (x7_1 : Int).toNat).length = x7_1.toNat from (by rw [List.length_take]; have h_ : (x7_1 : Int) ≤ (l1.length : Int) := of_decide_eq_true (by first | (with_reducible assumption) | assumption); omega)) ?_; repeat (first | exact (Kd.C_below HR159.out HB.out) | (with_reducible refine Kd.C_alloc ?_ _) | (with_reducible refine Kd.C_drewN ?_ _) | (with_reducible refine Kd.C_drew ?_)))
                                    (case aB => exact (by repeat (first | (with_reducible first | exact HB.out | apply below_alloc | apply pw_below_drewN | apply below_drew1) | exact HB.out)))
                                    (case aF => exact (fun _ _ => trivial))
                                    (case aO => exact ((Kd.R_nil _ _ _ _ (fun _ => True))))
                                    (case aS => exact (below_size (by repeat (first | (with_reducible first | exact HB.out | apply below_alloc | apply pw_below_drewN | apply below_drew1) | exact HB.out))))
                                    (case aL => have := LMc18.out; have hlx_ := (show (l1.take (x7_1 : Int).toNat).length = x7_1.toNat from (by rw [List.length_take]; have h_ : (x7_1 : Int) ≤ (l1.length : Int) := of_decide_eq_true (by first | (with_reducible assumption) | assumption); omega)); omega)
                                    intro v161 w28 ho hb hg hat
                                    rw [← Ny160.out] at ho
                                    have n0_ := Aside0.mk (hb)
                                    have n1_ := Aside0.mk (ho)
                                    clear HB
                                    have HB := n0_
                                    have HO162 := n1_
                                    clear n0_ n1_
                                    clear ho hb hg hat
                                    refine hK.out _ _ trivial (fun hHeld => ?_)
                                    clear hK K
                                    refine norm_ (a' := ?_) ?_ ?_
                                    rotate_left
                                    · show Act.put _ (some 34) _ = _
                                      simp only [Act.put, List.setIfInBounds_toArray, List.set_cons_zero, List.set_cons_succ, i64_w, i32_w]
                                      rfl
                                    refine one_ (i := 6) (N := some 36) #[true, true, true, true, true, true, true, false, true, true, true, false, false] rfl rfl (one_of HT_.out (by kernel_rfl)) (by decide) (fun K hK => ?_)
                                    refine Kd.R_lit_step (Kd.int .i64) _ 3 ?hg (N := 36) ?hd (xs := ([a2] : List Int)) (inner := [.int .i64 a2]) (ok := fun _ => True) (okp := fun _ => True) ?hr ?hp (fun _ hk => hk) trivial (Below.refl _ _) (Nat.le_refl _) (by simp) ?_; (case hd => rfl); (case hg => rfl); (case hr => first | (go_simp; done) | (go_simp; rfl)); (case hp => exact (Reps.one (show Kd.M (Kd.int .i64) _ _ _ a2 [.int .i64 a2] from rfl) (Reps.none _ _)))
                                    intro v164 w29 ho30 hb hg_ hnew_
                                    clear hg_ hnew_
                                    (first | rw [← Ny163.out] at ho30 | (simp only [Int.reduceToNat] at ho30; rw [← Ny163.out] at ho30))
                                    have n0_ := Aside0.mk (Kd.R_elder' (by (with_reducible repeat (first | apply Kd.R_alloc | apply Kd.R_drewN | apply Kd.R_drew)); exact HO162.out) (Kd.R_base ho30) hb)
                                    have n1_ := Aside0.mk (Kd.R_lower (Kd.R_new' ho30 (Kd.R_lt (by (with_reducible repeat (first | apply Kd.R_alloc | apply Kd.R_drewN | apply Kd.R_drew)); exact HO162.out))) (below_size (by repeat (first | (with_reducible first | exact HB.out | apply below_alloc | apply pw_below_drewN | apply below_drew1) | exact HB.out))))
                                    have n2_ := Aside0.mk (below_step (by repeat (first | (with_reducible first | exact HB.out | apply below_alloc | apply pw_below_drewN | apply below_drew1) | exact HB.out)) hb)
                                    clear HO162
                                    clear HB
                                    have HO162 := n0_
                                    have HO165 := n1_
                                    have HB := n2_
                                    clear n0_ n1_ n2_
                                    clear hb ho30
                                    refine hK.out _ _ trivial (fun hHeld => ?_)
                                    clear hK K
                                    refine norm_ (a' := ?_) ?_ ?_
                                    rotate_left
                                    · show Act.put _ (some 36) _ = _
                                      simp only [Act.put, List.setIfInBounds_toArray, List.set_cons_zero, List.set_cons_succ, i64_w, i32_w]
                                      rfl
                                    exact norm_ (by simp only [putAll, Act.put, List.setIfInBounds_toArray, List.set_cons_zero, List.set_cons_succ]) (hCont (v161, v164) _ ⟨(by (with_reducible repeat (first | apply Kd.R_alloc | apply Kd.R_drewN | apply Kd.R_drew)); exact Kd.R_mono HO162.out (fun _ hk => hk.2)), (by (with_reducible repeat (first | apply Kd.R_alloc | apply Kd.R_drewN | apply Kd.R_drew)); exact Kd.R_mono HO165.out (fun _ hk => hk.2)), (by repeat (first | (with_reducible first | exact HB.out | apply below_alloc | apply pw_below_drewN | apply below_drew1) | exact HB.out))⟩)
                                  · skip
                                    refine Kd.R_lit_step (Kd.int .i64) _ 3 ?hg (N := 36) ?hd (xs := ([a2] : List Int)) (inner := [.int .i64 a2]) (ok := fun _ => True) (okp := fun _ => True) ?hr ?hp (fun _ hk => hk) trivial (Below.refl _ _) (Nat.le_refl _) (by simp) ?_; (case hd => rfl); (case hg => rfl); (case hr => first | (go_simp; done) | (go_simp; rfl)); (case hp => exact (Reps.one (show Kd.M (Kd.int .i64) _ _ _ a2 [.int .i64 a2] from rfl) (Reps.none _ _)))
                                    intro v164 w28 ho29 hb hg_ hnew_
                                    clear hg_ hnew_
                                    (first | rw [← Ny163.out] at ho29 | (simp only [Int.reduceToNat] at ho29; rw [← Ny163.out] at ho29))
                                    have n0_ := Aside0.mk (Kd.R_lower ho29 (below_size (by repeat (first | (with_reducible first | exact HB.out | apply below_alloc | apply pw_below_drewN | apply below_drew1) | exact HB.out))))
                                    have n1_ := Aside0.mk (below_step (by repeat (first | (with_reducible first | exact HB.out | apply below_alloc | apply pw_below_drewN | apply below_drew1) | exact HB.out)) hb)
                                    clear HB
                                    have HO165 := n0_
                                    have HB := n1_
                                    clear n0_ n1_
                                    clear hb ho29
                                    refine hK.out _ _ trivial (fun hHeld => ?_)
                                    clear hK K
                                    refine norm_ (a' := ?_) ?_ ?_
                                    rotate_left
                                    · show Act.put _ (some 36) _ = _
                                      simp only [Act.put, List.setIfInBounds_toArray, List.set_cons_zero, List.set_cons_succ, i64_w, i32_w]
                                      rfl
                                    refine one_ (i := 4) (N := some 34) #[true, true, true, true, true, true, true, false, true, true, true, false, false] rfl rfl (one_of HT_.out (by kernel_rfl)) (by decide) (fun K hK => ?_)
                                    refine Kd.R_append_rows_step (Kd.int .i64) (w0 := w) w.heap.size (by rfl) (.tmp 30) (.tmp 33) 27 3 (.int .i64 0) 8 rfl Try.underlying27 info3 rfl (by decide) (by omega) (.slice none 0 0) ([] : List Int) (l1.take (x7_1 : Int).toNat) _ _ _ (fun k_ => some k_ ≠ (v164 : Value).ownBlock) (fun _ => False) rfl rfl ?aO ?aR (fun _ _ h => h) (fun _ h => h.elim) ?aF ?aB ?aS ?aL ?_
                                    (case aR => refine (show ∀ {E_ : Type} {R_ : E_ → List Value → Prop} {s_ : Nat} {w_ : World} {A_ : Option Addr} {n_ m_ : Nat} {x_ : List E_}, n_ = m_ → ReadsRow R_ s_ w_ A_ n_ x_ → ReadsRow R_ s_ w_ A_ m_ x_ from fun h_ r_ => h_ ▸ r_) (show (l1.take (x7_1 : Int).toNat).length = x7_1.toNat from (by rw [List.length_take]; have h_ : (x7_1 : Int) ≤ (l1.length : Int) := of_decide_eq_true (by first | (with_reducible assumption) | assumption); omega)) ?_; repeat (first | exact (Kd.C_below HR159.out HB.out) | (with_reducible refine Kd.C_alloc ?_ _) | (with_reducible refine Kd.C_drewN ?_ _) | (with_reducible refine Kd.C_drew ?_)))
                                    (case aB => exact (by repeat (first | (with_reducible first | exact HB.out | apply below_alloc | apply pw_below_drewN | apply below_drew1) | exact HB.out)))
                                    (case aF => exact (fun k_ hk => Kd.fresh' (Kd.R_lt (by (with_reducible repeat (first | apply Kd.R_alloc | apply Kd.R_drewN | apply Kd.R_drew)); exact HO165.out)) k_ hk))
                                    (case aO => exact ((Kd.R_nil _ _ _ _ (fun k_ => some k_ ≠ (v164 : Value).ownBlock))))
                                    (case aS => exact (below_size (by repeat (first | (with_reducible first | exact HB.out | apply below_alloc | apply pw_below_drewN | apply below_drew1) | exact HB.out))))
                                    (case aL => have := LMc18.out; have hlx_ := (show (l1.take (x7_1 : Int).toNat).length = x7_1.toNat from (by rw [List.length_take]; have h_ : (x7_1 : Int) ≤ (l1.length : Int) := of_decide_eq_true (by first | (with_reducible assumption) | assumption); omega)); omega)
                                    intro v161 w30 ho hb hg hat
                                    rw [← Ny160.out] at ho
                                    have n0_ := Aside0.mk (Kd.R_after (Kd.R_apart_nil (by (with_reducible repeat (first | apply Kd.R_alloc | apply Kd.R_drewN | apply Kd.R_drew)); exact HO165.out)) hg hat)
                                    have n1_ := Aside0.mk (hb)
                                    have n2_ := Aside0.mk (ho)
                                    clear HO165
                                    clear HB
                                    have HO165 := n0_
                                    have HB := n1_
                                    have HO162 := n2_
                                    clear n0_ n1_ n2_
                                    clear ho hb hg hat
                                    refine hK.out _ _ trivial (fun hHeld => ?_)
                                    clear hK K
                                    refine norm_ (a' := ?_) ?_ ?_
                                    rotate_left
                                    · show Act.put _ (some 34) _ = _
                                      simp only [Act.put, List.setIfInBounds_toArray, List.set_cons_zero, List.set_cons_succ, i64_w, i32_w]
                                      rfl
                                    exact norm_ (by simp only [putAll, Act.put, List.setIfInBounds_toArray, List.set_cons_zero, List.set_cons_succ]) (hCont (v161, v164) _ ⟨(by (with_reducible repeat (first | apply Kd.R_alloc | apply Kd.R_drewN | apply Kd.R_drew)); exact HO162.out), (by (with_reducible repeat (first | apply Kd.R_alloc | apply Kd.R_drewN | apply Kd.R_drew)); exact Kd.R_mono HO165.out (fun _ hk => hk.2)), (by repeat (first | (with_reducible first | exact HB.out | apply below_alloc | apply pw_below_drewN | apply below_drew1) | exact HB.out))⟩)
                                rintro ⟨v161, v164⟩ w31 ⟨h0_, h1_, h2_⟩
                                have n0_ : Aside0 (Kd.R (Kd.int .i64) 3 w31 w.heap.size (fun k_ => some k_ ≠ (v164 : Value).ownBlock) v161 y160) := ⟨h0_⟩
                                have n1_ : Aside0 (Kd.R (Kd.int .i64) 3 w31 w.heap.size (fun k_ => some k_ ≠ (v161 : Value).ownBlock) v164 y163) := ⟨h1_⟩
                                have n2_ : Aside0 (Below w.heap.size w w31) := ⟨h2_⟩
                                clear HB
                                clear h0_ h1_ h2_
                                have HO162 := n0_
                                have HO165 := n1_
                                have HB := n2_
                                clear n0_ n1_ n2_
                                have hHeld := trivial
                                obtain ⟨Ao33, co33, eo33⟩ := Kd.R_slice HO165.out
                                (first | subst eo33 | (injection eo33 with f1_ f2_ f3_; have f4_ := f1_.symm; have f5_ := f3_.symm; clear f1_ f2_ f3_; subst f4_; subst f5_))
                                refine norm_ (a' := ?_) ?_ ?_
                                rotate_left
                                · simp only [putAll, Act.put, List.setIfInBounds_toArray, List.set_cons_zero, List.set_cons_succ]
                                  rfl
                                refine one_ (i := 7) (N := some 37) #[true, true, true, true, true, true, true, true, true, true, true, false, false] rfl rfl (one_of HT_.out (by kernel_rfl)) (by decide) (fun K hK => ?_)
                                refine Kd.R_append_rows_step (Kd.int .i64) (w0 := w) w.heap.size (by rfl) (.tmp 34) (.tmp 36) 27 3 (.int .i64 0) 8 rfl Try.underlying27 info3 rfl (by decide) (by omega) v161 y160 y163 _ _ _ (fun k_ => some k_ ≠ (.slice Ao33 y163.length co33 : Value).ownBlock) (fun _ => False) rfl rfl ?aO ?aR (fun _ _ h => h) (fun _ h => h.elim) ?aF ?aB ?aS ?aL ?_
                                (case aR => repeat (first | exact (Kd.R_reads' HO165.out).2.2 | (with_reducible refine Kd.C_alloc ?_ _) | (with_reducible refine Kd.C_drewN ?_ _) | (with_reducible refine Kd.C_drew ?_)))
                                (case aB => exact (by repeat (first | (with_reducible first | exact HB.out | apply below_alloc | apply pw_below_drewN | apply below_drew1) | exact HB.out)))
                                (case aF => exact (fun k_ hk => Kd.fresh' (Kd.R_lt (by (with_reducible repeat (first | apply Kd.R_alloc | apply Kd.R_drewN | apply Kd.R_drew)); exact HO165.out)) k_ hk))
                                (case aO => exact (by (with_reducible repeat (first | apply Kd.R_alloc | apply Kd.R_drewN | apply Kd.R_drew)); exact HO162.out))
                                (case aS => exact (below_size (by repeat (first | (with_reducible first | exact HB.out | apply below_alloc | apply pw_below_drewN | apply below_drew1) | exact HB.out))))
                                (case aL => have := LMc19.out; omega)
                                intro v167 w32 ho hb hg hat
                                rw [← Ny166.out] at ho
                                have n0_ := Aside0.mk (Kd.R_after (ok := (fun _ => True)) (by (with_reducible repeat (first | apply Kd.R_alloc | apply Kd.R_drewN | apply Kd.R_drew)); exact Kd.R_mono HO165.out (fun _ hk => ⟨trivial, hk⟩)) hg hat)
                                have n1_ := Aside0.mk (hb)
                                have n2_ := Aside0.mk (ho)
                                clear HO165
                                clear HB
                                clear HO162
                                have HO165 := n0_
                                have HB := n1_
                                have HO168 := n2_
                                clear n0_ n1_ n2_
                                clear ho hb hg hat
                                refine hK.out _ _ trivial (fun hHeld => ?_)
                                clear hK K
                                refine norm_ (a' := ?_) ?_ ?_
                                rotate_left
                                · show Act.put _ (some 37) _ = _
                                  simp only [Act.put, List.setIfInBounds_toArray, List.set_cons_zero, List.set_cons_succ, i64_w, i32_w]
                                  rfl
                                refine one_ (i := 11) (N := some 41) #[true, true, true, true, true, true, true, true, true, true, true, true, false] rfl rfl (one_of HT_.out (by kernel_rfl)) (by decide) (fun K hK => ?_)
                                refine Kd.R_append_rows_step (Kd.int .i64) (w0 := w) w.heap.size (by rfl) (.tmp 37) (.tmp 40) 27 3 (.int .i64 0) 8 rfl Try.underlying27 info3 rfl (by decide) (by omega) v167 y166 (l1.drop (x7_1 : Int).toNat) _ _ _ (fun k_ => some k_ ≠ (.slice Ao33 y163.length co33 : Value).ownBlock) (fun _ => False) rfl rfl ?aO ?aR (fun _ _ h => h) (fun _ h => h.elim) ?aF ?aB ?aS ?aL ?_
                                (case aR => refine (show ∀ {E_ : Type} {R_ : E_ → List Value → Prop} {s_ : Nat} {w_ : World} {A_ : Option Addr} {n_ m_ : Nat} {x_ : List E_}, n_ = m_ → ReadsRow R_ s_ w_ A_ n_ x_ → ReadsRow R_ s_ w_ A_ m_ x_ from fun h_ r_ => h_ ▸ r_) (show (l1.drop (x7_1 : Int).toNat).length = (l1.length - x7_1.toNat) from List.length_drop) ?_; repeat (first | exact (Kd.C_below HR169.out HB.out) | (with_reducible refine Kd.C_alloc ?_ _) | (with_reducible refine Kd.C_drewN ?_ _) | (with_reducible refine Kd.C_drew ?_)))
                                (case aB => exact (by repeat (first | (with_reducible first | exact HB.out | apply below_alloc | apply pw_below_drewN | apply below_drew1) | exact HB.out)))
                                (case aF => exact (fun k_ hk => Kd.fresh' (Kd.R_lt (by (with_reducible repeat (first | apply Kd.R_alloc | apply Kd.R_drewN | apply Kd.R_drew)); exact HO165.out)) k_ hk))
                                (case aO => exact (by (with_reducible repeat (first | apply Kd.R_alloc | apply Kd.R_drewN | apply Kd.R_drew)); exact HO168.out))
                                (case aS => exact (below_size (by repeat (first | (with_reducible first | exact HB.out | apply below_alloc | apply pw_below_drewN | apply below_drew1) | exact HB.out))))
                                (case aL => have := LMc22.out; have hlx_ := (show (l1.drop (x7_1 : Int).toNat).length = (l1.length - x7_1.toNat) from List.length_drop); omega)
                                intro v171 w34 ho hb hg hat
                                rw [← Ny170.out] at ho
                                have n0_ := Aside0.mk (Kd.R_after (ok := (fun _ => True)) (by (with_reducible repeat (first | apply Kd.R_alloc | apply Kd.R_drewN | apply Kd.R_drew)); exact HO165.out) hg hat)
                                have n1_ := Aside0.mk (hb)
                                have n2_ := Aside0.mk (ho)
                                clear HO165
                                clear HB
                                clear HO168
                                have HO165 := n0_
                                have HB := n1_
                                have HO172 := n2_
                                clear n0_ n1_ n2_
                                clear ho hb hg hat
                                refine hK.out _ _ trivial (fun hHeld => ?_)
                                clear hK K
                                refine norm_ (a' := ?_) ?_ ?_
                                rotate_left
                                · show Act.put _ (some 41) _ = _
                                  simp only [Act.put, List.setIfInBounds_toArray, List.set_cons_zero, List.set_cons_succ, i64_w, i32_w]
                                  rfl
                                refine pure_ (i := 12) (N := some 6) (v := ?_) (a' := ?_) #[true, true, true, true, true, true, true, true, true, true, true, true, true] rfl rfl (any_of HT_.out (by kernel_rfl)) (fun _ _ _ h => h) (Or.inl ⟨by rfl, ?_⟩) ?_ ?_
                                rotate_left
                                · intro w'
                                  go_simp
                                  with_reducible rfl
                                rotate_left
                                · simp only [Act.put, List.setIfInBounds_toArray, List.set_cons_zero, List.set_cons_succ, i64_w, i32_w]
                                  rfl
                                refine done_ (done_of HT_.out (by kernel_rfl)) ?_
                                try go_wp2
                                go_ret
                                exact ⟨_, by first | rfl | (simp [errW_none, errW_some] <;> rfl) | (simp only [← hji7]; first | rfl | (simp [errW_none, errW_some] <;> rfl)) | (simp [*, errW_none, errW_some] <;> rfl), by (with_reducible repeat (first | apply Kd.R_alloc | apply Kd.R_drewN | apply Kd.R_drew)); exact Kd.R_mono HO172.out (fun _ hk => trivial), by repeat (first | (with_reducible first | exact HB.out | apply below_alloc | apply pw_below_drewN | apply below_drew1) | exact HB.out)⟩
                              · rw [if_neg c22] at H
                                exact absurd H (by simp)
                            · rw [if_neg c19] at H
                              exact absurd H (by simp)
                          · rw [if_neg c18] at H
                            exact absurd H (by simp)
                        · rw [if_neg c17] at H
                          exact absurd H (by simp)
                      · rw [if_neg c16] at H
                        exact absurd H (by simp)
                  · rw [if_neg c11] at H
                    exact absurd H (by simp)
                · rw [if_neg c10] at H
                  exact absurd H (by simp)
              · rw [if_neg c9] at H
                exact absurd H (by simp)
            · rw [if_neg c8] at H
              exact absurd H (by simp)
          · rw [if_neg c6] at H
            exact absurd H (by simp)
        · rw [if_neg c5] at H
          exact absurd H (by simp)
      · rw [if_neg c4] at H
        have c4b0 : decide (0 < x7_1) = false := decide_eq_false c4
        clear c4
        by_cases c35 : 0 ≤ x7_1
        · rw [if_pos c35] at H
          have c35b0 := eq_true c35
          have c35b1 : decide (0 ≤ x7_1) = true := decide_eq_true c35
          clear c35
          by_cases c36 : x7_1 ≤ (l1.length : Int)
          · rw [if_pos c36] at H
            have c36b0 := eq_true c36
            have c36b1 : decide (x7_1 ≤ (l1.length : Int)) = true := decide_eq_true c36
            clear c36
            by_cases c37 : ([] : List Int).length + (l1.take (x7_1 : Int).toNat).length < 17592186044416
            · rw [if_pos c37] at H
              have LMc37 := Aside0.mk c37
              clear c37
              obtain ⟨y174, hy174⟩ : ∃ y_ : List Int, y_ = (([] : List Int) ++ (l1.take (x7_1 : Int).toNat)) := ⟨_, rfl⟩
              replace H : ((some (([a2] : List Int) : List Int)).bind fun y177 => (if y174.length + y177.length < 17592186044416 then ((some (y174 ++ y177 : List Int)).bind fun y180 => (if y180.length + (l1.drop (x7_1 : Int).toNat).length < 17592186044416 then (some (y180 ++ (l1.drop (x7_1 : Int).toNat))) else (none))) else (none))) = some r := by first | (rw [hy174]; with_reducible exact H) | (have H2_ := (Option.bind_some _ _).symm.trans H; rw [hy174]; with_reducible exact H2_) | (have H2_ := (Option.bind_some _ _).symm.trans H; with_reducible exact H2_) | with_reducible exact H | (rw [hy174]; exact H) | exact H
              have Ny174 := Aside0.mk hy174
              clear hy174
              obtain ⟨y177, hy177⟩ : ∃ y_ : List Int, y_ = (([a2] : List Int)) := ⟨_, rfl⟩
              replace H : (if y174.length + y177.length < 17592186044416 then ((some (y174 ++ y177 : List Int)).bind fun y180 => (if y180.length + (l1.drop (x7_1 : Int).toNat).length < 17592186044416 then (some (y180 ++ (l1.drop (x7_1 : Int).toNat))) else (none))) else (none)) = some r := by first | (rw [hy177]; with_reducible exact H) | (have H2_ := (Option.bind_some _ _).symm.trans H; rw [hy177]; with_reducible exact H2_) | (have H2_ := (Option.bind_some _ _).symm.trans H; with_reducible exact H2_) | with_reducible exact H | (rw [hy177]; exact H) | exact H
              have Ny177 := Aside0.mk hy177
              clear hy177
              by_cases c38 : y174.length + y177.length < 17592186044416
              · rw [if_pos c38] at H
                have LMc38 := Aside0.mk c38
                clear c38
                obtain ⟨y180, hy180⟩ : ∃ y_ : List Int, y_ = (y174 ++ y177) := ⟨_, rfl⟩
                replace H : (if y180.length + (l1.drop (x7_1 : Int).toNat).length < 17592186044416 then (some (y180 ++ (l1.drop (x7_1 : Int).toNat))) else (none)) = some r := by first | (rw [hy180]; with_reducible exact H) | (have H2_ := (Option.bind_some _ _).symm.trans H; rw [hy180]; with_reducible exact H2_) | (have H2_ := (Option.bind_some _ _).symm.trans H; with_reducible exact H2_) | with_reducible exact H | (rw [hy180]; exact H) | exact H
                have Ny180 := Aside0.mk hy180
                clear hy180
                have c39b0 := eq_true (of_decide_eq_true (by first | (with_reducible assumption) | assumption) : 0 ≤ x7_1)
                have c40b0 := eq_true (of_decide_eq_true (by first | (with_reducible assumption) | assumption) : x7_1 ≤ (l1.length : Int))
                by_cases c41 : y180.length + (l1.drop (x7_1 : Int).toNat).length < 17592186044416
                · rw [if_pos c41] at H
                  have LMc41 := Aside0.mk c41
                  clear c41
                  obtain ⟨y184, hy184⟩ : ∃ y_ : List Int, y_ = (y180 ++ (l1.drop (x7_1 : Int).toNat)) := ⟨_, rfl⟩
                  replace H : (some y184) = some r := by first | (rw [hy184]; with_reducible exact H) | (have H2_ := (Option.bind_some _ _).symm.trans H; rw [hy184]; with_reducible exact H2_) | (have H2_ := (Option.bind_some _ _).symm.trans H; with_reducible exact H2_) | with_reducible exact H | (rw [hy184]; exact H) | exact H
                  have Ny184 := Aside0.mk hy184
                  clear hy184
                  obtain rfl := Option.some.inj H
                  try go_wp2
                  have n0_ := Aside0.mk (below_drew1 HB.out)
                  clear HB
                  have HB := n0_
                  clear n0_
                  refine start_ (n := 17) (S := fun w' => True) (ds := []) #[false, false, false, false, false, false, false, false, false, false, false, false, false, false, false, false, false] (by kernel_rfl) rfl rfl trivial (fun hHeld => ?_); refine with_tabW orthoepylaw21_put.tab2 orthoepylaw21_put.bits2 (fun HT_ HW_ => ?_)
                  generalize wr.drew = w42 at HB hHeld ⊢
                  refine pure_ (i := 0) (N := some 11) (v := ?_) (a' := ?_) #[true, false, false, false, false, false, false, false, false, false, false, false, false, false, false, false, false] rfl rfl (any_of HT_.out (by kernel_rfl)) (fun _ _ _ h => h) (Or.inl ⟨by rfl, ?_⟩) ?_ ?_
                  rotate_left
                  · intro w'
                    go_simp
                    with_reducible rfl
                  rotate_left
                  · simp only [Act.put, List.setIfInBounds_toArray, List.set_cons_zero, List.set_cons_succ, i64_w, i32_w]
                    rfl
                  refine pure_ (i := 1) (N := some 12) (v := ?_) (a' := ?_) #[true, true, false, false, false, false, false, false, false, false, false, false, false, false, false, false, false] rfl rfl (any_of HT_.out (by kernel_rfl)) (fun _ _ _ h => h) (Or.inl ⟨by rfl, ?_⟩) ?_ ?_
                  rotate_left
                  · intro w'
                    go_simp
                    with_reducible rfl
                  rotate_left
                  · simp only [Act.put, List.setIfInBounds_toArray, List.set_cons_zero, List.set_cons_succ, i64_w, i32_w]
                    rfl
                  refine pure_ (i := 2) (N := some 13) (v := ?_) (a' := ?_) #[true, true, true, false, false, false, false, false, false, false, false, false, false, false, false, false, false] rfl rfl (any_of HT_.out (by kernel_rfl)) (fun _ _ _ h => h) (Or.inl ⟨by rfl, ?_⟩) ?_ ?_
                  rotate_left
                  · intro w'
                    go_simp
                    with_reducible rfl
                  rotate_left
                  · simp only [Act.put, List.setIfInBounds_toArray, List.set_cons_zero, List.set_cons_succ, i64_w, i32_w]
                    rfl
                  refine pure_ (i := 3) (N := some 14) (v := undef) (a' := ?_) #[true, true, true, true, false, false, false, false, false, false, false, false, false, false, false, false, false] rfl rfl (any_of HT_.out (by kernel_rfl)) (fun _ _ _ h => h) (Or.inr ⟨by rfl, rfl⟩) ?_ ?_
                  rotate_left
                  · simp only [Act.put, List.setIfInBounds_toArray, List.set_cons_zero, List.set_cons_succ, i64_w, i32_w]
                    rfl
                  refine pure_ (i := 4) (N := some 15) (v := undef) (a' := ?_) #[true, true, true, true, true, false, false, false, false, false, false, false, false, false, false, false, false] rfl rfl (any_of HT_.out (by kernel_rfl)) (fun _ _ _ h => h) (Or.inr ⟨by rfl, rfl⟩) ?_ ?_
                  rotate_left
                  · simp only [Act.put, List.setIfInBounds_toArray, List.set_cons_zero, List.set_cons_succ, i64_w, i32_w]
                    rfl
                  refine pure_ (i := 5) (N := some 16) (v := undef) (a' := ?_) #[true, true, true, true, true, true, false, false, false, false, false, false, false, false, false, false, false] rfl rfl (any_of HT_.out (by kernel_rfl)) (fun _ _ _ h => h) (Or.inr ⟨by rfl, rfl⟩) ?_ ?_
                  rotate_left
                  · simp only [Act.put, List.setIfInBounds_toArray, List.set_cons_zero, List.set_cons_succ, i64_w, i32_w]
                    rfl
                  refine pure_ (i := 6) (N := some 17) (v := undef) (a' := ?_) #[true, true, true, true, true, true, true, false, false, false, false, false, false, false, false, false, false] rfl rfl (any_of HT_.out (by kernel_rfl)) (fun _ _ _ h => h) (Or.inr ⟨by rfl, rfl⟩) ?_ ?_
                  rotate_left
                  · simp only [Act.put, List.setIfInBounds_toArray, List.set_cons_zero, List.set_cons_succ, i64_w, i32_w]
                    rfl
                  refine pure_ (i := 7) (N := some 18) (v := undef) (a' := ?_) #[true, true, true, true, true, true, true, true, false, false, false, false, false, false, false, false, false] rfl rfl (any_of HT_.out (by kernel_rfl)) (fun _ _ _ h => h) (Or.inr ⟨by rfl, rfl⟩) ?_ ?_
                  rotate_left
                  · simp only [Act.put, List.setIfInBounds_toArray, List.set_cons_zero, List.set_cons_succ, i64_w, i32_w]
                    rfl
                  refine pure_ (i := 8) (N := some 19) (v := undef) (a' := ?_) #[true, true, true, true, true, true, true, true, true, false, false, false, false, false, false, false, false] rfl rfl (any_of HT_.out (by kernel_rfl)) (fun _ _ _ h => h) (Or.inr ⟨by rfl, rfl⟩) ?_ ?_
                  rotate_left
                  · simp only [Act.put, List.setIfInBounds_toArray, List.set_cons_zero, List.set_cons_succ, i64_w, i32_w]
                    rfl
                  refine pure_ (i := 9) (N := some 20) (v := undef) (a' := ?_) #[true, true, true, true, true, true, true, true, true, true, false, false, false, false, false, false, false] rfl rfl (any_of HT_.out (by kernel_rfl)) (fun _ _ _ h => h) (Or.inr ⟨by rfl, rfl⟩) ?_ ?_
                  rotate_left
                  · simp only [Act.put, List.setIfInBounds_toArray, List.set_cons_zero, List.set_cons_succ, i64_w, i32_w]
                    rfl
                  refine pure_ (i := 10) (N := some 21) (v := undef) (a' := ?_) #[true, true, true, true, true, true, true, true, true, true, true, false, false, false, false, false, false] rfl rfl (any_of HT_.out (by kernel_rfl)) (fun _ _ _ h => h) (Or.inr ⟨by rfl, rfl⟩) ?_ ?_
                  rotate_left
                  · simp only [Act.put, List.setIfInBounds_toArray, List.set_cons_zero, List.set_cons_succ, i64_w, i32_w]
                    rfl
                  refine pure_ (i := 11) (N := some 22) (v := undef) (a' := ?_) #[true, true, true, true, true, true, true, true, true, true, true, true, false, false, false, false, false] rfl rfl (any_of HT_.out (by kernel_rfl)) (fun _ _ _ h => h) (Or.inr ⟨by rfl, rfl⟩) ?_ ?_
                  rotate_left
                  · simp only [Act.put, List.setIfInBounds_toArray, List.set_cons_zero, List.set_cons_succ, i64_w, i32_w]
                    rfl
                  refine pure_ (i := 12) (N := some 23) (v := undef) (a' := ?_) #[true, true, true, true, true, true, true, true, true, true, true, true, true, false, false, false, false] rfl rfl (any_of HT_.out (by kernel_rfl)) (fun _ _ _ h => h) (Or.inr ⟨by rfl, rfl⟩) ?_ ?_
                  rotate_left
                  · simp only [Act.put, List.setIfInBounds_toArray, List.set_cons_zero, List.set_cons_succ, i64_w, i32_w]
                    rfl
                  refine pure_ (i := 13) (N := some 24) (v := undef) (a' := ?_) #[true, true, true, true, true, true, true, true, true, true, true, true, true, true, false, false, false] rfl rfl (any_of HT_.out (by kernel_rfl)) (fun _ _ _ h => h) (Or.inr ⟨by rfl, rfl⟩) ?_ ?_
                  rotate_left
                  · simp only [Act.put, List.setIfInBounds_toArray, List.set_cons_zero, List.set_cons_succ, i64_w, i32_w]
                    rfl
                  refine pure_ (i := 14) (N := some 25) (v := undef) (a' := ?_) #[true, true, true, true, true, true, true, true, true, true, true, true, true, true, true, false, false] rfl rfl (any_of HT_.out (by kernel_rfl)) (fun _ _ _ h => h) (Or.inr ⟨by rfl, rfl⟩) ?_ ?_
                  rotate_left
                  · simp only [Act.put, List.setIfInBounds_toArray, List.set_cons_zero, List.set_cons_succ, i64_w, i32_w]
                    rfl
                  refine pure_ (i := 15) (N := some 26) (v := undef) (a' := ?_) #[true, true, true, true, true, true, true, true, true, true, true, true, true, true, true, true, false] rfl rfl (any_of HT_.out (by kernel_rfl)) (fun _ _ _ h => h) (Or.inr ⟨by rfl, rfl⟩) ?_ ?_
                  rotate_left
                  · simp only [Act.put, List.setIfInBounds_toArray, List.set_cons_zero, List.set_cons_succ, i64_w, i32_w]
                    rfl
                  refine pure_ (i := 16) (N := some 27) (v := ?_) (a' := ?_) #[true, true, true, true, true, true, true, true, true, true, true, true, true, true, true, true, true] rfl rfl (any_of HT_.out (by kernel_rfl)) (fun _ _ _ h => h) (Or.inl ⟨by rfl, ?_⟩) ?_ ?_
                  rotate_left
                  · intro w'
                    go_simp
                    with_reducible rfl
                  rotate_left
                  · simp only [Act.put, List.setIfInBounds_toArray, List.set_cons_zero, List.set_cons_succ, i64_w, i32_w]
                    rfl
                  refine done_ (done_of HT_.out (by kernel_rfl)) ?_
                  try go_wp2
                  have n0_ := Aside0.mk (below_drew1 HB.out)
                  clear HB
                  have HB := n0_
                  clear n0_
                  obtain ⟨i044, hi044, _, hsz44, _⟩ := info_parts info3
                  obtain ⟨hcut44, hA44, hC44⟩ := print_take_of (P := Try.prog) (Value.int .i64) 0 27 3 .i64 Try.underlying27 hi044 hsz44 A1 c1 l1 x7_1 (of_decide_eq_true (by first | (with_reducible assumption) | assumption)) (of_decide_eq_true (by first | (with_reducible assumption) | assumption)) HC1.out
                  have HR173 := Aside0.mk (Kd.C_of_reads (h1 := fun _ => rfl) (hA44 _ (Kd.reads_of_C HR1.out)))
                  have HC173 := Aside0.mk hC44
                  clear hA44 hC44 hi044 hsz44
                  obtain ⟨i045, hi045, _, hsz45, _⟩ := info_parts info3
                  obtain ⟨A45, hcut45, hA45, hC45⟩ := print_drop_of (P := Try.prog) (Value.int .i64) 0 27 3 .i64 Try.underlying27 hi045 hsz45 A1 c1 l1 x7_1 (of_decide_eq_true (by first | (with_reducible assumption) | assumption)) (of_decide_eq_true (by first | (with_reducible assumption) | assumption)) HC1.out
                  have HR183 := Aside0.mk (Kd.C_of_reads (h1 := fun _ => rfl) (hA45 _ (Kd.reads_of_C HR1.out)))
                  have HC183 := Aside0.mk hC45
                  clear hA45 hC45 hi045 hsz45
                  refine start_ (n := 13) (S := fun w' => True) (ds := []) #[false, false, false, false, false, false, false, false, false, false, false, false, false] (by kernel_rfl) rfl rfl trivial (fun hHeld => ?_); refine with_tabW orthoepylaw21_put.tab5 orthoepylaw21_put.bits5 (fun HT_ HW_ => ?_)
                  generalize w42.drew = w43 at HB HR173 HR183 hHeld ⊢
                  refine pure_ (i := 0) (N := some 30) (v := ?_) (a' := ?_) #[true, false, false, false, false, false, false, false, false, false, false, false, false] rfl rfl (any_of HT_.out (by kernel_rfl)) (fun _ _ _ h => h) (Or.inl ⟨by rfl, ?_⟩) ?_ ?_
                  rotate_left
                  · intro w'
                    go_simp
                    with_reducible rfl
                  rotate_left
                  · simp only [Act.put, List.setIfInBounds_toArray, List.set_cons_zero, List.set_cons_succ, i64_w, i32_w]
                    rfl
                  refine pure_ (i := 1) (N := some 31) (v := ?_) (a' := ?_) #[true, true, false, false, false, false, false, false, false, false, false, false, false] rfl rfl (any_of HT_.out (by kernel_rfl)) (fun _ _ _ h => h) (Or.inl ⟨by rfl, ?_⟩) ?_ ?_
                  rotate_left
                  · intro w'
                    go_simp
                    with_reducible rfl
                  rotate_left
                  · simp only [Act.put, List.setIfInBounds_toArray, List.set_cons_zero, List.set_cons_succ, i64_w, i32_w]
                    rfl
                  refine pure_ (i := 2) (N := some 32) (v := ?_) (a' := ?_) #[true, true, true, false, false, false, false, false, false, false, false, false, false] rfl rfl (any_of HT_.out (by kernel_rfl)) (fun _ _ _ h => h) (Or.inl ⟨by rfl, ?_⟩) ?_ ?_
                  rotate_left
                  · intro w'
                    go_simp
                    with_reducible rfl
                  rotate_left
                  · simp only [Act.put, List.setIfInBounds_toArray, List.set_cons_zero, List.set_cons_succ, i64_w, i32_w]
                    rfl
                  refine pure_ (i := 3) (N := some 33) (v := ?_) (a' := ?_) #[true, true, true, true, false, false, false, false, false, false, false, false, false] rfl rfl (any_of HT_.out (by kernel_rfl)) (fun _ _ _ h => h) (Or.inl ⟨by rfl, ?_⟩) ?_ ?_
                  rotate_left
                  · intro w'
                    go_simp
                    with_reducible rfl
                  rotate_left
                  · simp only [Act.put, List.setIfInBounds_toArray, List.set_cons_zero, List.set_cons_succ, i64_w, i32_w]
                    rfl
                  refine pure_ (i := 5) (N := some 35) (v := ?_) (a' := ?_) #[true, true, true, true, false, true, false, false, false, false, false, false, false] rfl rfl (any_of HT_.out (by kernel_rfl)) (fun _ _ _ h => h) (Or.inl ⟨by rfl, ?_⟩) ?_ ?_
                  rotate_left
                  · intro w'
                    go_simp
                    with_reducible rfl
                  rotate_left
                  · simp only [Act.put, List.setIfInBounds_toArray, List.set_cons_zero, List.set_cons_succ, i64_w, i32_w]
                    rfl
                  refine pure_ (i := 8) (N := some 38) (v := ?_) (a' := ?_) #[true, true, true, true, false, true, false, false, true, false, false, false, false] rfl rfl (any_of HT_.out (by kernel_rfl)) (fun _ _ _ h => h) (Or.inl ⟨by rfl, ?_⟩) ?_ ?_
                  rotate_left
                  · intro w'
                    go_simp
                    with_reducible rfl
                  rotate_left
                  · simp only [Act.put, List.setIfInBounds_toArray, List.set_cons_zero, List.set_cons_succ, i64_w, i32_w]
                    rfl
                  refine pure_ (i := 9) (N := some 39) (v := ?_) (a' := ?_) #[true, true, true, true, false, true, false, false, true, true, false, false, false] rfl rfl (any_of HT_.out (by kernel_rfl)) (fun _ _ _ h => h) (Or.inl ⟨by rfl, ?_⟩) ?_ ?_
                  rotate_left
                  · intro w'
                    go_simp
                    with_reducible rfl
                  rotate_left
                  · simp only [Act.put, List.setIfInBounds_toArray, List.set_cons_zero, List.set_cons_succ, i64_w, i32_w]
                    rfl
                  refine pure_ (i := 10) (N := some 40) (v := ?_) (a' := ?_) #[true, true, true, true, false, true, false, false, true, true, true, false, false] rfl rfl (any_of HT_.out (by kernel_rfl)) (fun _ _ _ h => h) (Or.inl ⟨by rfl, ?_⟩) ?_ ?_
                  rotate_left
                  · intro w'
                    go_simp
                    with_reducible rfl
                  rotate_left
                  · simp only [Act.put, List.setIfInBounds_toArray, List.set_cons_zero, List.set_cons_succ, i64_w, i32_w]
                    rfl
                  refine join_ (σ := Value × Value) 3 #[true, true, true, true, true, true, true, false, true, true, true, false, false] (fun s_ => [(34, s_.1), (36, s_.2)]) (fun s_ w' => (Kd.R (Kd.int .i64) 3 w' w.heap.size (fun k_ => some k_ ≠ (s_.2 : Value).ownBlock) s_.1 y174) ∧ (Kd.R (Kd.int .i64) 3 w' w.heap.size (fun k_ => some k_ ≠ (s_.1 : Value).ownBlock) s_.2 y177) ∧ (Below w.heap.size w w')) ?_ ?_
                  rotate_left
                  · intro hCont
                    refine two_ (i := 4) (j := 6) (Ni := some 34) (Nj := some 36) #[true, true, true, true, true, true, false, false, true, true, true, false, false] #[true, true, true, true, false, true, true, false, true, true, true, false, false] rfl rfl rfl rfl (two_of HT_.out (by kernel_rfl)) (by decide) (by decide) (fun K hK => ?_) (fun K hK => ?_)
                    · skip
                      refine Kd.R_append_rows_step (Kd.int .i64) (w0 := w) w.heap.size (by rfl) (.tmp 30) (.tmp 33) 27 3 (.int .i64 0) 8 rfl Try.underlying27 info3 rfl (by decide) (by omega) (.slice none 0 0) ([] : List Int) (l1.take (x7_1 : Int).toNat) _ _ _ (fun _ => True) (fun _ => False) rfl rfl ?aO ?aR (fun _ _ h => h) (fun _ h => h.elim) ?aF ?aB ?aS ?aL ?_
                      (case aR => refine (show ∀ {E_ : Type} {R_ : E_ → List Value → Prop} {s_ : Nat} {w_ : World} {A_ : Option Addr} {n_ m_ : Nat} {x_ : List E_}, n_ = m_ → ReadsRow R_ s_ w_ A_ n_ x_ → ReadsRow R_ s_ w_ A_ m_ x_ from fun h_ r_ => h_ ▸ r_) (show (l1.take (x7_1 : Int).toNat).length = x7_1.toNat from (by rw [List.length_take]; have h_ : (x7_1 : Int) ≤ (l1.length : Int) := of_decide_eq_true (by first | (with_reducible assumption) | assumption); omega)) ?_; repeat (first | exact (Kd.C_below HR173.out HB.out) | (with_reducible refine Kd.C_alloc ?_ _) | (with_reducible refine Kd.C_drewN ?_ _) | (with_reducible refine Kd.C_drew ?_)))
                      (case aB => exact (by repeat (first | (with_reducible first | exact HB.out | apply below_alloc | apply pw_below_drewN | apply below_drew1) | exact HB.out)))
                      (case aF => exact (fun _ _ => trivial))
                      (case aO => exact ((Kd.R_nil _ _ _ _ (fun _ => True))))
                      (case aS => exact (below_size (by repeat (first | (with_reducible first | exact HB.out | apply below_alloc | apply pw_below_drewN | apply below_drew1) | exact HB.out))))
                      (case aL => have := LMc37.out; have hlx_ := (show (l1.take (x7_1 : Int).toNat).length = x7_1.toNat from (by rw [List.length_take]; have h_ : (x7_1 : Int) ≤ (l1.length : Int) := of_decide_eq_true (by first | (with_reducible assumption) | assumption); omega)); omega)
                      intro v175 w46 ho hb hg hat
                      rw [← Ny174.out] at ho
                      have n0_ := Aside0.mk (hb)
                      have n1_ := Aside0.mk (ho)
                      clear HB
                      have HB := n0_
                      have HO176 := n1_
                      clear n0_ n1_
                      clear ho hb hg hat
                      refine hK.out _ _ trivial (fun hHeld => ?_)
                      clear hK K
                      refine norm_ (a' := ?_) ?_ ?_
                      rotate_left
                      · show Act.put _ (some 34) _ = _
                        simp only [Act.put, List.setIfInBounds_toArray, List.set_cons_zero, List.set_cons_succ, i64_w, i32_w]
                        rfl
                      refine one_ (i := 6) (N := some 36) #[true, true, true, true, true, true, true, false, true, true, true, false, false] rfl rfl (one_of HT_.out (by kernel_rfl)) (by decide) (fun K hK => ?_)
                      refine Kd.R_lit_step (Kd.int .i64) _ 3 ?hg (N := 36) ?hd (xs := ([a2] : List Int)) (inner := [.int .i64 a2]) (ok := fun _ => True) (okp := fun _ => True) ?hr ?hp (fun _ hk => hk) trivial (Below.refl _ _) (Nat.le_refl _) (by simp) ?_; (case hd => rfl); (case hg => rfl); (case hr => first | (go_simp; done) | (go_simp; rfl)); (case hp => exact (Reps.one (show Kd.M (Kd.int .i64) _ _ _ a2 [.int .i64 a2] from rfl) (Reps.none _ _)))
                      intro v178 w47 ho48 hb hg_ hnew_
                      clear hg_ hnew_
                      (first | rw [← Ny177.out] at ho48 | (simp only [Int.reduceToNat] at ho48; rw [← Ny177.out] at ho48))
                      have n0_ := Aside0.mk (Kd.R_elder' (by (with_reducible repeat (first | apply Kd.R_alloc | apply Kd.R_drewN | apply Kd.R_drew)); exact HO176.out) (Kd.R_base ho48) hb)
                      have n1_ := Aside0.mk (Kd.R_lower (Kd.R_new' ho48 (Kd.R_lt (by (with_reducible repeat (first | apply Kd.R_alloc | apply Kd.R_drewN | apply Kd.R_drew)); exact HO176.out))) (below_size (by repeat (first | (with_reducible first | exact HB.out | apply below_alloc | apply pw_below_drewN | apply below_drew1) | exact HB.out))))
                      have n2_ := Aside0.mk (below_step (by repeat (first | (with_reducible first | exact HB.out | apply below_alloc | apply pw_below_drewN | apply below_drew1) | exact HB.out)) hb)
                      clear HO176
                      clear HB
                      have HO176 := n0_
                      have HO179 := n1_
                      have HB := n2_
                      clear n0_ n1_ n2_
                      clear hb ho48
                      refine hK.out _ _ trivial (fun hHeld => ?_)
                      clear hK K
                      refine norm_ (a' := ?_) ?_ ?_
                      rotate_left
                      · show Act.put _ (some 36) _ = _
                        simp only [Act.put, List.setIfInBounds_toArray, List.set_cons_zero, List.set_cons_succ, i64_w, i32_w]
                        rfl
                      exact norm_ (by simp only [putAll, Act.put, List.setIfInBounds_toArray, List.set_cons_zero, List.set_cons_succ]) (hCont (v175, v178) _ ⟨(by (with_reducible repeat (first | apply Kd.R_alloc | apply Kd.R_drewN | apply Kd.R_drew)); exact Kd.R_mono HO176.out (fun _ hk => hk.2)), (by (with_reducible repeat (first | apply Kd.R_alloc | apply Kd.R_drewN | apply Kd.R_drew)); exact Kd.R_mono HO179.out (fun _ hk => hk.2)), (by repeat (first | (with_reducible first | exact HB.out | apply below_alloc | apply pw_below_drewN | apply below_drew1) | exact HB.out))⟩)
                    · skip
                      refine Kd.R_lit_step (Kd.int .i64) _ 3 ?hg (N := 36) ?hd (xs := ([a2] : List Int)) (inner := [.int .i64 a2]) (ok := fun _ => True) (okp := fun _ => True) ?hr ?hp (fun _ hk => hk) trivial (Below.refl _ _) (Nat.le_refl _) (by simp) ?_; (case hd => rfl); (case hg => rfl); (case hr => first | (go_simp; done) | (go_simp; rfl)); (case hp => exact (Reps.one (show Kd.M (Kd.int .i64) _ _ _ a2 [.int .i64 a2] from rfl) (Reps.none _ _)))
                      intro v178 w46 ho47 hb hg_ hnew_
                      clear hg_ hnew_
                      (first | rw [← Ny177.out] at ho47 | (simp only [Int.reduceToNat] at ho47; rw [← Ny177.out] at ho47))
                      have n0_ := Aside0.mk (Kd.R_lower ho47 (below_size (by repeat (first | (with_reducible first | exact HB.out | apply below_alloc | apply pw_below_drewN | apply below_drew1) | exact HB.out))))
                      have n1_ := Aside0.mk (below_step (by repeat (first | (with_reducible first | exact HB.out | apply below_alloc | apply pw_below_drewN | apply below_drew1) | exact HB.out)) hb)
                      clear HB
                      have HO179 := n0_
                      have HB := n1_
                      clear n0_ n1_
                      clear hb ho47
                      refine hK.out _ _ trivial (fun hHeld => ?_)
                      clear hK K
                      refine norm_ (a' := ?_) ?_ ?_
                      rotate_left
                      · show Act.put _ (some 36) _ = _
                        simp only [Act.put, List.setIfInBounds_toArray, List.set_cons_zero, List.set_cons_succ, i64_w, i32_w]
                        rfl
                      refine one_ (i := 4) (N := some 34) #[true, true, true, true, true, true, true, false, true, true, true, false, false] rfl rfl (one_of HT_.out (by kernel_rfl)) (by decide) (fun K hK => ?_)
                      refine Kd.R_append_rows_step (Kd.int .i64) (w0 := w) w.heap.size (by rfl) (.tmp 30) (.tmp 33) 27 3 (.int .i64 0) 8 rfl Try.underlying27 info3 rfl (by decide) (by omega) (.slice none 0 0) ([] : List Int) (l1.take (x7_1 : Int).toNat) _ _ _ (fun k_ => some k_ ≠ (v178 : Value).ownBlock) (fun _ => False) rfl rfl ?aO ?aR (fun _ _ h => h) (fun _ h => h.elim) ?aF ?aB ?aS ?aL ?_
                      (case aR => refine (show ∀ {E_ : Type} {R_ : E_ → List Value → Prop} {s_ : Nat} {w_ : World} {A_ : Option Addr} {n_ m_ : Nat} {x_ : List E_}, n_ = m_ → ReadsRow R_ s_ w_ A_ n_ x_ → ReadsRow R_ s_ w_ A_ m_ x_ from fun h_ r_ => h_ ▸ r_) (show (l1.take (x7_1 : Int).toNat).length = x7_1.toNat from (by rw [List.length_take]; have h_ : (x7_1 : Int) ≤ (l1.length : Int) := of_decide_eq_true (by first | (with_reducible assumption) | assumption); omega)) ?_; repeat (first | exact (Kd.C_below HR173.out HB.out) | (with_reducible refine Kd.C_alloc ?_ _) | (with_reducible refine Kd.C_drewN ?_ _) | (with_reducible refine Kd.C_drew ?_)))
                      (case aB => exact (by repeat (first | (with_reducible first | exact HB.out | apply below_alloc | apply pw_below_drewN | apply below_drew1) | exact HB.out)))
                      (case aF => exact (fun k_ hk => Kd.fresh' (Kd.R_lt (by (with_reducible repeat (first | apply Kd.R_alloc | apply Kd.R_drewN | apply Kd.R_drew)); exact HO179.out)) k_ hk))
                      (case aO => exact ((Kd.R_nil _ _ _ _ (fun k_ => some k_ ≠ (v178 : Value).ownBlock))))
                      (case aS => exact (below_size (by repeat (first | (with_reducible first | exact HB.out | apply below_alloc | apply pw_below_drewN | apply below_drew1) | exact HB.out))))
                      (case aL => have := LMc37.out; have hlx_ := (show (l1.take (x7_1 : Int).toNat).length = x7_1.toNat from (by rw [List.length_take]; have h_ : (x7_1 : Int) ≤ (l1.length : Int) := of_decide_eq_true (by first | (with_reducible assumption) | assumption); omega)); omega)
                      intro v175 w48 ho hb hg hat
                      rw [← Ny174.out] at ho
                      have n0_ := Aside0.mk (Kd.R_after (Kd.R_apart_nil (by (with_reducible repeat (first | apply Kd.R_alloc | apply Kd.R_drewN | apply Kd.R_drew)); exact HO179.out)) hg hat)
                      have n1_ := Aside0.mk (hb)
                      have n2_ := Aside0.mk (ho)
                      clear HO179
                      clear HB
                      have HO179 := n0_
                      have HB := n1_
                      have HO176 := n2_
                      clear n0_ n1_ n2_
                      clear ho hb hg hat
                      refine hK.out _ _ trivial (fun hHeld => ?_)
                      clear hK K
                      refine norm_ (a' := ?_) ?_ ?_
                      rotate_left
                      · show Act.put _ (some 34) _ = _
                        simp only [Act.put, List.setIfInBounds_toArray, List.set_cons_zero, List.set_cons_succ, i64_w, i32_w]
                        rfl
                      exact norm_ (by simp only [putAll, Act.put, List.setIfInBounds_toArray, List.set_cons_zero, List.set_cons_succ]) (hCont (v175, v178) _ ⟨(by (with_reducible repeat (first | apply Kd.R_alloc | apply Kd.R_drewN | apply Kd.R_drew)); exact HO176.out), (by (with_reducible repeat (first | apply Kd.R_alloc | apply Kd.R_drewN | apply Kd.R_drew)); exact Kd.R_mono HO179.out (fun _ hk => hk.2)), (by repeat (first | (with_reducible first | exact HB.out | apply below_alloc | apply pw_below_drewN | apply below_drew1) | exact HB.out))⟩)
                  rintro ⟨v175, v178⟩ w49 ⟨h0_, h1_, h2_⟩
                  have n0_ : Aside0 (Kd.R (Kd.int .i64) 3 w49 w.heap.size (fun k_ => some k_ ≠ (v178 : Value).ownBlock) v175 y174) := ⟨h0_⟩
                  have n1_ : Aside0 (Kd.R (Kd.int .i64) 3 w49 w.heap.size (fun k_ => some k_ ≠ (v175 : Value).ownBlock) v178 y177) := ⟨h1_⟩
                  have n2_ : Aside0 (Below w.heap.size w w49) := ⟨h2_⟩
                  clear HB
                  clear h0_ h1_ h2_
                  have HO176 := n0_
                  have HO179 := n1_
                  have HB := n2_
                  clear n0_ n1_ n2_
                  have hHeld := trivial
                  obtain ⟨Ao51, co51, eo51⟩ := Kd.R_slice HO179.out
                  (first | subst eo51 | (injection eo51 with f1_ f2_ f3_; have f4_ := f1_.symm; have f5_ := f3_.symm; clear f1_ f2_ f3_; subst f4_; subst f5_))
                  refine norm_ (a' := ?_) ?_ ?_
                  rotate_left
                  · simp only [putAll, Act.put, List.setIfInBounds_toArray, List.set_cons_zero, List.set_cons_succ]
                    rfl
                  refine one_ (i := 7) (N := some 37) #[true, true, true, true, true, true, true, true, true, true, true, false, false] rfl rfl (one_of HT_.out (by kernel_rfl)) (by decide) (fun K hK => ?_)
                  refine Kd.R_append_rows_step (Kd.int .i64) (w0 := w) w.heap.size (by rfl) (.tmp 34) (.tmp 36) 27 3 (.int .i64 0) 8 rfl Try.underlying27 info3 rfl (by decide) (by omega) v175 y174 y177 _ _ _ (fun k_ => some k_ ≠ (.slice Ao51 y177.length co51 : Value).ownBlock) (fun _ => False) rfl rfl ?aO ?aR (fun _ _ h => h) (fun _ h => h.elim) ?aF ?aB ?aS ?aL ?_
                  (case aR => repeat (first | exact (Kd.R_reads' HO179.out).2.2 | (with_reducible refine Kd.C_alloc ?_ _) | (with_reducible refine Kd.C_drewN ?_ _) | (with_reducible refine Kd.C_drew ?_)))
                  (case aB => exact (by repeat (first | (with_reducible first | exact HB.out | apply below_alloc | apply pw_below_drewN | apply below_drew1) | exact HB.out)))
                  (case aF => exact (fun k_ hk => Kd.fresh' (Kd.R_lt (by (with_reducible repeat (first | apply Kd.R_alloc | apply Kd.R_drewN | apply Kd.R_drew)); exact HO179.out)) k_ hk))
                  (case aO => exact (by (with_reducible repeat (first | apply Kd.R_alloc | apply Kd.R_drewN | apply Kd.R_drew)); exact HO176.out))
                  (case aS => exact (below_size (by repeat (first | (with_reducible first | exact HB.out | apply below_alloc | apply pw_below_drewN | apply below_drew1) | exact HB.out))))
                  (case aL => have := LMc38.out; omega)
                  intro v181 w50 ho hb hg hat
                  rw [← Ny180.out] at ho
                  have n0_ := Aside0.mk (Kd.R_after (ok := (fun _ => True)) (by (with_reducible repeat (first | apply Kd.R_alloc | apply Kd.R_drewN | apply Kd.R_drew)); exact Kd.R_mono HO179.out (fun _ hk => ⟨trivial, hk⟩)) hg hat)
                  have n1_ := Aside0.mk (hb)
                  have n2_ := Aside0.mk (ho)
                  clear HO179
                  clear HB
                  clear HO176
                  have HO179 := n0_
                  have HB := n1_
                  have HO182 := n2_
                  clear n0_ n1_ n2_
                  clear ho hb hg hat
                  refine hK.out _ _ trivial (fun hHeld => ?_)
                  clear hK K
                  refine norm_ (a' := ?_) ?_ ?_
                  rotate_left
                  · show Act.put _ (some 37) _ = _
                    simp only [Act.put, List.setIfInBounds_toArray, List.set_cons_zero, List.set_cons_succ, i64_w, i32_w]
                    rfl
                  refine one_ (i := 11) (N := some 41) #[true, true, true, true, true, true, true, true, true, true, true, true, false] rfl rfl (one_of HT_.out (by kernel_rfl)) (by decide) (fun K hK => ?_)
                  refine Kd.R_append_rows_step (Kd.int .i64) (w0 := w) w.heap.size (by rfl) (.tmp 37) (.tmp 40) 27 3 (.int .i64 0) 8 rfl Try.underlying27 info3 rfl (by decide) (by omega) v181 y180 (l1.drop (x7_1 : Int).toNat) _ _ _ (fun k_ => some k_ ≠ (.slice Ao51 y177.length co51 : Value).ownBlock) (fun _ => False) rfl rfl ?aO ?aR (fun _ _ h => h) (fun _ h => h.elim) ?aF ?aB ?aS ?aL ?_
                  (case aR => refine (show ∀ {E_ : Type} {R_ : E_ → List Value → Prop} {s_ : Nat} {w_ : World} {A_ : Option Addr} {n_ m_ : Nat} {x_ : List E_}, n_ = m_ → ReadsRow R_ s_ w_ A_ n_ x_ → ReadsRow R_ s_ w_ A_ m_ x_ from fun h_ r_ => h_ ▸ r_) (show (l1.drop (x7_1 : Int).toNat).length = (l1.length - x7_1.toNat) from List.length_drop) ?_; repeat (first | exact (Kd.C_below HR183.out HB.out) | (with_reducible refine Kd.C_alloc ?_ _) | (with_reducible refine Kd.C_drewN ?_ _) | (with_reducible refine Kd.C_drew ?_)))
                  (case aB => exact (by repeat (first | (with_reducible first | exact HB.out | apply below_alloc | apply pw_below_drewN | apply below_drew1) | exact HB.out)))
                  (case aF => exact (fun k_ hk => Kd.fresh' (Kd.R_lt (by (with_reducible repeat (first | apply Kd.R_alloc | apply Kd.R_drewN | apply Kd.R_drew)); exact HO179.out)) k_ hk))
                  (case aO => exact (by (with_reducible repeat (first | apply Kd.R_alloc | apply Kd.R_drewN | apply Kd.R_drew)); exact HO182.out))
                  (case aS => exact (below_size (by repeat (first | (with_reducible first | exact HB.out | apply below_alloc | apply pw_below_drewN | apply below_drew1) | exact HB.out))))
                  (case aL => have := LMc41.out; have hlx_ := (show (l1.drop (x7_1 : Int).toNat).length = (l1.length - x7_1.toNat) from List.length_drop); omega)
                  intro v185 w52 ho hb hg hat
                  rw [← Ny184.out] at ho
                  have n0_ := Aside0.mk (Kd.R_after (ok := (fun _ => True)) (by (with_reducible repeat (first | apply Kd.R_alloc | apply Kd.R_drewN | apply Kd.R_drew)); exact HO179.out) hg hat)
                  have n1_ := Aside0.mk (hb)
                  have n2_ := Aside0.mk (ho)
                  clear HO179
                  clear HB
                  clear HO182
                  have HO179 := n0_
                  have HB := n1_
                  have HO186 := n2_
                  clear n0_ n1_ n2_
                  clear ho hb hg hat
                  refine hK.out _ _ trivial (fun hHeld => ?_)
                  clear hK K
                  refine norm_ (a' := ?_) ?_ ?_
                  rotate_left
                  · show Act.put _ (some 41) _ = _
                    simp only [Act.put, List.setIfInBounds_toArray, List.set_cons_zero, List.set_cons_succ, i64_w, i32_w]
                    rfl
                  refine pure_ (i := 12) (N := some 6) (v := ?_) (a' := ?_) #[true, true, true, true, true, true, true, true, true, true, true, true, true] rfl rfl (any_of HT_.out (by kernel_rfl)) (fun _ _ _ h => h) (Or.inl ⟨by rfl, ?_⟩) ?_ ?_
                  rotate_left
                  · intro w'
                    go_simp
                    with_reducible rfl
                  rotate_left
                  · simp only [Act.put, List.setIfInBounds_toArray, List.set_cons_zero, List.set_cons_succ, i64_w, i32_w]
                    rfl
                  refine done_ (done_of HT_.out (by kernel_rfl)) ?_
                  try go_wp2
                  go_ret
                  exact ⟨_, by first | rfl | (simp [errW_none, errW_some] <;> rfl) | (simp [*, errW_none, errW_some] <;> rfl), by (with_reducible repeat (first | apply Kd.R_alloc | apply Kd.R_drewN | apply Kd.R_drew)); exact Kd.R_mono HO186.out (fun _ hk => trivial), by repeat (first | (with_reducible first | exact HB.out | apply below_alloc | apply pw_below_drewN | apply below_drew1) | exact HB.out)⟩
                · rw [if_neg c41] at H
                  exact absurd H (by simp)
              · rw [if_neg c38] at H
                exact absurd H (by simp)
            · rw [if_neg c37] at H
              exact absurd H (by simp)
          · rw [if_neg c36] at H
            exact absurd H (by simp)
        · rw [if_neg c35] at H
          exact absurd H (by simp)

end Go.Proofs.Ytajinnlaajhoeaa.PThr
