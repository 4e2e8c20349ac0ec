-- The machine's side of laws, written by a program of this session (wip/gen/pp.sh). Lean checks it.
import Derived.Test.YtajinnlaajhoeaaPAllx0
import Derived.Test.YtajinnlaajhoeaaPAllx5
import Derived.Test.YtajinnlaajhoeaaPAllx6
namespace Go.Proofs.Ytajinnlaajhoeaa.PAll
open Go.RowKit Go.Proofs.YtajinnlaajhoeaaW.PrintWords Go.Proofs.YtajinnlaajhoeaaW.PrintLast
set_option linter.unusedVariables false
set_option linter.unusedSimpArgs false

/-! ### orthoepyref02_Bytes: function 39 -/
def orthoepyref02_Bytes.f (a0 : Int) : Option (List Int) := (orthoepyref01_Is.f a0).bind fun t231 => (if t231 = true then (if a0 < 128 then (some (([(a0) % 256] : List Int))) else (if a0 < 2048 then (some (([(wrap32 (192 + (wrap32 (Int.tdiv a0 64)))) % 256, (wrap32 (128 + (Int.tmod a0 64))) % 256] : List Int))) else (if a0 < 65536 then (some (([(wrap32 (224 + (wrap32 (Int.tdiv a0 4096)))) % 256, (wrap32 (128 + (Int.tmod (wrap32 (Int.tdiv a0 64)) 64))) % 256, (wrap32 (128 + (Int.tmod a0 64))) % 256] : List Int))) else (some (([(wrap32 (240 + (wrap32 (Int.tdiv a0 262144)))) % 256, (wrap32 (128 + (Int.tmod (wrap32 (Int.tdiv a0 4096)) 64))) % 256, (wrap32 (128 + (Int.tmod (wrap32 (Int.tdiv a0 64)) 64))) % 256, (wrap32 (128 + (Int.tmod a0 64))) % 256] : List Int)))))) else (some ([] : List Int)))
set_option maxHeartbeats 8000000 in
set_option maxRecDepth 100000 in
theorem orthoepyref02_Bytes.calls (a0 : Int) (r : List Int) (w : World) (h : orthoepyref02_Bytes.f a0 = some r) :
    Calls Try.prog 39 #[.int .i32 a0] w fun e w' => ∃ v0_ : Value, e = .returned (v0_) ∧ Kd.R (Kd.int .u8) 5 w' w.heap.size (fun _ => True) v0_ r ∧ Below w.heap.size w w' := by
  have HB := Aside0.mk (Below.refl w.heap.size w)
  have H : ((orthoepyref01_Is.f a0).bind fun t231 => (if t231 = true then (if a0 < 128 then (some (([(a0) % 256] : List Int))) else (if a0 < 2048 then (some (([(wrap32 (192 + (wrap32 (Int.tdiv a0 64)))) % 256, (wrap32 (128 + (Int.tmod a0 64))) % 256] : List Int))) else (if a0 < 65536 then (some (([(wrap32 (224 + (wrap32 (Int.tdiv a0 4096)))) % 256, (wrap32 (128 + (Int.tmod (wrap32 (Int.tdiv a0 64)) 64))) % 256, (wrap32 (128 + (Int.tmod a0 64))) % 256] : List Int))) else (some (([(wrap32 (240 + (wrap32 (Int.tdiv a0 262144)))) % 256, (wrap32 (128 + (Int.tmod (wrap32 (Int.tdiv a0 4096)) 64))) % 256, (wrap32 (128 + (Int.tmod (wrap32 (Int.tdiv a0 64)) 64))) % 256, (wrap32 (128 + (Int.tmod a0 64))) % 256] : List Int)))))) else (some ([] : List Int)))) = some r := h
  clear h
  replace H := Option.bind_eq_some_iff.mp H
  obtain ⟨t231, A20, H⟩ := H
  replace H : (if t231 = true then (if a0 < 128 then (some (([(a0) % 256] : List Int))) else (if a0 < 2048 then (some (([(wrap32 (192 + (wrap32 (Int.tdiv a0 64)))) % 256, (wrap32 (128 + (Int.tmod a0 64))) % 256] : List Int))) else (if a0 < 65536 then (some (([(wrap32 (224 + (wrap32 (Int.tdiv a0 4096)))) % 256, (wrap32 (128 + (Int.tmod (wrap32 (Int.tdiv a0 64)) 64))) % 256, (wrap32 (128 + (Int.tmod a0 64))) % 256] : List Int))) else (some (([(wrap32 (240 + (wrap32 (Int.tdiv a0 262144)))) % 256, (wrap32 (128 + (Int.tmod (wrap32 (Int.tdiv a0 4096)) 64))) % 256, (wrap32 (128 + (Int.tmod (wrap32 (Int.tdiv a0 64)) 64))) % 256, (wrap32 (128 + (Int.tmod a0 64))) % 256] : List Int)))))) else (some ([] : List Int))) = some r := H
  have A2 := Aside0.mk A20
  clear A20
  by_cases c3 : t231 = true
  · subst c3
    have H1 : (if a0 < 128 then (some (([(a0) % 256] : List Int))) else (if a0 < 2048 then (some (([(wrap32 (192 + (wrap32 (Int.tdiv a0 64)))) % 256, (wrap32 (128 + (Int.tmod a0 64))) % 256] : List Int))) else (if a0 < 65536 then (some (([(wrap32 (224 + (wrap32 (Int.tdiv a0 4096)))) % 256, (wrap32 (128 + (Int.tmod (wrap32 (Int.tdiv a0 64)) 64))) % 256, (wrap32 (128 + (Int.tmod a0 64))) % 256] : List Int))) else (some (([(wrap32 (240 + (wrap32 (Int.tdiv a0 262144)))) % 256, (wrap32 (128 + (Int.tmod (wrap32 (Int.tdiv a0 4096)) 64))) % 256, (wrap32 (128 + (Int.tmod (wrap32 (Int.tdiv a0 64)) 64))) % 256, (wrap32 (128 + (Int.tmod a0 64))) % 256] : List Int)))))) = some r := by rw [if_pos rfl] at H; exact H
    clear H
    have H := H1
    clear H1
    by_cases c4 : a0 < 128
    · rw [if_pos c4] at H
      have c4b0 : decide (a0 < 128) = true := decide_eq_true c4
      clear c4
      obtain ⟨y232, hy232⟩ : ∃ y_ : List Int, y_ = (([(a0) % 256] : List Int)) := ⟨_, rfl⟩
      replace H : (some y232) = some r := by first | (rw [hy232]; with_reducible exact H) | (have H2_ := (Option.bind_some _ _).symm.trans H; rw [hy232]; with_reducible exact H2_) | (have H2_ := (Option.bind_some _ _).symm.trans H; with_reducible exact H2_) | with_reducible exact H | (rw [hy232]; exact H) | exact H
      have Ny232 := Aside0.mk hy232
      clear hy232
      obtain rfl := Option.some.inj H
      go_enter Try.func39, Try.ntmps39
      go_wp2_with (first | ((with_reducible refine gate_callee (f := 31) rfl ?_); refine goesL_ (some 5) rfl rfl Try.func31 (by kernel_rfl) rfl #[.int .i32 a0] rfl (by (try simp only [List.map_toArray, List.map_cons, List.map_nil]); first | done | rfl | (simp only [List.length_drop, List.length_take]; rfl)) ?_; (with_reducible refine (orthoepyref01_Is.calls a0 true _ A2.out).mono ?_); rintro e w' ⟨rfl, ⟨nd, rfl⟩⟩; refine ⟨_, rfl, ?_⟩) | ((with_reducible refine gate_dst (N := 12) rfl ?_); refine Kd.R_lit (Kd.int .u8) _ 5 ?hg (N := 12) ?hd (xs := ([(a0) % 256] : List Int)) (inner := [.int .u8 ((a0) % 256)]) (ok := fun _ => True) (okp := fun _ => True) ?hr ?hp (fun _ hk => hk) trivial (Below.refl _ _) (Nat.le_refl _) (by simp) ?_; (case hd => rfl); (case hg => rfl); (case hr => first | (go_simp; done) | (go_simp; rfl)); (case hp => exact (Reps.one (show Kd.M (Kd.int .u8) _ _ _ ((a0) % 256) [.int .u8 ((a0) % 256)] from rfl) (Reps.none _ _))); intro v233 w5 ho6 hb hg_ hnew_; clear hg_ hnew_; (first | rw [← Ny232.out] at ho6 | (simp only [Int.reduceToNat] at ho6; rw [← Ny232.out] at ho6)); have n0_ := Aside0.mk (Kd.R_lower ho6 (below_size (by repeat (first | (with_reducible first | exact HB.out | apply below_alloc | apply pw_below_drewN | apply below_drew1) | exact HB.out)))); have n1_ := Aside0.mk (below_step (by repeat (first | (with_reducible first | exact HB.out | apply below_alloc | apply pw_below_drewN | apply below_drew1) | exact HB.out)) hb); clear HB; have HO234 := n0_; have HB := n1_; clear n0_ n1_; clear hb ho6))
      go_ret
      exact ⟨_, by first | rfl | (simp [errW_none, errW_some] <;> rfl) | (simp [*, errW_none, errW_some] <;> rfl), by (with_reducible repeat (first | apply Kd.R_alloc | apply Kd.R_drewN | apply Kd.R_drew)); exact HO234.out, by repeat (first | (with_reducible first | exact HB.out | apply below_alloc | apply pw_below_drewN | apply below_drew1) | exact HB.out)⟩
    · rw [if_neg c4] at H
      have c4b0 : decide (a0 < 128) = false := decide_eq_false c4
      clear c4
      by_cases c7 : a0 < 2048
      · rw [if_pos c7] at H
        have c7b0 : decide (a0 < 2048) = true := decide_eq_true c7
        clear c7
        obtain ⟨y235, hy235⟩ : ∃ y_ : List Int, y_ = (([(wrap32 (192 + (wrap32 (Int.tdiv a0 64)))) % 256, (wrap32 (128 + (Int.tmod a0 64))) % 256] : List Int)) := ⟨_, rfl⟩
        replace H : (some y235) = some r := by first | (rw [hy235]; with_reducible exact H) | (have H2_ := (Option.bind_some _ _).symm.trans H; rw [hy235]; with_reducible exact H2_) | (have H2_ := (Option.bind_some _ _).symm.trans H; with_reducible exact H2_) | with_reducible exact H | (rw [hy235]; exact H) | exact H
        have Ny235 := Aside0.mk hy235
        clear hy235
        obtain rfl := Option.some.inj H
        go_enter Try.func39, Try.ntmps39
        go_wp2_with (first | ((with_reducible refine gate_callee (f := 31) rfl ?_); refine goesL_ (some 5) rfl rfl Try.func31 (by kernel_rfl) rfl #[.int .i32 a0] rfl (by (try simp only [List.map_toArray, List.map_cons, List.map_nil]); first | done | rfl | (simp only [List.length_drop, List.length_take]; rfl)) ?_; (with_reducible refine (orthoepyref01_Is.calls a0 true _ A2.out).mono ?_); rintro e w' ⟨rfl, ⟨nd, rfl⟩⟩; refine ⟨_, rfl, ?_⟩) | ((with_reducible refine gate_dst (N := 24) rfl ?_); refine Kd.R_lit (Kd.int .u8) _ 5 ?hg (N := 24) ?hd (xs := ([(wrap32 (192 + (wrap32 (Int.tdiv a0 64)))) % 256, (wrap32 (128 + (Int.tmod a0 64))) % 256] : List Int)) (inner := [.int .u8 ((wrap32 (192 + (wrap32 (Int.tdiv a0 64)))) % 256), .int .u8 ((wrap32 (128 + (Int.tmod a0 64))) % 256)]) (ok := fun _ => True) (okp := fun _ => True) ?hr ?hp (fun _ hk => hk) trivial (Below.refl _ _) (Nat.le_refl _) (by simp) ?_; (case hd => rfl); (case hg => rfl); (case hr => first | (go_simp; done) | (go_simp; rfl)); (case hp => exact (Reps.one (show Kd.M (Kd.int .u8) _ _ _ ((wrap32 (192 + (wrap32 (Int.tdiv a0 64)))) % 256) [.int .u8 ((wrap32 (192 + (wrap32 (Int.tdiv a0 64)))) % 256)] from rfl) (Reps.one (show Kd.M (Kd.int .u8) _ _ _ ((wrap32 (128 + (Int.tmod a0 64))) % 256) [.int .u8 ((wrap32 (128 + (Int.tmod a0 64))) % 256)] from rfl) (Reps.none _ _)))); intro v236 w8 ho9 hb hg_ hnew_; clear hg_ hnew_; (first | rw [← Ny235.out] at ho9 | (simp only [Int.reduceToNat] at ho9; rw [← Ny235.out] at ho9)); have n0_ := Aside0.mk (Kd.R_lower ho9 (below_size (by repeat (first | (with_reducible first | exact HB.out | apply below_alloc | apply pw_below_drewN | apply below_drew1) | exact HB.out)))); have n1_ := Aside0.mk (below_step (by repeat (first | (with_reducible first | exact HB.out | apply below_alloc | apply pw_below_drewN | apply below_drew1) | exact HB.out)) hb); clear HB; have HO237 := n0_; have HB := n1_; clear n0_ n1_; clear hb ho9))
        go_ret
        exact ⟨_, by first | rfl | (simp [errW_none, errW_some] <;> rfl) | (simp [*, errW_none, errW_some] <;> rfl), by (with_reducible repeat (first | apply Kd.R_alloc | apply Kd.R_drewN | apply Kd.R_drew)); exact HO237.out, by repeat (first | (with_reducible first | exact HB.out | apply below_alloc | apply pw_below_drewN | apply below_drew1) | exact HB.out)⟩
      · rw [if_neg c7] at H
        have c7b0 : decide (a0 < 2048) = false := decide_eq_false c7
        clear c7
        by_cases c10 : a0 < 65536
        · rw [if_pos c10] at H
          have c10b0 : decide (a0 < 65536) = true := decide_eq_true c10
          clear c10
          obtain ⟨y238, hy238⟩ : ∃ y_ : List Int, y_ = (([(wrap32 (224 + (wrap32 (Int.tdiv a0 4096)))) % 256, (wrap32 (128 + (Int.tmod (wrap32 (Int.tdiv a0 64)) 64))) % 256, (wrap32 (128 + (Int.tmod a0 64))) % 256] : List Int)) := ⟨_, rfl⟩
          replace H : (some y238) = some r := by first | (rw [hy238]; with_reducible exact H) | (have H2_ := (Option.bind_some _ _).symm.trans H; rw [hy238]; with_reducible exact H2_) | (have H2_ := (Option.bind_some _ _).symm.trans H; with_reducible exact H2_) | with_reducible exact H | (rw [hy238]; exact H) | exact H
          have Ny238 := Aside0.mk hy238
          clear hy238
          obtain rfl := Option.some.inj H
          go_enter Try.func39, Try.ntmps39
          go_wp2_with (first | ((with_reducible refine gate_callee (f := 31) rfl ?_); refine goesL_ (some 5) rfl rfl Try.func31 (by kernel_rfl) rfl #[.int .i32 a0] rfl (by (try simp only [List.map_toArray, List.map_cons, List.map_nil]); first | done | rfl | (simp only [List.length_drop, List.length_take]; rfl)) ?_; (with_reducible refine (orthoepyref01_Is.calls a0 true _ A2.out).mono ?_); rintro e w' ⟨rfl, ⟨nd, rfl⟩⟩; refine ⟨_, rfl, ?_⟩) | ((with_reducible refine gate_dst (N := 41) rfl ?_); refine Kd.R_lit (Kd.int .u8) _ 5 ?hg (N := 41) ?hd (xs := ([(wrap32 (224 + (wrap32 (Int.tdiv a0 4096)))) % 256, (wrap32 (128 + (Int.tmod (wrap32 (Int.tdiv a0 64)) 64))) % 256, (wrap32 (128 + (Int.tmod a0 64))) % 256] : List Int)) (inner := [.int .u8 ((wrap32 (224 + (wrap32 (Int.tdiv a0 4096)))) % 256), .int .u8 ((wrap32 (128 + (Int.tmod (wrap32 (Int.tdiv a0 64)) 64))) % 256), .int .u8 ((wrap32 (128 + (Int.tmod a0 64))) % 256)]) (ok := fun _ => True) (okp := fun _ => True) ?hr ?hp (fun _ hk => hk) trivial (Below.refl _ _) (Nat.le_refl _) (by simp) ?_; (case hd => rfl); (case hg => rfl); (case hr => first | (go_simp; done) | (go_simp; rfl)); (case hp => exact (Reps.one (show Kd.M (Kd.int .u8) _ _ _ ((wrap32 (224 + (wrap32 (Int.tdiv a0 4096)))) % 256) [.int .u8 ((wrap32 (224 + (wrap32 (Int.tdiv a0 4096)))) % 256)] from rfl) (Reps.one (show Kd.M (Kd.int .u8) _ _ _ ((wrap32 (128 + (Int.tmod (wrap32 (Int.tdiv a0 64)) 64))) % 256) [.int .u8 ((wrap32 (128 + (Int.tmod (wrap32 (Int.tdiv a0 64)) 64))) % 256)] from rfl) (Reps.one (show Kd.M (Kd.int .u8) _ _ _ ((wrap32 (128 + (Int.tmod a0 64))) % 256) [.int .u8 ((wrap32 (128 + (Int.tmod a0 64))) % 256)] from rfl) (Reps.none _ _))))); intro v239 w11 ho12 hb hg_ hnew_; clear hg_ hnew_; (first | rw [← Ny238.out] at ho12 | (simp only [Int.reduceToNat] at ho12; rw [← Ny238.out] at ho12)); have n0_ := Aside0.mk (Kd.R_lower ho12 (below_size (by repeat (first | (with_reducible first | exact HB.out | apply below_alloc | apply pw_below_drewN | apply below_drew1) | exact HB.out)))); have n1_ := Aside0.mk (below_step (by repeat (first | (with_reducible first | exact HB.out | apply below_alloc | apply pw_below_drewN | apply below_drew1) | exact HB.out)) hb); clear HB; have HO240 := n0_; have HB := n1_; clear n0_ n1_; clear hb ho12))
          go_ret
          exact ⟨_, by first | rfl | (simp [errW_none, errW_some] <;> rfl) | (simp [*, errW_none, errW_some] <;> rfl), by (with_reducible repeat (first | apply Kd.R_alloc | apply Kd.R_drewN | apply Kd.R_drew)); exact HO240.out, by repeat (first | (with_reducible first | exact HB.out | apply below_alloc | apply pw_below_drewN | apply below_drew1) | exact HB.out)⟩
        · rw [if_neg c10] at H
          have c10b0 : decide (a0 < 65536) = false := decide_eq_false c10
          clear c10
          obtain ⟨y241, hy241⟩ : ∃ y_ : List Int, y_ = (([(wrap32 (240 + (wrap32 (Int.tdiv a0 262144)))) % 256, (wrap32 (128 + (Int.tmod (wrap32 (Int.tdiv a0 4096)) 64))) % 256, (wrap32 (128 + (Int.tmod (wrap32 (Int.tdiv a0 64)) 64))) % 256, (wrap32 (128 + (Int.tmod a0 64))) % 256] : List Int)) := ⟨_, rfl⟩
          replace H : (some y241) = some r := by first | (rw [hy241]; with_reducible exact H) | (have H2_ := (Option.bind_some _ _).symm.trans H; rw [hy241]; with_reducible exact H2_) | (have H2_ := (Option.bind_some _ _).symm.trans H; with_reducible exact H2_) | with_reducible exact H | (rw [hy241]; exact H) | exact H
          have Ny241 := Aside0.mk hy241
          clear hy241
          obtain rfl := Option.some.inj H
          go_enter Try.func39, Try.ntmps39
          go_wp2_with (first | ((with_reducible refine gate_callee (f := 31) rfl ?_); refine goesL_ (some 5) rfl rfl Try.func31 (by kernel_rfl) rfl #[.int .i32 a0] rfl (by (try simp only [List.map_toArray, List.map_cons, List.map_nil]); first | done | rfl | (simp only [List.length_drop, List.length_take]; rfl)) ?_; (with_reducible refine (orthoepyref01_Is.calls a0 true _ A2.out).mono ?_); rintro e w' ⟨rfl, ⟨nd, rfl⟩⟩; refine ⟨_, rfl, ?_⟩) | ((with_reducible refine gate_dst (N := 60) rfl ?_); refine Kd.R_lit (Kd.int .u8) _ 5 ?hg (N := 60) ?hd (xs := ([(wrap32 (240 + (wrap32 (Int.tdiv a0 262144)))) % 256, (wrap32 (128 + (Int.tmod (wrap32 (Int.tdiv a0 4096)) 64))) % 256, (wrap32 (128 + (Int.tmod (wrap32 (Int.tdiv a0 64)) 64))) % 256, (wrap32 (128 + (Int.tmod a0 64))) % 256] : List Int)) (inner := [.int .u8 ((wrap32 (240 + (wrap32 (Int.tdiv a0 262144)))) % 256), .int .u8 ((wrap32 (128 + (Int.tmod (wrap32 (Int.tdiv a0 4096)) 64))) % 256), .int .u8 ((wrap32 (128 + (Int.tmod (wrap32 (Int.tdiv a0 64)) 64))) % 256), .int .u8 ((wrap32 (128 + (Int.tmod a0 64))) % 256)]) (ok := fun _ => True) (okp := fun _ => True) ?hr ?hp (fun _ hk => hk) trivial (Below.refl _ _) (Nat.le_refl _) (by simp) ?_; (case hd => rfl); (case hg => rfl); (case hr => first | (go_simp; done) | (go_simp; rfl)); (case hp => exact (Reps.one (show Kd.M (Kd.int .u8) _ _ _ ((wrap32 (240 + (wrap32 (Int.tdiv a0 262144)))) % 256) [.int .u8 ((wrap32 (240 + (wrap32 (Int.tdiv a0 262144)))) % 256)] from rfl) (Reps.one (show Kd.M (Kd.int .u8) _ _ _ ((wrap32 (128 + (Int.tmod (wrap32 (Int.tdiv a0 4096)) 64))) % 256) [.int .u8 ((wrap32 (128 + (Int.tmod (wrap32 (Int.tdiv a0 4096)) 64))) % 256)] from rfl) (Reps.one (show Kd.M (Kd.int .u8) _ _ _ ((wrap32 (128 + (Int.tmod (wrap32 (Int.tdiv a0 64)) 64))) % 256) [.int .u8 ((wrap32 (128 + (Int.tmod (wrap32 (Int.tdiv a0 64)) 64))) % 256)] from rfl) (Reps.one (show Kd.M (Kd.int .u8) _ _ _ ((wrap32 (128 + (Int.tmod a0 64))) % 256) [.int .u8 ((wrap32 (128 + (Int.tmod a0 64))) % 256)] from rfl) (Reps.none _ _)))))); intro v242 w13 ho14 hb hg_ hnew_; clear hg_ hnew_; (first | rw [← Ny241.out] at ho14 | (simp only [Int.reduceToNat] at ho14; rw [← Ny241.out] at ho14)); have n0_ := Aside0.mk (Kd.R_lower ho14 (below_size (by repeat (first | (with_reducible first | exact HB.out | apply below_alloc | apply pw_below_drewN | apply below_drew1) | exact HB.out)))); have n1_ := Aside0.mk (below_step (by repeat (first | (with_reducible first | exact HB.out | apply below_alloc | apply pw_below_drewN | apply below_drew1) | exact HB.out)) hb); clear HB; have HO243 := n0_; have HB := n1_; clear n0_ n1_; clear hb ho14))
          go_ret
          exact ⟨_, by first | rfl | (simp [errW_none, errW_some] <;> rfl) | (simp [*, errW_none, errW_some] <;> rfl), by (with_reducible repeat (first | apply Kd.R_alloc | apply Kd.R_drewN | apply Kd.R_drew)); exact HO243.out, by repeat (first | (with_reducible first | exact HB.out | apply below_alloc | apply pw_below_drewN | apply below_drew1) | exact HB.out)⟩
  · replace c3 := Bool.eq_false_iff.mpr c3
    subst c3
    have H1 : (some ([] : List Int)) = some r := by rw [if_neg (show ¬ (false = true) by decide)] at H; exact H
    clear H
    have H := H1
    clear H1
    obtain rfl := Option.some.inj H
    go_enter Try.func39, Try.ntmps39
    go_wp2_with (first | ((with_reducible refine gate_callee (f := 31) rfl ?_); refine goesL_ (some 5) rfl rfl Try.func31 (by kernel_rfl) rfl #[.int .i32 a0] rfl (by (try simp only [List.map_toArray, List.map_cons, List.map_nil]); first | done | rfl | (simp only [List.length_drop, List.length_take]; rfl)) ?_; (with_reducible refine (orthoepyref01_Is.calls a0 false _ A2.out).mono ?_); rintro e w' ⟨rfl, ⟨nd, rfl⟩⟩; refine ⟨_, rfl, ?_⟩))
    go_ret
    exact ⟨_, by first | rfl | (simp [errW_none, errW_some] <;> rfl) | (simp [*, errW_none, errW_some] <;> rfl), by first | exact Kd.R_nil _ _ _ _ _ | exact Kd.N_nil _ _ _ _ _ | exact Kd.V_nil _ _ _ _ _ | exact Kd.Q_nil _ _ _ _ _ | exact Kd.S_nil _ _ _ _ _, by repeat (first | (with_reducible first | exact HB.out | apply below_alloc | apply pw_below_drewN | apply below_drew1) | exact HB.out)⟩

/-! ### orthoepyref02_Text: function 33 -/
def orthoepyref02_Text.l0 : Nat → List Int → List Int → Int → Option (List Int)
  | 0, _, _, _ => none
  | k + 1, x0, x3, x4 => if x4 < (x0.length : Int) then (if 0 ≤ x4 then ((orthoepyref02_Bytes.f (rd x0 x4)).bind fun t245 => (if x3.length + t245.length < 140737488355328 then (orthoepyref02_Text.l0 k x0 (x3 ++ t245) (wrap64 (x4 + 1))) else (none))) else (none)) else (some x3)
def orthoepyref02_Text.f (k : Nat) (l0 : List Int) : Option (List Int) := orthoepyref02_Text.l0 k l0 ([] : List Int) 0
theorem orthoepyref02_Text.mono_l : ∀ k, (∀ y0 y1 y2, LeO (orthoepyref02_Text.l0 k y0 y1 y2) (orthoepyref02_Text.l0 (k + 1) y0 y1 y2))
  | 0 => fun _ _ _ r h => by simp [orthoepyref02_Text.l0] at h
  | k + 1 => by
    have ih0 := orthoepyref02_Text.mono_l k
    · intro y0 y1 y2
      unfold orthoepyref02_Text.l0
      repeat' first
      | (with_reducible exact ih0 _ _ _)
      | (with_reducible exact LeO.refl _)
      | (with_reducible exact LeO.none _)
      | (with_reducible refine LeO.ite ?_ ?_)
      | (with_reducible refine LeO.bind ?_ (fun _ => ?_))
      | exact ih0 _ _ _
      | exact LeO.none _
      | refine LeO.ite ?_ ?_
      | refine LeO.bind ?_ (fun _ => ?_)
theorem orthoepyref02_Text.mono : ∀ a0 k, LeO (orthoepyref02_Text.f k a0) (orthoepyref02_Text.f (k + 1) a0) := by
  intro a0 k
  have ih0 := orthoepyref02_Text.mono_l k
  unfold orthoepyref02_Text.f
  repeat' first
      | (with_reducible exact ih0 _ _ _)
      | (with_reducible exact LeO.refl _)
      | (with_reducible exact LeO.none _)
      | (with_reducible refine LeO.ite ?_ ?_)
      | (with_reducible refine LeO.bind ?_ (fun _ => ?_))
      | exact ih0 _ _ _
      | exact LeO.none _
      | refine LeO.ite ?_ ?_
      | refine LeO.bind ?_ (fun _ => ?_)
set_option maxHeartbeats 8000000 in
set_option maxRecDepth 100000 in
theorem orthoepyref02_Text.calls (k : Nat) (A0 : Option Addr) (c0 : Nat) (l0 : List Int) (r : List Int) (w : World) (hr0 : Kd.C (Kd.int .i32) w A0 l0.length l0) (hc0 : l0.length ≤ c0) (h : orthoepyref02_Text.f k l0 = some r) :
    Calls Try.prog 33 #[.slice A0 l0.length c0] w fun e w' => ∃ v0_ : Value, e = .returned (v0_) ∧ Kd.R (Kd.int .u8) 5 w' w.heap.size (fun _ => True) v0_ r ∧ Below w.heap.size w w' := by
  have HR0 := Aside0.mk hr0
  have HC0 := Aside0.mk hc0
  clear hr0 hc0
  have HB := Aside0.mk (Below.refl w.heap.size w)
  have H : (orthoepyref02_Text.l0 k l0 ([] : List Int) 0) = some r := h
  clear h
  have H' := Aside0.mk H
  clear H
  go_enter Try.func33, Try.ntmps33
  go_wp2
  go_loopg [3, 4] k (fun kq v3 v4 w' => ∃ (x3_1 : List Int) (x4_1 : Int), v4 = .int .i64 x4_1 ∧ Aside0 (orthoepyref02_Text.l0 kq l0 x3_1 x4_1 = some r) ∧ Aside0 (kq ≤ k) ∧ Aside0 (Kd.R (Kd.int .u8) 5 w' w.heap.size (fun _ => True) v3 x3_1) ∧ Aside0 (Below w.heap.size w w'))
  case atStart => exact ⟨(([] : List Int)), (0), (by first | rfl | (simp; done) | (simp [*]; done)), H', ⟨Nat.le_refl _⟩, ⟨by first | exact Kd.R_nil _ _ _ _ _ | exact Kd.N_nil _ _ _ _ _ | exact Kd.V_nil _ _ _ _ _ | exact Kd.Q_nil _ _ _ _ _ | exact Kd.S_nil _ _ _ _ _⟩, ⟨by repeat (first | (with_reducible first | exact HB.out | apply below_alloc | apply pw_below_drewN | apply below_drew1) | exact HB.out)⟩⟩
  case round =>
    clear H'
    obtain ⟨x3_1, x4_1, rfl, HA, HK1, HO_3, HB⟩ := hrel
    cases gk with
    | zero => exact absurd HA.out (by simp [orthoepyref02_Text.l0])
    | succ k1 =>
      have H := HA.out
      clear HA
      simp only [orthoepyref02_Text.l0] at H
      by_cases c2 : x4_1 < (l0.length : Int)
      · rw [if_pos c2] at H
        have c2b0 : decide (x4_1 < (l0.length : Int)) = true := decide_eq_true c2
        clear c2
        by_cases c3 : 0 ≤ x4_1
        · rw [if_pos c3] at H
          have c3b0 : decide (0 ≤ x4_1) = true := decide_eq_true c3
          clear c3
          replace H := Option.bind_eq_some_iff.mp H
          obtain ⟨t245, A40, H⟩ := H
          replace H : (if x3_1.length + t245.length < 140737488355328 then (orthoepyref02_Text.l0 k1 l0 (x3_1 ++ t245) (wrap64 (x4_1 + 1))) else (none)) = some r := H
          have A4 := Aside0.mk A40
          clear A40
          by_cases c5 : x3_1.length + t245.length < 140737488355328
          · rw [if_pos c5] at H
            have LMc5 := Aside0.mk c5
            clear c5
            obtain ⟨y248, hy248⟩ : ∃ y_ : List Int, y_ = (x3_1 ++ t245) := ⟨_, rfl⟩
            replace H : (orthoepyref02_Text.l0 k1 l0 y248 (wrap64 (x4_1 + 1))) = some r := by first | (rw [hy248]; with_reducible exact H) | (have H2_ := (Option.bind_some _ _).symm.trans H; rw [hy248]; with_reducible exact H2_) | (have H2_ := (Option.bind_some _ _).symm.trans H; with_reducible exact H2_) | with_reducible exact H | (rw [hy248]; exact H) | exact H
            have Ny248 := Aside0.mk hy248
            clear hy248
            have H' := Aside0.mk H
            clear H
            have p244 : 0 ≤ (x4_1 : Int) := of_decide_eq_true (by first | (with_reducible assumption) | assumption)
            have q244 : x4_1 < (l0.length : Int) := of_decide_eq_true (by first | (with_reducible assumption) | assumption)
            obtain ⟨ad244, e244, hx244_0⟩ := Kd.at_int HR0.out x4_1 p244 q244
            cases e244
            replace hx244_0 := (HB.out.cell (World.block_lt_of_cell? w _ hx244_0)).trans hx244_0
            replace p244 := eq_true p244
            replace q244 := eq_true q244
            go_wp2_with (first | ((with_reducible refine gate_callee (f := 39) rfl ?_); refine goesL_ (some 16) rfl rfl Try.func39 (by kernel_rfl) rfl #[.int .i32 (rd l0 x4_1)] rfl (by (try simp only [List.map_toArray, List.map_cons, List.map_nil]); first | done | rfl | (simp only [List.length_drop, List.length_take]; rfl)) ?_; (with_reducible refine (orthoepyref02_Bytes.calls (rd l0 x4_1) t245 _ A4.out).mono ?_); rintro e w6 ⟨v246, rfl, ho0, hb⟩; refine ⟨_, rfl, ?_⟩; have n0_ := Aside0.mk (Kd.R_elder' (by (with_reducible repeat (first | apply Kd.R_alloc | apply Kd.R_drewN | apply Kd.R_drew)); exact HO_3.out) (Kd.R_base ho0) hb); have n1_ := Aside0.mk (Kd.R_lower (Kd.R_new' ho0 (Kd.R_lt (by (with_reducible repeat (first | apply Kd.R_alloc | apply Kd.R_drewN | apply Kd.R_drew)); exact HO_3.out))) (below_size (by repeat (first | (with_reducible first | exact HB.out | apply below_alloc | apply pw_below_drewN | apply below_drew1) | exact HB.out)))); have n2_ := Aside0.mk (below_step (by repeat (first | (with_reducible first | exact HB.out | apply below_alloc | apply pw_below_drewN | apply below_drew1) | exact HB.out)) hb); clear HO_3; clear HB; have HO_3 := n0_; have HO247 := n1_; have HB := n2_; clear n0_ n1_ n2_; (try clear hb); (try clear hb2); (try clear hk); (try clear hi); (try clear ho0); obtain ⟨Ao8, co8, eo8⟩ := Kd.R_slice HO247.out; subst eo8) | ((with_reducible refine gate_builtin (b := .append) (xs := #[.tmp 11, .tmp 16]) rfl ?_); at_builtin; refine Kd.R_append_rows (Kd.int .u8) (w0 := w) w.heap.size rfl (.tmp 11) (.tmp 16) 34 5 (.int .u8 0) 1 rfl Try.underlying34 info5 rfl (by decide) (by omega) u3 x3_1 t245 _ _ _ (fun k_ => some k_ ≠ (.slice Ao8 t245.length co8 : Value).ownBlock) (fun _ => False) rfl rfl ?aO ?aR (fun _ _ h => h) (fun _ h => h.elim) ?aF ?aB ?aS ?aL ?_; (case aR => repeat (first | exact (Kd.R_reads' HO247.out).2.2 | (with_reducible refine Kd.C_alloc ?_ _) | (with_reducible refine Kd.C_drewN ?_ _) | (with_reducible refine Kd.C_drew ?_))); (case aB => exact (by repeat (first | (with_reducible first | exact HB.out | apply below_alloc | apply pw_below_drewN | apply below_drew1) | exact HB.out))); (case aF => exact (fun k_ hk => Kd.fresh' (Kd.R_lt (by (with_reducible repeat (first | apply Kd.R_alloc | apply Kd.R_drewN | apply Kd.R_drew)); exact HO247.out)) k_ hk)); (case aO => exact (by (with_reducible repeat (first | apply Kd.R_alloc | apply Kd.R_drewN | apply Kd.R_drew)); exact Kd.R_mono HO_3.out (fun _ hk => hk.2))); (case aS => exact (below_size (by repeat (first | (with_reducible first | exact HB.out | apply below_alloc | apply pw_below_drewN | apply below_drew1) | exact HB.out)))); (case aL => have := LMc5.out; omega); intro v249 w7 ho hb hg hat; rw [← Ny248.out] at ho; have n0_ := Aside0.mk (Kd.R_after (ok := (fun _ => True)) (by (with_reducible repeat (first | apply Kd.R_alloc | apply Kd.R_drewN | apply Kd.R_drew)); exact HO247.out) hg hat); have n1_ := Aside0.mk (hb); have n2_ := Aside0.mk (ho); clear HO247; clear HB; clear HO_3; have HO247 := n0_; have HB := n1_; have HO250 := n2_; clear n0_ n1_ n2_; clear ho hb hg hat))
            go_roundg k1
            case measure => have := HK1.out; omega
            case rel => exact ⟨(y248), (wrap64 (x4_1 + 1)), (by first | rfl | (simp; done) | (simp [*]; done)), H', ⟨by have := HK1.out; omega⟩, ⟨by (with_reducible repeat (first | apply Kd.R_alloc | apply Kd.R_drewN | apply Kd.R_drew)); exact Kd.R_mono HO250.out (fun _ hk => trivial)⟩, ⟨by repeat (first | (with_reducible first | exact HB.out | apply below_alloc | apply pw_below_drewN | apply below_drew1) | exact HB.out)⟩⟩
          · rw [if_neg c5] at H
            exact absurd H (by simp)
        · rw [if_neg c3] at H
          exact absurd H (by simp)
      · rw [if_neg c2] at H
        have c2b0 : decide (x4_1 < (l0.length : Int)) = false := decide_eq_false c2
        clear c2
        obtain rfl := Option.some.inj H
        go_wp2
        go_ret
        exact ⟨_, by first | rfl | (simp [errW_none, errW_some] <;> rfl) | (simp [*, errW_none, errW_some] <;> rfl), by (with_reducible repeat (first | apply Kd.R_alloc | apply Kd.R_drewN | apply Kd.R_drew)); exact HO_3.out, by repeat (first | (with_reducible first | exact HB.out | apply below_alloc | apply pw_below_drewN | apply below_drew1) | exact HB.out)⟩

/-! ### orthoepylaw00_Str: function 21 -/
mutual
def orthoepylaw00_Str.l0 : Nat → List Int → List Int → Int → Option (ByteArray)
  | 0, _, _, _ => none
  | k + 1, x0, x3, x4 => if x4 < (x0.length : Int) then (orthoepylaw00_Str.j1 k x0 x3 x4 (decide (x4 < 20))) else (orthoepylaw00_Str.j1 k x0 x3 x4 false)
def orthoepylaw00_Str.j1 : Nat → List Int → List Int → Int → Bool → Option (ByteArray)
  | 0, _, _, _, _ => none
  | k + 1, x0, x3, x4, x13 => if x13 = true then (if 0 ≤ x4 then (if x4 < (x0.length : Int) then ((orthoepylaw00_Rune.f (rd x0 x4)).bind fun t255 => ((orthoepyref01_Is.f t255).bind fun t256 => (if t256 = true then ((orthoepyref01_Nonchar.f t255).bind fun t257 => (if t257 = true then (orthoepylaw00_Str.l0 k x0 x3 (wrap64 (x4 + 1))) else (if x3.length < 35184372088832 then (orthoepylaw00_Str.l0 k x0 (x3 ++ [t255]) (wrap64 (x4 + 1))) else (none)))) else (orthoepylaw00_Str.l0 k x0 x3 (wrap64 (x4 + 1)))))) else (none)) else (none)) else ((orthoepyref02_Text.f k x3).bind fun t251 => (some (strOfNums t251)))
end
def orthoepylaw00_Str.f (k : Nat) (l0 : List Int) : Option (ByteArray) := orthoepylaw00_Str.l0 k l0 ([] : List Int) 0
theorem orthoepylaw00_Str.mono_l : ∀ k, (∀ y0 y1 y2, LeO (orthoepylaw00_Str.l0 k y0 y1 y2) (orthoepylaw00_Str.l0 (k + 1) y0 y1 y2)) ∧ (∀ y0 y1 y2 y3, LeO (orthoepylaw00_Str.j1 k y0 y1 y2 y3) (orthoepylaw00_Str.j1 (k + 1) y0 y1 y2 y3))
  | 0 => ⟨fun _ _ _ r h => by simp [orthoepylaw00_Str.l0] at h, fun _ _ _ _ r h => by simp [orthoepylaw00_Str.j1] at h⟩
  | k + 1 => by
    obtain ⟨ih0, ih1⟩ := orthoepylaw00_Str.mono_l k
    refine ⟨?_, ?_⟩
    · intro y0 y1 y2
      unfold orthoepylaw00_Str.l0
      repeat' first
      | (with_reducible exact ih0 _ _ _)
      | (with_reducible exact ih1 _ _ _ _)
      | (with_reducible exact orthoepyref02_Text.mono _ _)
      | (with_reducible exact LeO.refl _)
      | (with_reducible exact LeO.none _)
      | (with_reducible refine LeO.ite ?_ ?_)
      | (with_reducible refine LeO.bind ?_ (fun _ => ?_))
      | exact ih0 _ _ _
      | exact ih1 _ _ _ _
      | exact orthoepyref02_Text.mono _ _
      | exact LeO.none _
      | refine LeO.ite ?_ ?_
      | refine LeO.bind ?_ (fun _ => ?_)
    · intro y0 y1 y2 y3
      unfold orthoepylaw00_Str.j1
      repeat' first
      | (with_reducible exact ih0 _ _ _)
      | (with_reducible exact ih1 _ _ _ _)
      | (with_reducible exact orthoepyref02_Text.mono _ _)
      | (with_reducible exact LeO.refl _)
      | (with_reducible exact LeO.none _)
      | (with_reducible refine LeO.ite ?_ ?_)
      | (with_reducible refine LeO.bind ?_ (fun _ => ?_))
      | exact ih0 _ _ _
      | exact ih1 _ _ _ _
      | exact orthoepyref02_Text.mono _ _
      | exact LeO.none _
      | refine LeO.ite ?_ ?_
      | refine LeO.bind ?_ (fun _ => ?_)
theorem orthoepylaw00_Str.mono : ∀ a0 k, LeO (orthoepylaw00_Str.f k a0) (orthoepylaw00_Str.f (k + 1) a0) := by
  intro a0 k
  obtain ⟨ih0, ih1⟩ := orthoepylaw00_Str.mono_l k
  unfold orthoepylaw00_Str.f
  repeat' first
      | (with_reducible exact ih0 _ _ _)
      | (with_reducible exact ih1 _ _ _ _)
      | (with_reducible exact orthoepyref02_Text.mono _ _)
      | (with_reducible exact LeO.refl _)
      | (with_reducible exact LeO.none _)
      | (with_reducible refine LeO.ite ?_ ?_)
      | (with_reducible refine LeO.bind ?_ (fun _ => ?_))
      | exact ih0 _ _ _
      | exact ih1 _ _ _ _
      | exact orthoepyref02_Text.mono _ _
      | exact LeO.none _
      | refine LeO.ite ?_ ?_
      | refine LeO.bind ?_ (fun _ => ?_)
set_option maxHeartbeats 8000000 in
set_option maxRecDepth 100000 in
theorem orthoepylaw00_Str.calls (k : Nat) (A0 : Option Addr) (c0 : Nat) (l0 : List Int) (r : ByteArray) (w : World) (hr0 : Kd.C (Kd.int .i64) w A0 l0.length l0) (hc0 : l0.length ≤ c0) (h : orthoepylaw00_Str.f k l0 = some r) :
    Calls Try.prog 21 #[.slice A0 l0.length c0] w fun e w' => e = .returned (.string r) ∧ Below w.heap.size w w' := by
  have HR0 := Aside0.mk hr0
  have HC0 := Aside0.mk hc0
  clear hr0 hc0
  have HB := Aside0.mk (Below.refl w.heap.size w)
  have H : (orthoepylaw00_Str.l0 k l0 ([] : List Int) 0) = some r := h
  clear h
  have H' := Aside0.mk H
  clear H
  go_enter Try.func21, Try.ntmps21
  go_wp2
  go_loopg [3, 4] k (fun kq v3 v4 w' => ∃ (x3_1 : List Int) (x4_1 : Int), v4 = .int .i64 x4_1 ∧ Aside0 (orthoepylaw00_Str.l0 kq l0 x3_1 x4_1 = some r) ∧ Aside0 (kq ≤ k) ∧ Aside0 (Kd.R (Kd.int .i32) 21 w' w.heap.size (fun _ => True) v3 x3_1) ∧ Aside0 (Below w.heap.size w w'))
  case atStart => exact ⟨(([] : List Int)), (0), (by first | rfl | (simp; done) | (simp [*]; done)), H', ⟨Nat.le_refl _⟩, ⟨by first | exact Kd.R_nil _ _ _ _ _ | exact Kd.N_nil _ _ _ _ _ | exact Kd.V_nil _ _ _ _ _ | exact Kd.Q_nil _ _ _ _ _ | exact Kd.S_nil _ _ _ _ _⟩, ⟨by repeat (first | (with_reducible first | exact HB.out | apply below_alloc | apply pw_below_drewN | apply below_drew1) | exact HB.out)⟩⟩
  case round =>
    clear H'
    obtain ⟨x3_1, x4_1, rfl, HA, HK1, HO_3, HB⟩ := hrel
    cases gk with
    | zero => exact absurd HA.out (by simp [orthoepylaw00_Str.l0])
    | succ k1 =>
      have H := HA.out
      clear HA
      simp only [orthoepylaw00_Str.l0] at H
      have HC2 := Aside0.mk H
      clear H
      go_upto_region 3 with (fail)
      go_cut [13] (fun v13 wc => ∃ (kq : Nat) (x13_1 : Bool), v13 = .bool x13_1 ∧ Aside0 (orthoepylaw00_Str.j1 kq l0 x3_1 x4_1 x13_1 = some r) ∧ Aside0 (kq ≤ k1) ∧ Aside0 (Kd.R (Kd.int .i32) 21 wc w.heap.size (fun _ => True) u3 x3_1) ∧ Aside0 (Below w.heap.size w wc))
      case first =>
        have H := HC2.out
        clear HC2
        by_cases c3 : x4_1 < (l0.length : Int)
        · rw [if_pos c3] at H
          have c3b0 : decide (x4_1 < (l0.length : Int)) = true := decide_eq_true c3
          clear c3
          (first | rw [c3b0] | (simp only [i64_w, i32_w]; rw [c3b0]) | skip)
          have H' := Aside0.mk H
          clear H
          go_wp2
          go_meet
          case rel => exact ⟨_, (decide (x4_1 < 20)), (by first | rfl | (simp; done) | (simp [*]; done)), H', ⟨by have := HK1.out; first | omega | exact Nat.le_refl _⟩, ⟨by (with_reducible repeat (first | apply Kd.R_alloc | apply Kd.R_drewN | apply Kd.R_drew)); exact HO_3.out⟩, ⟨by repeat (first | (with_reducible first | exact HB.out | apply below_alloc | apply pw_below_drewN | apply below_drew1) | exact HB.out)⟩⟩
        · rw [if_neg c3] at H
          have c3b0 : decide (x4_1 < (l0.length : Int)) = false := decide_eq_false c3
          clear c3
          (first | rw [c3b0] | (simp only [i64_w, i32_w]; rw [c3b0]) | skip)
          have H' := Aside0.mk H
          clear H
          go_wp2
          go_meet
          case rel => exact ⟨_, (false), (by first | rfl | (simp; done) | (simp [*]; done)), H', ⟨by have := HK1.out; first | omega | exact Nat.le_refl _⟩, ⟨by (with_reducible repeat (first | apply Kd.R_alloc | apply Kd.R_drewN | apply Kd.R_drew)); exact HO_3.out⟩, ⟨by repeat (first | (with_reducible first | exact HB.out | apply below_alloc | apply pw_below_drewN | apply below_drew1) | exact HB.out)⟩⟩
      case rest =>
        clear HC2
        try clear c2
        try clear p2
        try clear c3
        try clear c3b0
        obtain ⟨kq, x13_1, rfl, HA, HJ1, HO_3, HB⟩ := hcut
        cases kq with
        | zero => exact absurd HA.out (by simp [orthoepylaw00_Str.j1])
        | succ kj1 =>
          have H := HA.out
          clear HA
          simp only [orthoepylaw00_Str.j1] at H
          by_cases c4 : x13_1 = true
          · subst c4
            have H1 : (if 0 ≤ x4_1 then (if x4_1 < (l0.length : Int) then ((orthoepylaw00_Rune.f (rd l0 x4_1)).bind fun t255 => ((orthoepyref01_Is.f t255).bind fun t256 => (if t256 = true then ((orthoepyref01_Nonchar.f t255).bind fun t257 => (if t257 = true then (orthoepylaw00_Str.l0 kj1 l0 x3_1 (wrap64 (x4_1 + 1))) else (if x3_1.length < 35184372088832 then (orthoepylaw00_Str.l0 kj1 l0 (x3_1 ++ [t255]) (wrap64 (x4_1 + 1))) else (none)))) else (orthoepylaw00_Str.l0 kj1 l0 x3_1 (wrap64 (x4_1 + 1)))))) else (none)) else (none)) = some r := by rw [if_pos rfl] at H; exact H
            clear H
            have H := H1
            clear H1
            by_cases c5 : 0 ≤ x4_1
            · rw [if_pos c5] at H
              have c5b0 : decide (0 ≤ x4_1) = true := decide_eq_true c5
              clear c5
              by_cases c6 : x4_1 < (l0.length : Int)
              · rw [if_pos c6] at H
                have c6b0 : decide (x4_1 < (l0.length : Int)) = true := decide_eq_true c6
                clear c6
                replace H := Option.bind_eq_some_iff.mp H
                obtain ⟨t255, A70, H⟩ := H
                replace H : ((orthoepyref01_Is.f t255).bind fun t256 => (if t256 = true then ((orthoepyref01_Nonchar.f t255).bind fun t257 => (if t257 = true then (orthoepylaw00_Str.l0 kj1 l0 x3_1 (wrap64 (x4_1 + 1))) else (if x3_1.length < 35184372088832 then (orthoepylaw00_Str.l0 kj1 l0 (x3_1 ++ [t255]) (wrap64 (x4_1 + 1))) else (none)))) else (orthoepylaw00_Str.l0 kj1 l0 x3_1 (wrap64 (x4_1 + 1))))) = some r := H
                have A7 := Aside0.mk A70
                clear A70
                replace H := Option.bind_eq_some_iff.mp H
                obtain ⟨t256, A80, H⟩ := H
                replace H : (if t256 = true then ((orthoepyref01_Nonchar.f t255).bind fun t257 => (if t257 = true then (orthoepylaw00_Str.l0 kj1 l0 x3_1 (wrap64 (x4_1 + 1))) else (if x3_1.length < 35184372088832 then (orthoepylaw00_Str.l0 kj1 l0 (x3_1 ++ [t255]) (wrap64 (x4_1 + 1))) else (none)))) else (orthoepylaw00_Str.l0 kj1 l0 x3_1 (wrap64 (x4_1 + 1)))) = some r := H
                have A8 := Aside0.mk A80
                clear A80
                by_cases c9 : t256 = true
                · subst c9
                  have H1 : ((orthoepyref01_Nonchar.f t255).bind fun t257 => (if t257 = true then (orthoepylaw00_Str.l0 kj1 l0 x3_1 (wrap64 (x4_1 + 1))) else (if x3_1.length < 35184372088832 then (orthoepylaw00_Str.l0 kj1 l0 (x3_1 ++ [t255]) (wrap64 (x4_1 + 1))) else (none)))) = some r := by rw [if_pos rfl] at H; exact H
                  clear H
                  have H := H1
                  clear H1
                  replace H := Option.bind_eq_some_iff.mp H
                  obtain ⟨t257, A100, H⟩ := H
                  replace H : (if t257 = true then (orthoepylaw00_Str.l0 kj1 l0 x3_1 (wrap64 (x4_1 + 1))) else (if x3_1.length < 35184372088832 then (orthoepylaw00_Str.l0 kj1 l0 (x3_1 ++ [t255]) (wrap64 (x4_1 + 1))) else (none))) = some r := H
                  have A10 := Aside0.mk A100
                  clear A100
                  by_cases c11 : t257 = true
                  · subst c11
                    have H1 : (orthoepylaw00_Str.l0 kj1 l0 x3_1 (wrap64 (x4_1 + 1))) = some r := by rw [if_pos rfl] at H; exact H
                    clear H
                    have H := H1
                    clear H1
                    have H' := Aside0.mk H
                    clear H
                    have p254 : 0 ≤ (x4_1 : Int) := of_decide_eq_true (by first | (with_reducible assumption) | assumption)
                    have q254 : x4_1 < (l0.length : Int) := of_decide_eq_true (by first | (with_reducible assumption) | assumption)
                    obtain ⟨ad254, e254, hx254_0⟩ := Kd.at_int HR0.out x4_1 p254 q254
                    cases e254
                    replace hx254_0 := (HB.out.cell (World.block_lt_of_cell? w _ hx254_0)).trans hx254_0
                    replace p254 := eq_true p254
                    replace q254 := eq_true q254
                    go_wp2_with (first | ((with_reducible refine gate_callee (f := 30) rfl ?_); refine goesL_ (some 20) rfl rfl Try.func30 (by kernel_rfl) rfl #[.int .i64 (rd l0 x4_1)] rfl (by (try simp only [List.map_toArray, List.map_cons, List.map_nil]); first | done | rfl | (simp only [List.length_drop, List.length_take]; rfl)) ?_; (with_reducible refine (orthoepylaw00_Rune.calls (rd l0 x4_1) t255 _ A7.out).mono ?_); rintro e w' ⟨rfl, ⟨nd, rfl⟩⟩; refine ⟨_, rfl, ?_⟩) | ((with_reducible refine gate_callee (f := 31) rfl ?_); refine goesL_ (some 22) rfl rfl Try.func31 (by kernel_rfl) rfl #[.int .i32 t255] rfl (by (try simp only [List.map_toArray, List.map_cons, List.map_nil]); first | done | rfl | (simp only [List.length_drop, List.length_take]; rfl)) ?_; (with_reducible refine (orthoepyref01_Is.calls t255 true _ A8.out).mono ?_); rintro e w' ⟨rfl, ⟨nd, rfl⟩⟩; refine ⟨_, rfl, ?_⟩) | (go_at_call 32; (with_reducible refine (orthoepyref01_Nonchar.calls t255 true _ A10.out).mono ?_); rintro e w' ⟨rfl, ⟨nd, rfl⟩⟩))
                    go_roundg kj1
                    case measure => have := HK1.out; have := HJ1.out; omega
                    case rel => exact ⟨(x3_1), (wrap64 (x4_1 + 1)), (by first | rfl | (simp; done) | (simp [*]; done)), H', ⟨by have := HK1.out; have := HJ1.out; omega⟩, ⟨by (with_reducible repeat (first | apply Kd.R_alloc | apply Kd.R_drewN | apply Kd.R_drew)); exact HO_3.out⟩, ⟨by repeat (first | (with_reducible first | exact HB.out | apply below_alloc | apply pw_below_drewN | apply below_drew1) | exact HB.out)⟩⟩
                  · replace c11 := Bool.eq_false_iff.mpr c11
                    subst c11
                    have H1 : (if x3_1.length < 35184372088832 then (orthoepylaw00_Str.l0 kj1 l0 (x3_1 ++ [t255]) (wrap64 (x4_1 + 1))) else (none)) = some r := by rw [if_neg (show ¬ (false = true) by decide)] at H; exact H
                    clear H
                    have H := H1
                    clear H1
                    by_cases c12 : x3_1.length < 35184372088832
                    · rw [if_pos c12] at H
                      have LMc12 := Aside0.mk c12
                      clear c12
                      obtain ⟨y258, hy258⟩ : ∃ y_ : List Int, y_ = (x3_1 ++ [t255]) := ⟨_, rfl⟩
                      replace H : (orthoepylaw00_Str.l0 kj1 l0 y258 (wrap64 (x4_1 + 1))) = some r := by first | (rw [hy258]; with_reducible exact H) | (have H2_ := (Option.bind_some _ _).symm.trans H; rw [hy258]; with_reducible exact H2_) | (have H2_ := (Option.bind_some _ _).symm.trans H; with_reducible exact H2_) | with_reducible exact H | (rw [hy258]; exact H) | exact H
                      have Ny258 := Aside0.mk hy258
                      clear hy258
                      have H' := Aside0.mk H
                      clear H
                      have p254 : 0 ≤ (x4_1 : Int) := of_decide_eq_true (by first | (with_reducible assumption) | assumption)
                      have q254 : x4_1 < (l0.length : Int) := of_decide_eq_true (by first | (with_reducible assumption) | assumption)
                      obtain ⟨ad254, e254, hx254_0⟩ := Kd.at_int HR0.out x4_1 p254 q254
                      cases e254
                      replace hx254_0 := (HB.out.cell (World.block_lt_of_cell? w _ hx254_0)).trans hx254_0
                      replace p254 := eq_true p254
                      replace q254 := eq_true q254
                      go_wp2_with (first | ((with_reducible refine gate_callee (f := 30) rfl ?_); refine goesL_ (some 20) rfl rfl Try.func30 (by kernel_rfl) rfl #[.int .i64 (rd l0 x4_1)] rfl (by (try simp only [List.map_toArray, List.map_cons, List.map_nil]); first | done | rfl | (simp only [List.length_drop, List.length_take]; rfl)) ?_; (with_reducible refine (orthoepylaw00_Rune.calls (rd l0 x4_1) t255 _ A7.out).mono ?_); rintro e w' ⟨rfl, ⟨nd, rfl⟩⟩; refine ⟨_, rfl, ?_⟩) | ((with_reducible refine gate_callee (f := 31) rfl ?_); refine goesL_ (some 22) rfl rfl Try.func31 (by kernel_rfl) rfl #[.int .i32 t255] rfl (by (try simp only [List.map_toArray, List.map_cons, List.map_nil]); first | done | rfl | (simp only [List.length_drop, List.length_take]; rfl)) ?_; (with_reducible refine (orthoepyref01_Is.calls t255 true _ A8.out).mono ?_); rintro e w' ⟨rfl, ⟨nd, rfl⟩⟩; refine ⟨_, rfl, ?_⟩) | (go_at_call 32; (with_reducible refine (orthoepyref01_Nonchar.calls t255 false _ A10.out).mono ?_); rintro e w' ⟨rfl, ⟨nd, rfl⟩⟩) | ((with_reducible refine gate_builtin (b := .append) (xs := #[.tmp 28, .tmp 30]) rfl ?_); at_builtin; refine Kd.R_append (Kd.int .i32) (w0 := w) w.heap.size rfl (.tmp 28) (.tmp 30) 39 21 (.int .i32 0) 4 rfl Try.underlying39 info21 rfl (by decide) (by omega) u3 x3_1 t255 [.int .i32 t255] (fun _ => True) (fun _ => False) rfl rfl ?aP (fun _ hk => hk.elim) ?aF ?aO ?aB ?aS ?aL ?_; (case aP => exact rfl); (case aB => exact (by repeat (first | (with_reducible first | exact HB.out | apply below_alloc | apply pw_below_drewN | apply below_drew1) | exact HB.out))); (case aF => exact (fun _ _ => trivial)); (case aO => exact (by (with_reducible repeat (first | apply Kd.R_alloc | apply Kd.R_drewN | apply Kd.R_drew)); exact HO_3.out)); (case aS => exact (below_size (by repeat (first | (with_reducible first | exact HB.out | apply below_alloc | apply pw_below_drewN | apply below_drew1) | exact HB.out)))); (case aL => have := LMc12.out; omega); intro v259 w13 ho hb hg hat; rw [← Ny258.out] at ho; have n0_ := Aside0.mk (hb); have n1_ := Aside0.mk (ho); clear HB; clear HO_3; have HB := n0_; have HO260 := n1_; clear n0_ n1_; clear ho hb hg hat))
                      go_roundg kj1
                      case measure => have := HK1.out; have := HJ1.out; omega
                      case rel => exact ⟨(y258), (wrap64 (x4_1 + 1)), (by first | rfl | (simp; done) | (simp [*]; done)), H', ⟨by have := HK1.out; have := HJ1.out; omega⟩, ⟨by (with_reducible repeat (first | apply Kd.R_alloc | apply Kd.R_drewN | apply Kd.R_drew)); exact HO260.out⟩, ⟨by repeat (first | (with_reducible first | exact HB.out | apply below_alloc | apply pw_below_drewN | apply below_drew1) | exact HB.out)⟩⟩
                    · rw [if_neg c12] at H
                      exact absurd H (by simp)
                · replace c9 := Bool.eq_false_iff.mpr c9
                  subst c9
                  have H1 : (orthoepylaw00_Str.l0 kj1 l0 x3_1 (wrap64 (x4_1 + 1))) = some r := by rw [if_neg (show ¬ (false = true) by decide)] at H; exact H
                  clear H
                  have H := H1
                  clear H1
                  have H' := Aside0.mk H
                  clear H
                  have p254 : 0 ≤ (x4_1 : Int) := of_decide_eq_true (by first | (with_reducible assumption) | assumption)
                  have q254 : x4_1 < (l0.length : Int) := of_decide_eq_true (by first | (with_reducible assumption) | assumption)
                  obtain ⟨ad254, e254, hx254_0⟩ := Kd.at_int HR0.out x4_1 p254 q254
                  cases e254
                  replace hx254_0 := (HB.out.cell (World.block_lt_of_cell? w _ hx254_0)).trans hx254_0
                  replace p254 := eq_true p254
                  replace q254 := eq_true q254
                  go_wp2_with (first | ((with_reducible refine gate_callee (f := 30) rfl ?_); refine goesL_ (some 20) rfl rfl Try.func30 (by kernel_rfl) rfl #[.int .i64 (rd l0 x4_1)] rfl (by (try simp only [List.map_toArray, List.map_cons, List.map_nil]); first | done | rfl | (simp only [List.length_drop, List.length_take]; rfl)) ?_; (with_reducible refine (orthoepylaw00_Rune.calls (rd l0 x4_1) t255 _ A7.out).mono ?_); rintro e w' ⟨rfl, ⟨nd, rfl⟩⟩; refine ⟨_, rfl, ?_⟩) | ((with_reducible refine gate_callee (f := 31) rfl ?_); refine goesL_ (some 22) rfl rfl Try.func31 (by kernel_rfl) rfl #[.int .i32 t255] rfl (by (try simp only [List.map_toArray, List.map_cons, List.map_nil]); first | done | rfl | (simp only [List.length_drop, List.length_take]; rfl)) ?_; (with_reducible refine (orthoepyref01_Is.calls t255 false _ A8.out).mono ?_); rintro e w' ⟨rfl, ⟨nd, rfl⟩⟩; refine ⟨_, rfl, ?_⟩))
                  go_roundg kj1
                  case measure => have := HK1.out; have := HJ1.out; omega
                  case rel => exact ⟨(x3_1), (wrap64 (x4_1 + 1)), (by first | rfl | (simp; done) | (simp [*]; done)), H', ⟨by have := HK1.out; have := HJ1.out; omega⟩, ⟨by (with_reducible repeat (first | apply Kd.R_alloc | apply Kd.R_drewN | apply Kd.R_drew)); exact HO_3.out⟩, ⟨by repeat (first | (with_reducible first | exact HB.out | apply below_alloc | apply pw_below_drewN | apply below_drew1) | exact HB.out)⟩⟩
              · rw [if_neg c6] at H
                exact absurd H (by simp)
            · rw [if_neg c5] at H
              exact absurd H (by simp)
          · replace c4 := Bool.eq_false_iff.mpr c4
            subst c4
            have H1 : ((orthoepyref02_Text.f kj1 x3_1).bind fun t251 => (some (strOfNums t251))) = some r := by rw [if_neg (show ¬ (false = true) by decide)] at H; exact H
            clear H
            have H := H1
            clear H1
            replace H := Option.bind_eq_some_iff.mp H
            obtain ⟨t251, A140, H⟩ := H
            replace H : (some (strOfNums t251)) = some r := H
            have A14 := Aside0.mk A140
            clear A140
            obtain rfl := Option.some.inj H
            obtain ⟨Ao15, co15, eo15⟩ := Kd.R_slice HO_3.out
            subst eo15
            go_wp2_with (first | ((with_reducible refine gate_callee (f := 33) rfl ?_); refine goesL_ (some 33) rfl rfl Try.func33 (by kernel_rfl) rfl #[.slice Ao15 x3_1.length co15] rfl (by (try simp only [List.map_toArray, List.map_cons, List.map_nil]); first | done | rfl | (simp only [List.length_drop, List.length_take]; rfl)) ?_; (with_reducible refine (orthoepyref02_Text.calls kj1 _ _ x3_1 t251 _ ?side1 ?side2 A14.out).mono ?_); (case side1 => repeat (first | exact (Kd.R_reads' HO_3.out).2.2 | (with_reducible refine Kd.C_alloc ?_ _) | (with_reducible refine Kd.C_drewN ?_ _) | (with_reducible refine Kd.C_drew ?_))); (case side2 => exact (Kd.R_reads' HO_3.out).2.1); rintro e w16 ⟨v252, rfl, ho0, hb⟩; refine ⟨_, rfl, ?_⟩; have n0_ := Aside0.mk (Kd.R_below (by (with_reducible repeat (first | apply Kd.R_alloc | apply Kd.R_drewN | apply Kd.R_drew)); exact HO_3.out) hb); have n1_ := Aside0.mk (Kd.R_lower ho0 (below_size (by repeat (first | (with_reducible first | exact HB.out | apply below_alloc | apply pw_below_drewN | apply below_drew1) | exact HB.out)))); have n2_ := Aside0.mk (below_step (by repeat (first | (with_reducible first | exact HB.out | apply below_alloc | apply pw_below_drewN | apply below_drew1) | exact HB.out)) hb); clear HO_3; clear HB; have HO_3 := n0_; have HO253 := n1_; have HB := n2_; clear n0_ n1_ n2_; (try clear hb); (try clear hb2); (try clear hk); (try clear hi); (try clear ho0); have hcv17 := own_string (P := Try.prog) Try.underlying34 Try.underlying5 Try.underlying9 (Kd.own_of_R HO253.out)))
            go_ret
            exact ⟨by first | rfl | (simp [errW_none, errW_some] <;> rfl) | (simp [*, errW_none, errW_some] <;> rfl), by repeat (first | (with_reducible first | exact HB.out | apply below_alloc | apply pw_below_drewN | apply below_drew1) | exact HB.out)⟩

-- NOT PRINTED: function 9 (orthoepylaw21_OrderScalars)

end Go.Proofs.Ytajinnlaajhoeaa.PAll
