-- The machine's side of laws, written by a program of this session (wip/gen/pp.sh). Lean checks it.
import Derived.Test.YtkpeblpgfngjcaaPAllx0
import Derived.Test.YtkpeblpgfngjcaaPAllx2
import Derived.Test.YtkpeblpgfngjcaaPAllx4
namespace Go.Proofs.Ytkpeblpgfngjcaa.PAll
open Go.RowKit Go.Proofs.YtkpeblpgfngjcaaW.PrintWords Go.Proofs.YtkpeblpgfngjcaaW.PrintLast
set_option linter.unusedVariables false
set_option linter.unusedSimpArgs false

/-! ### orthoepyref02_First: function 49 -/
mutual
def orthoepyref02_First.j1 : Nat → List Int → Int → Option (Int × Int × Bool)
  | 0, _, _ => none
  | k + 1, x0, x5 => if x5 < (x0.length : Int) then (if 0 ≤ (wrap64 (x5 + 1)) then (if (wrap64 (x5 + 1)) ≤ (x0.length : Int) then ((orthoepyref02_How.f k (x0.take ((wrap64 (x5 + 1)) : Int).toNat)).bind fun t159 => (if t159 = 2 then ((orthoepyref02_of.f k (x0.take ((wrap64 (x5 + 1)) : Int).toNat)).bind fun t161 => (some (t161, wrap64 (x5 + 1), true))) else (some (0, x5, false)))) else (none)) else (none)) else (some (0, x5, false))
def orthoepyref02_First.l0 : Nat → List Int → Int → Option (Int × Int × Bool)
  | 0, _, _ => none
  | k + 1, x0, x5 => if x5 < (x0.length : Int) then (if 0 ≤ (wrap64 (x5 + 1)) then (if (wrap64 (x5 + 1)) ≤ (x0.length : Int) then ((orthoepyref02_How.f k (x0.take ((wrap64 (x5 + 1)) : Int).toNat)).bind fun t157 => (if t157 = 1 then (orthoepyref02_First.l0 k x0 (wrap64 (x5 + 1))) else (orthoepyref02_First.j1 k x0 x5))) else (none)) else (none)) else (orthoepyref02_First.j1 k x0 x5)
end
def orthoepyref02_First.f (k : Nat) (l0 : List Int) : Option (Int × Int × Bool) := orthoepyref02_First.l0 k l0 0
theorem orthoepyref02_First.mono_l : ∀ k, (∀ y0 y1, LeO (orthoepyref02_First.j1 k y0 y1) (orthoepyref02_First.j1 (k + 1) y0 y1)) ∧ (∀ y0 y1, LeO (orthoepyref02_First.l0 k y0 y1) (orthoepyref02_First.l0 (k + 1) y0 y1))
  | 0 => ⟨fun _ _ r h => by simp [orthoepyref02_First.j1] at h, fun _ _ r h => by simp [orthoepyref02_First.l0] at h⟩
  | k + 1 => by
    obtain ⟨ih0, ih1⟩ := orthoepyref02_First.mono_l k
    refine ⟨?_, ?_⟩
    · intro y0 y1
      unfold orthoepyref02_First.j1
      repeat' first
      | (with_reducible exact ih0 _ _)
      | (with_reducible exact ih1 _ _)
      | (with_reducible exact orthoepyref02_How.mono _ _)
      | (with_reducible exact orthoepyref02_of.mono _ _)
      | (with_reducible exact LeO.refl _)
      | (with_reducible exact LeO.none _)
      | (with_reducible refine LeO.ite ?_ ?_)
      | (with_reducible refine LeO.bind ?_ (fun _ => ?_))
      | exact ih0 _ _
      | exact ih1 _ _
      | exact orthoepyref02_How.mono _ _
      | exact orthoepyref02_of.mono _ _
      | exact LeO.none _
      | refine LeO.ite ?_ ?_
      | refine LeO.bind ?_ (fun _ => ?_)
    · intro y0 y1
      unfold orthoepyref02_First.l0
      repeat' first
      | (with_reducible exact ih0 _ _)
      | (with_reducible exact ih1 _ _)
      | (with_reducible exact orthoepyref02_How.mono _ _)
      | (with_reducible exact orthoepyref02_of.mono _ _)
      | (with_reducible exact LeO.refl _)
      | (with_reducible exact LeO.none _)
      | (with_reducible refine LeO.ite ?_ ?_)
      | (with_reducible refine LeO.bind ?_ (fun _ => ?_))
      | exact ih0 _ _
      | exact ih1 _ _
      | exact orthoepyref02_How.mono _ _
      | exact orthoepyref02_of.mono _ _
      | exact LeO.none _
      | refine LeO.ite ?_ ?_
      | refine LeO.bind ?_ (fun _ => ?_)
theorem orthoepyref02_First.mono : ∀ a0 k, LeO (orthoepyref02_First.f k a0) (orthoepyref02_First.f (k + 1) a0) := by
  intro a0 k
  obtain ⟨ih0, ih1⟩ := orthoepyref02_First.mono_l k
  unfold orthoepyref02_First.f
  repeat' first
      | (with_reducible exact ih0 _ _)
      | (with_reducible exact ih1 _ _)
      | (with_reducible exact orthoepyref02_How.mono _ _)
      | (with_reducible exact orthoepyref02_of.mono _ _)
      | (with_reducible exact LeO.refl _)
      | (with_reducible exact LeO.none _)
      | (with_reducible refine LeO.ite ?_ ?_)
      | (with_reducible refine LeO.bind ?_ (fun _ => ?_))
      | exact ih0 _ _
      | exact ih1 _ _
      | exact orthoepyref02_How.mono _ _
      | exact orthoepyref02_of.mono _ _
      | exact LeO.none _
      | refine LeO.ite ?_ ?_
      | refine LeO.bind ?_ (fun _ => ?_)
set_option maxHeartbeats 8000000 in
set_option maxRecDepth 100000 in
theorem orthoepyref02_First.calls (k : Nat) (A0 : Option Addr) (c0 : Nat) (l0 : List Int) (r1 : Int) (r2 : Int) (r3 : Bool) (w : World) (hr0 : Kd.C (Kd.int .u8) w A0 l0.length l0) (hc0 : l0.length ≤ c0) (h : orthoepyref02_First.f k l0 = some (r1, r2, r3)) :
    Calls Try.prog 49 #[.slice A0 l0.length c0] w fun e w' => e = .returned (.tuple #[.int .i32 r1, .int .i64 r2, .bool r3]) ∧ Drawn0 w w' := by
  have HR0 := Aside0.mk hr0
  have HC0 := Aside0.mk hc0
  clear hr0 hc0
  have H : (orthoepyref02_First.l0 k l0 0) = some (r1, r2, r3) := h
  clear h
  have HC2 := Aside0.mk H
  clear H
  go_enter Try.func49, Try.ntmps49
  go_upto_block 0 with (fail)
  go_cut [5] (fun v5 wc => ∃ (kq : Nat) (x5_1 : Int), v5 = .int .i64 x5_1 ∧ Aside0 (orthoepyref02_First.j1 kq l0 x5_1 = some (r1, r2, r3)) ∧ Aside0 (kq ≤ k) ∧ Drawn0 w wc)
  case first =>
    have H := HC2.out
    clear HC2
    have H' := Aside0.mk H
    clear H
    go_wp2
    go_loopg [5] k (fun kq v5 w' => ∃ (x5_1 : Int), v5 = .int .i64 x5_1 ∧ Aside0 (orthoepyref02_First.l0 kq l0 x5_1 = some (r1, r2, r3)) ∧ Aside0 (kq ≤ k) ∧ Drawn0 w w')
    case atStart => exact ⟨(0), (by first | rfl | (simp; done) | (simp [*]; done)), H', ⟨Nat.le_refl _⟩, by repeat (first | exact Drawn0.refl _ | apply Drawn0.step)⟩
    case round =>
      clear H'
      try clear p2
      obtain ⟨x5_1, rfl, HA, HK1, ⟨m1, rfl⟩⟩ := hrel
      cases gk with
      | zero => exact absurd HA.out (by simp [orthoepyref02_First.l0])
      | succ k1 =>
        have H := HA.out
        clear HA
        simp only [orthoepyref02_First.l0] at H
        by_cases c3 : x5_1 < (l0.length : Int)
        · rw [if_pos c3] at H
          have c3b0 : decide (x5_1 < (l0.length : Int)) = true := decide_eq_true c3
          clear c3
          (first | rw [c3b0] | (simp only [i64_w, i32_w]; rw [c3b0]) | skip)
          obtain ⟨ji4, hji4⟩ : ∃ j_ : Int, (wrap64 (x5_1 + 1)) = j_ := ⟨_, rfl⟩
          replace H : (if 0 ≤ (ji4) then (if (ji4) ≤ (l0.length : Int) then ((orthoepyref02_How.f k1 (l0.take ((ji4) : Int).toNat)).bind fun t157 => (if t157 = 1 then (orthoepyref02_First.l0 k1 l0 ji4) else (orthoepyref02_First.j1 k1 l0 x5_1))) else (none)) else (none)) = some (r1, r2, r3) := by first | (rw [hji4] at H; exact H) | (simp only [hji4] at H ⊢; exact H)
          have hji4w : (IntKind.i64.wrap (x5_1 + 1)) = ji4 := (i64_w _).trans hji4
          by_cases c5 : 0 ≤ (ji4)
          · rw [if_pos c5] at H
            have c5b0 := eq_true c5
            have c5b1 : decide (0 ≤ (ji4)) = true := decide_eq_true c5
            clear c5
            by_cases c6 : (ji4) ≤ (l0.length : Int)
            · rw [if_pos c6] at H
              have c6b0 := eq_true c6
              have c6b1 : decide ((ji4) ≤ (l0.length : Int)) = true := decide_eq_true c6
              clear c6
              replace H := Option.bind_eq_some_iff.mp H
              obtain ⟨t157, A70, H⟩ := H
              replace H : (if t157 = 1 then (orthoepyref02_First.l0 k1 l0 ji4) else (orthoepyref02_First.j1 k1 l0 x5_1)) = some (r1, r2, r3) := H
              have A7 := Aside0.mk A70
              clear A70
              by_cases c8 : t157 = 1
              · rw [if_pos c8] at H
                have c8b0 : (t157 == 1) = true := beq_iff_eq.mpr c8
                have c8b1 : (t157 != 1) = false := bne_eq_false_iff_eq.mpr c8
                clear c8
                have H' := Aside0.mk H
                clear H
                obtain ⟨i09, hi09, _, hsz9, _⟩ := info_parts info5
                obtain ⟨hcut9, hA9, hC9⟩ := print_take_of (P := Try.prog) (Value.int .u8) 0 32 5 .i64 Try.underlying32 hi09 hsz9 A0 c0 l0 (ji4) (of_decide_eq_true (by first | (with_reducible assumption) | assumption)) (of_decide_eq_true (by first | (with_reducible assumption) | assumption)) HC0.out
                have HR156 := Aside0.mk (Kd.C_of_reads (h1 := fun _ => rfl) (hA9 _ (Kd.reads_of_C HR0.out)))
                have HC156 := Aside0.mk hC9
                clear hA9 hC9 hi09 hsz9
                go_wp2_with (first | (go_at_call 65; refine calls_of_args (args' := #[.slice A0 (l0.take ((ji4) : Int).toNat).length c0]) (by first | (rw [show (l0.take ((ji4) : Int).toNat).length = (ji4).toNat from (by rw [List.length_take]; have h_ : ((ji4) : Int) ≤ (l0.length : Int) := of_decide_eq_true (by first | (with_reducible assumption) | assumption); omega)] <;> rfl) | rfl) ?_; (with_reducible refine (orthoepyref02_How.calls k1 _ _ (l0.take ((ji4) : Int).toNat) t157 _ ?side1 ?side2 A7.out).mono ?_); (case side1 => repeat (first | exact HR156.out | (with_reducible refine Kd.C_alloc ?_ _) | (with_reducible refine Kd.C_drewN ?_ _) | (with_reducible refine Kd.C_drew ?_))); (case side2 => exact HC156.out); rintro e w' ⟨rfl, ⟨nd, rfl⟩⟩))
                go_roundg k1
                case measure => have := HK1.out; omega
                case rel => exact ⟨(ji4), (by first | rfl | (simp; done) | (simp only [← hji4] <;> (first | rfl | simp)) | (simp [*]; done)), H', ⟨by have := HK1.out; omega⟩, by repeat (first | exact Drawn0.refl _ | apply Drawn0.step)⟩
              · rw [if_neg c8] at H
                have c8b0 : (t157 == 1) = false := beq_eq_false_iff_ne.mpr c8
                have c8b1 : (t157 != 1) = true := bne_iff_ne.mpr c8
                have H' := Aside0.mk H
                clear H
                obtain ⟨i010, hi010, _, hsz10, _⟩ := info_parts info5
                obtain ⟨hcut10, hA10, hC10⟩ := print_take_of (P := Try.prog) (Value.int .u8) 0 32 5 .i64 Try.underlying32 hi010 hsz10 A0 c0 l0 (ji4) (of_decide_eq_true (by first | (with_reducible assumption) | assumption)) (of_decide_eq_true (by first | (with_reducible assumption) | assumption)) HC0.out
                have HR156 := Aside0.mk (Kd.C_of_reads (h1 := fun _ => rfl) (hA10 _ (Kd.reads_of_C HR0.out)))
                have HC156 := Aside0.mk hC10
                clear hA10 hC10 hi010 hsz10
                go_wp2_with (first | (go_at_call 65; refine calls_of_args (args' := #[.slice A0 (l0.take ((ji4) : Int).toNat).length c0]) (by first | (rw [show (l0.take ((ji4) : Int).toNat).length = (ji4).toNat from (by rw [List.length_take]; have h_ : ((ji4) : Int) ≤ (l0.length : Int) := of_decide_eq_true (by first | (with_reducible assumption) | assumption); omega)] <;> rfl) | rfl) ?_; (with_reducible refine (orthoepyref02_How.calls k1 _ _ (l0.take ((ji4) : Int).toNat) t157 _ ?side1 ?side2 A7.out).mono ?_); (case side1 => repeat (first | exact HR156.out | (with_reducible refine Kd.C_alloc ?_ _) | (with_reducible refine Kd.C_drewN ?_ _) | (with_reducible refine Kd.C_drew ?_))); (case side2 => exact HC156.out); rintro e w' ⟨rfl, ⟨nd, rfl⟩⟩))
                go_meet
                case rel => exact ⟨_, (x5_1), (by first | rfl | (simp; done) | (simp [*]; done)), H', ⟨by have := HK1.out; first | omega | exact Nat.le_refl _⟩, by repeat (first | exact Drawn0.refl _ | apply Drawn0.step)⟩
            · rw [if_neg c6] at H
              exact absurd H (by simp)
          · rw [if_neg c5] at H
            exact absurd H (by simp)
        · rw [if_neg c3] at H
          have c3b0 : decide (x5_1 < (l0.length : Int)) = false := decide_eq_false c3
          clear c3
          (first | rw [c3b0] | (simp only [i64_w, i32_w]; rw [c3b0]) | skip)
          have H' := Aside0.mk H
          clear H
          go_wp2
          go_meet
          case rel => exact ⟨_, (x5_1), (by first | rfl | (simp; done) | (simp [*]; done)), H', ⟨by have := HK1.out; first | omega | exact Nat.le_refl _⟩, by repeat (first | exact Drawn0.refl _ | apply Drawn0.step)⟩
  case rest =>
    clear HC2
    try clear p2
    try clear c3
    try clear c3b0
    try clear c4
    try clear c5
    try clear c5b0
    try clear c5b1
    try clear c6
    try clear c6b0
    try clear c6b1
    try clear p6
    try clear c8
    try clear c8b0
    try clear c8b1
    try clear p2
    obtain ⟨kq, x5_1, rfl, HA, HJ1, ⟨mc1, rfl⟩⟩ := hcut
    cases kq with
    | zero => exact absurd HA.out (by simp [orthoepyref02_First.j1])
    | succ kj1 =>
      have H := HA.out
      clear HA
      simp only [orthoepyref02_First.j1] at H
      by_cases c11 : x5_1 < (l0.length : Int)
      · rw [if_pos c11] at H
        have c11b0 : decide (x5_1 < (l0.length : Int)) = true := decide_eq_true c11
        clear c11
        obtain ⟨ji12, hji12⟩ : ∃ j_ : Int, (wrap64 (x5_1 + 1)) = j_ := ⟨_, rfl⟩
        replace H : (if 0 ≤ (ji12) then (if (ji12) ≤ (l0.length : Int) then ((orthoepyref02_How.f kj1 (l0.take ((ji12) : Int).toNat)).bind fun t159 => (if t159 = 2 then ((orthoepyref02_of.f kj1 (l0.take ((ji12) : Int).toNat)).bind fun t161 => (some (t161, ji12, true))) else (some (0, x5_1, false)))) else (none)) else (none)) = some (r1, r2, r3) := by first | (rw [hji12] at H; exact H) | (simp only [hji12] at H ⊢; exact H)
        have hji12w : (IntKind.i64.wrap (x5_1 + 1)) = ji12 := (i64_w _).trans hji12
        by_cases c13 : 0 ≤ (ji12)
        · rw [if_pos c13] at H
          have c13b0 := eq_true c13
          have c13b1 : decide (0 ≤ (ji12)) = true := decide_eq_true c13
          clear c13
          by_cases c14 : (ji12) ≤ (l0.length : Int)
          · rw [if_pos c14] at H
            have c14b0 := eq_true c14
            have c14b1 : decide ((ji12) ≤ (l0.length : Int)) = true := decide_eq_true c14
            clear c14
            replace H := Option.bind_eq_some_iff.mp H
            obtain ⟨t159, A150, H⟩ := H
            replace H : (if t159 = 2 then ((orthoepyref02_of.f kj1 (l0.take ((ji12) : Int).toNat)).bind fun t161 => (some (t161, ji12, true))) else (some (0, x5_1, false))) = some (r1, r2, r3) := H
            have A15 := Aside0.mk A150
            clear A150
            by_cases c16 : t159 = 2
            · rw [if_pos c16] at H
              have c16b0 : (t159 == 2) = true := beq_iff_eq.mpr c16
              have c16b1 : (t159 != 2) = false := bne_eq_false_iff_eq.mpr c16
              clear c16
              have c17b0 := eq_true (of_decide_eq_true (by first | (with_reducible assumption) | assumption) : 0 ≤ (ji12))
              have c18b0 := eq_true (of_decide_eq_true (by first | (with_reducible assumption) | assumption) : (ji12) ≤ (l0.length : Int))
              replace H := Option.bind_eq_some_iff.mp H
              obtain ⟨t161, A190, H⟩ := H
              replace H : (some (t161, ji12, true)) = some (r1, r2, r3) := H
              have A19 := Aside0.mk A190
              clear A190
              simp only [Option.some.injEq, Prod.mk.injEq] at H
              obtain ⟨rfl, rfl, rfl⟩ := H
              obtain ⟨i020, hi020, _, hsz20, _⟩ := info_parts info5
              obtain ⟨hcut20, hA20, hC20⟩ := print_take_of (P := Try.prog) (Value.int .u8) 0 32 5 .i64 Try.underlying32 hi020 hsz20 A0 c0 l0 (ji12) (of_decide_eq_true (by first | (with_reducible assumption) | assumption)) (of_decide_eq_true (by first | (with_reducible assumption) | assumption)) HC0.out
              have HR158 := Aside0.mk (Kd.C_of_reads (h1 := fun _ => rfl) (hA20 _ (Kd.reads_of_C HR0.out)))
              have HC158 := Aside0.mk hC20
              clear hA20 hC20 hi020 hsz20
              go_wp2_with (first | (go_at_call 65; refine calls_of_args (args' := #[.slice A0 (l0.take ((ji12) : Int).toNat).length c0]) (by first | (rw [show (l0.take ((ji12) : Int).toNat).length = (ji12).toNat from (by rw [List.length_take]; have h_ : ((ji12) : Int) ≤ (l0.length : Int) := of_decide_eq_true (by first | (with_reducible assumption) | assumption); omega)] <;> rfl) | rfl) ?_; (with_reducible refine (orthoepyref02_How.calls kj1 _ _ (l0.take ((ji12) : Int).toNat) t159 _ ?side1 ?side2 A15.out).mono ?_); (case side1 => repeat (first | exact HR158.out | (with_reducible refine Kd.C_alloc ?_ _) | (with_reducible refine Kd.C_drewN ?_ _) | (with_reducible refine Kd.C_drew ?_))); (case side2 => exact HC158.out); rintro e w' ⟨rfl, ⟨nd, rfl⟩⟩; obtain ⟨i021, hi021, _, hsz21, _⟩ := info_parts info5; obtain ⟨hcut21, hA21, hC21⟩ := print_take_of (P := Try.prog) (Value.int .u8) 0 32 5 .i64 Try.underlying32 hi021 hsz21 A0 c0 l0 (ji12) (of_decide_eq_true (by first | (with_reducible assumption) | assumption)) (of_decide_eq_true (by first | (with_reducible assumption) | assumption)) HC0.out; have HR160 := Aside0.mk (Kd.C_of_reads (h1 := fun _ => rfl) (hA21 _ (Kd.reads_of_C HR0.out))); have HC160 := Aside0.mk hC21; clear hA21 hC21 hi021 hsz21) | ((with_reducible refine gate_callee (f := 66) rfl ?_); refine goesL_ (some 36) rfl rfl Try.func66 (by kernel_rfl) rfl #[.slice A0 (l0.take ((ji12) : Int).toNat).length c0] rfl (by (try simp only [List.map_toArray, List.map_cons, List.map_nil]); first | done | (rw [show (l0.take ((ji12) : Int).toNat).length = (ji12).toNat from (by rw [List.length_take]; have h_ : ((ji12) : Int) ≤ (l0.length : Int) := of_decide_eq_true (by first | (with_reducible assumption) | assumption); omega)] <;> rfl) | (simp only [hji12]; rfl) | rfl | (simp only [List.length_drop, List.length_take]; rfl)) ?_; (with_reducible refine (orthoepyref02_of.calls kj1 _ _ (l0.take ((ji12) : Int).toNat) t161 _ ?side1 ?side2 A19.out).mono ?_); (case side1 => repeat (first | exact HR160.out | (with_reducible refine Kd.C_alloc ?_ _) | (with_reducible refine Kd.C_drewN ?_ _) | (with_reducible refine Kd.C_drew ?_))); (case side2 => exact HC160.out); rintro e w' ⟨rfl, ⟨nd, rfl⟩⟩; refine ⟨_, rfl, ?_⟩))
              go_ret3
              exact ⟨by first | rfl | (simp; done) | (simp only [← hji12] <;> (first | rfl | simp)) | (simp [*]; done), by repeat (first | exact Drawn0.refl _ | apply Drawn0.step)⟩
            · rw [if_neg c16] at H
              have c16b0 : (t159 == 2) = false := beq_eq_false_iff_ne.mpr c16
              have c16b1 : (t159 != 2) = true := bne_iff_ne.mpr c16
              simp only [Option.some.injEq, Prod.mk.injEq] at H
              obtain ⟨rfl, rfl, rfl⟩ := H
              obtain ⟨i022, hi022, _, hsz22, _⟩ := info_parts info5
              obtain ⟨hcut22, hA22, hC22⟩ := print_take_of (P := Try.prog) (Value.int .u8) 0 32 5 .i64 Try.underlying32 hi022 hsz22 A0 c0 l0 (ji12) (of_decide_eq_true (by first | (with_reducible assumption) | assumption)) (of_decide_eq_true (by first | (with_reducible assumption) | assumption)) HC0.out
              have HR158 := Aside0.mk (Kd.C_of_reads (h1 := fun _ => rfl) (hA22 _ (Kd.reads_of_C HR0.out)))
              have HC158 := Aside0.mk hC22
              clear hA22 hC22 hi022 hsz22
              go_wp2_with (first | (go_at_call 65; refine calls_of_args (args' := #[.slice A0 (l0.take ((ji12) : Int).toNat).length c0]) (by first | (rw [show (l0.take ((ji12) : Int).toNat).length = (ji12).toNat from (by rw [List.length_take]; have h_ : ((ji12) : Int) ≤ (l0.length : Int) := of_decide_eq_true (by first | (with_reducible assumption) | assumption); omega)] <;> rfl) | rfl) ?_; (with_reducible refine (orthoepyref02_How.calls kj1 _ _ (l0.take ((ji12) : Int).toNat) t159 _ ?side1 ?side2 A15.out).mono ?_); (case side1 => repeat (first | exact HR158.out | (with_reducible refine Kd.C_alloc ?_ _) | (with_reducible refine Kd.C_drewN ?_ _) | (with_reducible refine Kd.C_drew ?_))); (case side2 => exact HC158.out); rintro e w' ⟨rfl, ⟨nd, rfl⟩⟩))
              go_ret3
              exact ⟨by first | rfl | (simp; done) | (simp only [← hji12] <;> (first | rfl | simp)) | (simp [*]; done), by repeat (first | exact Drawn0.refl _ | apply Drawn0.step)⟩
          · rw [if_neg c14] at H
            exact absurd H (by simp)
        · rw [if_neg c13] at H
          exact absurd H (by simp)
      · rw [if_neg c11] at H
        have c11b0 : decide (x5_1 < (l0.length : Int)) = false := decide_eq_false c11
        clear c11
        simp only [Option.some.injEq, Prod.mk.injEq] at H
        obtain ⟨rfl, rfl, rfl⟩ := H
        go_wp2
        go_ret3
        exact ⟨by first | rfl | (simp; done) | (simp [*]; done), by repeat (first | exact Drawn0.refl _ | apply Drawn0.step)⟩

-- NOT PRINTED: function 48 (orthoepyref12_Str_bytes)

-- NOT PRINTED: function 29 (orthoepyref12_Str_Push)

/-! ### orthoepyref02_Bytes: function 24 -/
def orthoepyref02_Bytes.f (a0 : Int) : Option (List Int) := (orthoepyref01_Is.f a0).bind fun t172 => (if t172 = true then (if a0 < 128 then (some (([(a0) % 256] : List Int))) else (if a0 < 2048 then (some (([(wrap32 (192 + (wrap32 (Int.tdiv a0 64)))) % 256, (wrap32 (128 + (Int.tmod a0 64))) % 256] : List Int))) else (if a0 < 65536 then (some (([(wrap32 (224 + (wrap32 (Int.tdiv a0 4096)))) % 256, (wrap32 (128 + (Int.tmod (wrap32 (Int.tdiv a0 64)) 64))) % 256, (wrap32 (128 + (Int.tmod a0 64))) % 256] : List Int))) else (some (([(wrap32 (240 + (wrap32 (Int.tdiv a0 262144)))) % 256, (wrap32 (128 + (Int.tmod (wrap32 (Int.tdiv a0 4096)) 64))) % 256, (wrap32 (128 + (Int.tmod (wrap32 (Int.tdiv a0 64)) 64))) % 256, (wrap32 (128 + (Int.tmod a0 64))) % 256] : List Int)))))) else (some ([] : List Int)))
set_option maxHeartbeats 8000000 in
set_option maxRecDepth 100000 in
theorem orthoepyref02_Bytes.calls (a0 : Int) (r : List Int) (w : World) (h : orthoepyref02_Bytes.f a0 = some r) :
    Calls Try.prog 24 #[.int .i32 a0] w fun e w' => ∃ v0_ : Value, e = .returned (v0_) ∧ Kd.R (Kd.int .u8) 5 w' w.heap.size (fun _ => True) v0_ r ∧ Below w.heap.size w w' := by
  have HB := Aside0.mk (Below.refl w.heap.size w)
  have H : ((orthoepyref01_Is.f a0).bind fun t172 => (if t172 = true then (if a0 < 128 then (some (([(a0) % 256] : List Int))) else (if a0 < 2048 then (some (([(wrap32 (192 + (wrap32 (Int.tdiv a0 64)))) % 256, (wrap32 (128 + (Int.tmod a0 64))) % 256] : List Int))) else (if a0 < 65536 then (some (([(wrap32 (224 + (wrap32 (Int.tdiv a0 4096)))) % 256, (wrap32 (128 + (Int.tmod (wrap32 (Int.tdiv a0 64)) 64))) % 256, (wrap32 (128 + (Int.tmod a0 64))) % 256] : List Int))) else (some (([(wrap32 (240 + (wrap32 (Int.tdiv a0 262144)))) % 256, (wrap32 (128 + (Int.tmod (wrap32 (Int.tdiv a0 4096)) 64))) % 256, (wrap32 (128 + (Int.tmod (wrap32 (Int.tdiv a0 64)) 64))) % 256, (wrap32 (128 + (Int.tmod a0 64))) % 256] : List Int)))))) else (some ([] : List Int)))) = some r := h
  clear h
  replace H := Option.bind_eq_some_iff.mp H
  obtain ⟨t172, A20, H⟩ := H
  replace H : (if t172 = true then (if a0 < 128 then (some (([(a0) % 256] : List Int))) else (if a0 < 2048 then (some (([(wrap32 (192 + (wrap32 (Int.tdiv a0 64)))) % 256, (wrap32 (128 + (Int.tmod a0 64))) % 256] : List Int))) else (if a0 < 65536 then (some (([(wrap32 (224 + (wrap32 (Int.tdiv a0 4096)))) % 256, (wrap32 (128 + (Int.tmod (wrap32 (Int.tdiv a0 64)) 64))) % 256, (wrap32 (128 + (Int.tmod a0 64))) % 256] : List Int))) else (some (([(wrap32 (240 + (wrap32 (Int.tdiv a0 262144)))) % 256, (wrap32 (128 + (Int.tmod (wrap32 (Int.tdiv a0 4096)) 64))) % 256, (wrap32 (128 + (Int.tmod (wrap32 (Int.tdiv a0 64)) 64))) % 256, (wrap32 (128 + (Int.tmod a0 64))) % 256] : List Int)))))) else (some ([] : List Int))) = some r := H
  have A2 := Aside0.mk A20
  clear A20
  by_cases c3 : t172 = true
  · subst c3
    have H1 : (if a0 < 128 then (some (([(a0) % 256] : List Int))) else (if a0 < 2048 then (some (([(wrap32 (192 + (wrap32 (Int.tdiv a0 64)))) % 256, (wrap32 (128 + (Int.tmod a0 64))) % 256] : List Int))) else (if a0 < 65536 then (some (([(wrap32 (224 + (wrap32 (Int.tdiv a0 4096)))) % 256, (wrap32 (128 + (Int.tmod (wrap32 (Int.tdiv a0 64)) 64))) % 256, (wrap32 (128 + (Int.tmod a0 64))) % 256] : List Int))) else (some (([(wrap32 (240 + (wrap32 (Int.tdiv a0 262144)))) % 256, (wrap32 (128 + (Int.tmod (wrap32 (Int.tdiv a0 4096)) 64))) % 256, (wrap32 (128 + (Int.tmod (wrap32 (Int.tdiv a0 64)) 64))) % 256, (wrap32 (128 + (Int.tmod a0 64))) % 256] : List Int)))))) = some r := by rw [if_pos rfl] at H; exact H
    clear H
    have H := H1
    clear H1
    by_cases c4 : a0 < 128
    · rw [if_pos c4] at H
      have c4b0 : decide (a0 < 128) = true := decide_eq_true c4
      clear c4
      obtain ⟨y173, hy173⟩ : ∃ y_ : List Int, y_ = (([(a0) % 256] : List Int)) := ⟨_, rfl⟩
      replace H : (some y173) = some r := by first | (rw [hy173]; with_reducible exact H) | (have H2_ := (Option.bind_some _ _).symm.trans H; rw [hy173]; with_reducible exact H2_) | (have H2_ := (Option.bind_some _ _).symm.trans H; with_reducible exact H2_) | with_reducible exact H | (rw [hy173]; exact H) | exact H
      have Ny173 := Aside0.mk hy173
      clear hy173
      obtain rfl := Option.some.inj H
      go_enter Try.func24, Try.ntmps24
      go_wp2_with (first | ((with_reducible refine gate_callee (f := 23) rfl ?_); refine goesL_ (some 5) rfl rfl Try.func23 (by kernel_rfl) rfl #[.int .i32 a0] rfl (by (try simp only [List.map_toArray, List.map_cons, List.map_nil]); first | done | rfl | (simp only [List.length_drop, List.length_take]; rfl)) ?_; (with_reducible refine (orthoepyref01_Is.calls a0 true _ A2.out).mono ?_); rintro e w' ⟨rfl, ⟨nd, rfl⟩⟩; refine ⟨_, rfl, ?_⟩) | ((with_reducible refine gate_dst (N := 12) rfl ?_); refine Kd.R_lit (Kd.int .u8) _ 5 ?hg (N := 12) ?hd (xs := ([(a0) % 256] : List Int)) (inner := [.int .u8 ((a0) % 256)]) (ok := fun _ => True) (okp := fun _ => True) ?hr ?hp (fun _ hk => hk) trivial (Below.refl _ _) (Nat.le_refl _) (by simp) ?_; (case hd => rfl); (case hg => rfl); (case hr => first | (go_simp; done) | (go_simp; rfl)); (case hp => exact (Reps.one (show Kd.M (Kd.int .u8) _ _ _ ((a0) % 256) [.int .u8 ((a0) % 256)] from rfl) (Reps.none _ _))); intro v174 w5 ho6 hb hg_ hnew_; clear hg_ hnew_; (first | rw [← Ny173.out] at ho6 | (simp only [Int.reduceToNat] at ho6; rw [← Ny173.out] at ho6)); have n0_ := Aside0.mk (Kd.R_lower ho6 (below_size (by repeat (first | (with_reducible first | exact HB.out | apply below_alloc | apply pw_below_drewN | apply below_drew1) | exact HB.out)))); have n1_ := Aside0.mk (below_step (by repeat (first | (with_reducible first | exact HB.out | apply below_alloc | apply pw_below_drewN | apply below_drew1) | exact HB.out)) hb); clear HB; have HO175 := n0_; have HB := n1_; clear n0_ n1_; clear hb ho6))
      go_ret
      exact ⟨_, by first | rfl | (simp [errW_none, errW_some] <;> rfl) | (simp [*, errW_none, errW_some] <;> rfl), by (with_reducible repeat (first | apply Kd.R_alloc | apply Kd.R_drewN | apply Kd.R_drew)); exact HO175.out, by repeat (first | (with_reducible first | exact HB.out | apply below_alloc | apply pw_below_drewN | apply below_drew1) | exact HB.out)⟩
    · rw [if_neg c4] at H
      have c4b0 : decide (a0 < 128) = false := decide_eq_false c4
      clear c4
      by_cases c7 : a0 < 2048
      · rw [if_pos c7] at H
        have c7b0 : decide (a0 < 2048) = true := decide_eq_true c7
        clear c7
        obtain ⟨y176, hy176⟩ : ∃ y_ : List Int, y_ = (([(wrap32 (192 + (wrap32 (Int.tdiv a0 64)))) % 256, (wrap32 (128 + (Int.tmod a0 64))) % 256] : List Int)) := ⟨_, rfl⟩
        replace H : (some y176) = some r := by first | (rw [hy176]; with_reducible exact H) | (have H2_ := (Option.bind_some _ _).symm.trans H; rw [hy176]; with_reducible exact H2_) | (have H2_ := (Option.bind_some _ _).symm.trans H; with_reducible exact H2_) | with_reducible exact H | (rw [hy176]; exact H) | exact H
        have Ny176 := Aside0.mk hy176
        clear hy176
        obtain rfl := Option.some.inj H
        go_enter Try.func24, Try.ntmps24
        go_wp2_with (first | ((with_reducible refine gate_callee (f := 23) rfl ?_); refine goesL_ (some 5) rfl rfl Try.func23 (by kernel_rfl) rfl #[.int .i32 a0] rfl (by (try simp only [List.map_toArray, List.map_cons, List.map_nil]); first | done | rfl | (simp only [List.length_drop, List.length_take]; rfl)) ?_; (with_reducible refine (orthoepyref01_Is.calls a0 true _ A2.out).mono ?_); rintro e w' ⟨rfl, ⟨nd, rfl⟩⟩; refine ⟨_, rfl, ?_⟩) | ((with_reducible refine gate_dst (N := 24) rfl ?_); refine Kd.R_lit (Kd.int .u8) _ 5 ?hg (N := 24) ?hd (xs := ([(wrap32 (192 + (wrap32 (Int.tdiv a0 64)))) % 256, (wrap32 (128 + (Int.tmod a0 64))) % 256] : List Int)) (inner := [.int .u8 ((wrap32 (192 + (wrap32 (Int.tdiv a0 64)))) % 256), .int .u8 ((wrap32 (128 + (Int.tmod a0 64))) % 256)]) (ok := fun _ => True) (okp := fun _ => True) ?hr ?hp (fun _ hk => hk) trivial (Below.refl _ _) (Nat.le_refl _) (by simp) ?_; (case hd => rfl); (case hg => rfl); (case hr => first | (go_simp; done) | (go_simp; rfl)); (case hp => exact (Reps.one (show Kd.M (Kd.int .u8) _ _ _ ((wrap32 (192 + (wrap32 (Int.tdiv a0 64)))) % 256) [.int .u8 ((wrap32 (192 + (wrap32 (Int.tdiv a0 64)))) % 256)] from rfl) (Reps.one (show Kd.M (Kd.int .u8) _ _ _ ((wrap32 (128 + (Int.tmod a0 64))) % 256) [.int .u8 ((wrap32 (128 + (Int.tmod a0 64))) % 256)] from rfl) (Reps.none _ _)))); intro v177 w8 ho9 hb hg_ hnew_; clear hg_ hnew_; (first | rw [← Ny176.out] at ho9 | (simp only [Int.reduceToNat] at ho9; rw [← Ny176.out] at ho9)); have n0_ := Aside0.mk (Kd.R_lower ho9 (below_size (by repeat (first | (with_reducible first | exact HB.out | apply below_alloc | apply pw_below_drewN | apply below_drew1) | exact HB.out)))); have n1_ := Aside0.mk (below_step (by repeat (first | (with_reducible first | exact HB.out | apply below_alloc | apply pw_below_drewN | apply below_drew1) | exact HB.out)) hb); clear HB; have HO178 := n0_; have HB := n1_; clear n0_ n1_; clear hb ho9))
        go_ret
        exact ⟨_, by first | rfl | (simp [errW_none, errW_some] <;> rfl) | (simp [*, errW_none, errW_some] <;> rfl), by (with_reducible repeat (first | apply Kd.R_alloc | apply Kd.R_drewN | apply Kd.R_drew)); exact HO178.out, by repeat (first | (with_reducible first | exact HB.out | apply below_alloc | apply pw_below_drewN | apply below_drew1) | exact HB.out)⟩
      · rw [if_neg c7] at H
        have c7b0 : decide (a0 < 2048) = false := decide_eq_false c7
        clear c7
        by_cases c10 : a0 < 65536
        · rw [if_pos c10] at H
          have c10b0 : decide (a0 < 65536) = true := decide_eq_true c10
          clear c10
          obtain ⟨y179, hy179⟩ : ∃ y_ : List Int, y_ = (([(wrap32 (224 + (wrap32 (Int.tdiv a0 4096)))) % 256, (wrap32 (128 + (Int.tmod (wrap32 (Int.tdiv a0 64)) 64))) % 256, (wrap32 (128 + (Int.tmod a0 64))) % 256] : List Int)) := ⟨_, rfl⟩
          replace H : (some y179) = some r := by first | (rw [hy179]; with_reducible exact H) | (have H2_ := (Option.bind_some _ _).symm.trans H; rw [hy179]; with_reducible exact H2_) | (have H2_ := (Option.bind_some _ _).symm.trans H; with_reducible exact H2_) | with_reducible exact H | (rw [hy179]; exact H) | exact H
          have Ny179 := Aside0.mk hy179
          clear hy179
          obtain rfl := Option.some.inj H
          go_enter Try.func24, Try.ntmps24
          go_wp2_with (first | ((with_reducible refine gate_callee (f := 23) rfl ?_); refine goesL_ (some 5) rfl rfl Try.func23 (by kernel_rfl) rfl #[.int .i32 a0] rfl (by (try simp only [List.map_toArray, List.map_cons, List.map_nil]); first | done | rfl | (simp only [List.length_drop, List.length_take]; rfl)) ?_; (with_reducible refine (orthoepyref01_Is.calls a0 true _ A2.out).mono ?_); rintro e w' ⟨rfl, ⟨nd, rfl⟩⟩; refine ⟨_, rfl, ?_⟩) | ((with_reducible refine gate_dst (N := 41) rfl ?_); refine Kd.R_lit (Kd.int .u8) _ 5 ?hg (N := 41) ?hd (xs := ([(wrap32 (224 + (wrap32 (Int.tdiv a0 4096)))) % 256, (wrap32 (128 + (Int.tmod (wrap32 (Int.tdiv a0 64)) 64))) % 256, (wrap32 (128 + (Int.tmod a0 64))) % 256] : List Int)) (inner := [.int .u8 ((wrap32 (224 + (wrap32 (Int.tdiv a0 4096)))) % 256), .int .u8 ((wrap32 (128 + (Int.tmod (wrap32 (Int.tdiv a0 64)) 64))) % 256), .int .u8 ((wrap32 (128 + (Int.tmod a0 64))) % 256)]) (ok := fun _ => True) (okp := fun _ => True) ?hr ?hp (fun _ hk => hk) trivial (Below.refl _ _) (Nat.le_refl _) (by simp) ?_; (case hd => rfl); (case hg => rfl); (case hr => first | (go_simp; done) | (go_simp; rfl)); (case hp => exact (Reps.one (show Kd.M (Kd.int .u8) _ _ _ ((wrap32 (224 + (wrap32 (Int.tdiv a0 4096)))) % 256) [.int .u8 ((wrap32 (224 + (wrap32 (Int.tdiv a0 4096)))) % 256)] from rfl) (Reps.one (show Kd.M (Kd.int .u8) _ _ _ ((wrap32 (128 + (Int.tmod (wrap32 (Int.tdiv a0 64)) 64))) % 256) [.int .u8 ((wrap32 (128 + (Int.tmod (wrap32 (Int.tdiv a0 64)) 64))) % 256)] from rfl) (Reps.one (show Kd.M (Kd.int .u8) _ _ _ ((wrap32 (128 + (Int.tmod a0 64))) % 256) [.int .u8 ((wrap32 (128 + (Int.tmod a0 64))) % 256)] from rfl) (Reps.none _ _))))); intro v180 w11 ho12 hb hg_ hnew_; clear hg_ hnew_; (first | rw [← Ny179.out] at ho12 | (simp only [Int.reduceToNat] at ho12; rw [← Ny179.out] at ho12)); have n0_ := Aside0.mk (Kd.R_lower ho12 (below_size (by repeat (first | (with_reducible first | exact HB.out | apply below_alloc | apply pw_below_drewN | apply below_drew1) | exact HB.out)))); have n1_ := Aside0.mk (below_step (by repeat (first | (with_reducible first | exact HB.out | apply below_alloc | apply pw_below_drewN | apply below_drew1) | exact HB.out)) hb); clear HB; have HO181 := n0_; have HB := n1_; clear n0_ n1_; clear hb ho12))
          go_ret
          exact ⟨_, by first | rfl | (simp [errW_none, errW_some] <;> rfl) | (simp [*, errW_none, errW_some] <;> rfl), by (with_reducible repeat (first | apply Kd.R_alloc | apply Kd.R_drewN | apply Kd.R_drew)); exact HO181.out, by repeat (first | (with_reducible first | exact HB.out | apply below_alloc | apply pw_below_drewN | apply below_drew1) | exact HB.out)⟩
        · rw [if_neg c10] at H
          have c10b0 : decide (a0 < 65536) = false := decide_eq_false c10
          clear c10
          obtain ⟨y182, hy182⟩ : ∃ y_ : List Int, y_ = (([(wrap32 (240 + (wrap32 (Int.tdiv a0 262144)))) % 256, (wrap32 (128 + (Int.tmod (wrap32 (Int.tdiv a0 4096)) 64))) % 256, (wrap32 (128 + (Int.tmod (wrap32 (Int.tdiv a0 64)) 64))) % 256, (wrap32 (128 + (Int.tmod a0 64))) % 256] : List Int)) := ⟨_, rfl⟩
          replace H : (some y182) = some r := by first | (rw [hy182]; with_reducible exact H) | (have H2_ := (Option.bind_some _ _).symm.trans H; rw [hy182]; with_reducible exact H2_) | (have H2_ := (Option.bind_some _ _).symm.trans H; with_reducible exact H2_) | with_reducible exact H | (rw [hy182]; exact H) | exact H
          have Ny182 := Aside0.mk hy182
          clear hy182
          obtain rfl := Option.some.inj H
          go_enter Try.func24, Try.ntmps24
          go_wp2_with (first | ((with_reducible refine gate_callee (f := 23) rfl ?_); refine goesL_ (some 5) rfl rfl Try.func23 (by kernel_rfl) rfl #[.int .i32 a0] rfl (by (try simp only [List.map_toArray, List.map_cons, List.map_nil]); first | done | rfl | (simp only [List.length_drop, List.length_take]; rfl)) ?_; (with_reducible refine (orthoepyref01_Is.calls a0 true _ A2.out).mono ?_); rintro e w' ⟨rfl, ⟨nd, rfl⟩⟩; refine ⟨_, rfl, ?_⟩) | ((with_reducible refine gate_dst (N := 60) rfl ?_); refine Kd.R_lit (Kd.int .u8) _ 5 ?hg (N := 60) ?hd (xs := ([(wrap32 (240 + (wrap32 (Int.tdiv a0 262144)))) % 256, (wrap32 (128 + (Int.tmod (wrap32 (Int.tdiv a0 4096)) 64))) % 256, (wrap32 (128 + (Int.tmod (wrap32 (Int.tdiv a0 64)) 64))) % 256, (wrap32 (128 + (Int.tmod a0 64))) % 256] : List Int)) (inner := [.int .u8 ((wrap32 (240 + (wrap32 (Int.tdiv a0 262144)))) % 256), .int .u8 ((wrap32 (128 + (Int.tmod (wrap32 (Int.tdiv a0 4096)) 64))) % 256), .int .u8 ((wrap32 (128 + (Int.tmod (wrap32 (Int.tdiv a0 64)) 64))) % 256), .int .u8 ((wrap32 (128 + (Int.tmod a0 64))) % 256)]) (ok := fun _ => True) (okp := fun _ => True) ?hr ?hp (fun _ hk => hk) trivial (Below.refl _ _) (Nat.le_refl _) (by simp) ?_; (case hd => rfl); (case hg => rfl); (case hr => first | (go_simp; done) | (go_simp; rfl)); (case hp => exact (Reps.one (show Kd.M (Kd.int .u8) _ _ _ ((wrap32 (240 + (wrap32 (Int.tdiv a0 262144)))) % 256) [.int .u8 ((wrap32 (240 + (wrap32 (Int.tdiv a0 262144)))) % 256)] from rfl) (Reps.one (show Kd.M (Kd.int .u8) _ _ _ ((wrap32 (128 + (Int.tmod (wrap32 (Int.tdiv a0 4096)) 64))) % 256) [.int .u8 ((wrap32 (128 + (Int.tmod (wrap32 (Int.tdiv a0 4096)) 64))) % 256)] from rfl) (Reps.one (show Kd.M (Kd.int .u8) _ _ _ ((wrap32 (128 + (Int.tmod (wrap32 (Int.tdiv a0 64)) 64))) % 256) [.int .u8 ((wrap32 (128 + (Int.tmod (wrap32 (Int.tdiv a0 64)) 64))) % 256)] from rfl) (Reps.one (show Kd.M (Kd.int .u8) _ _ _ ((wrap32 (128 + (Int.tmod a0 64))) % 256) [.int .u8 ((wrap32 (128 + (Int.tmod a0 64))) % 256)] from rfl) (Reps.none _ _)))))); intro v183 w13 ho14 hb hg_ hnew_; clear hg_ hnew_; (first | rw [← Ny182.out] at ho14 | (simp only [Int.reduceToNat] at ho14; rw [← Ny182.out] at ho14)); have n0_ := Aside0.mk (Kd.R_lower ho14 (below_size (by repeat (first | (with_reducible first | exact HB.out | apply below_alloc | apply pw_below_drewN | apply below_drew1) | exact HB.out)))); have n1_ := Aside0.mk (below_step (by repeat (first | (with_reducible first | exact HB.out | apply below_alloc | apply pw_below_drewN | apply below_drew1) | exact HB.out)) hb); clear HB; have HO184 := n0_; have HB := n1_; clear n0_ n1_; clear hb ho14))
          go_ret
          exact ⟨_, by first | rfl | (simp [errW_none, errW_some] <;> rfl) | (simp [*, errW_none, errW_some] <;> rfl), by (with_reducible repeat (first | apply Kd.R_alloc | apply Kd.R_drewN | apply Kd.R_drew)); exact HO184.out, by repeat (first | (with_reducible first | exact HB.out | apply below_alloc | apply pw_below_drewN | apply below_drew1) | exact HB.out)⟩
  · replace c3 := Bool.eq_false_iff.mpr c3
    subst c3
    have H1 : (some ([] : List Int)) = some r := by rw [if_neg (show ¬ (false = true) by decide)] at H; exact H
    clear H
    have H := H1
    clear H1
    obtain rfl := Option.some.inj H
    go_enter Try.func24, Try.ntmps24
    go_wp2_with (first | ((with_reducible refine gate_callee (f := 23) rfl ?_); refine goesL_ (some 5) rfl rfl Try.func23 (by kernel_rfl) rfl #[.int .i32 a0] rfl (by (try simp only [List.map_toArray, List.map_cons, List.map_nil]); first | done | rfl | (simp only [List.length_drop, List.length_take]; rfl)) ?_; (with_reducible refine (orthoepyref01_Is.calls a0 false _ A2.out).mono ?_); rintro e w' ⟨rfl, ⟨nd, rfl⟩⟩; refine ⟨_, rfl, ?_⟩))
    go_ret
    exact ⟨_, by first | rfl | (simp [errW_none, errW_some] <;> rfl) | (simp [*, errW_none, errW_some] <;> rfl), by first | exact Kd.R_nil _ _ _ _ _ | exact Kd.N_nil _ _ _ _ _ | exact Kd.V_nil _ _ _ _ _ | exact Kd.Q_nil _ _ _ _ _ | exact Kd.S_nil _ _ _ _ _, by repeat (first | (with_reducible first | exact HB.out | apply below_alloc | apply pw_below_drewN | apply below_drew1) | exact HB.out)⟩

/-! ### orthoepyref02_Text: function 18 -/
def orthoepyref02_Text.l0 : Nat → List Int → List Int → Int → Option (List Int)
  | 0, _, _, _ => none
  | k + 1, x0, x3, x4 => if x4 < (x0.length : Int) then (if 0 ≤ x4 then ((orthoepyref02_Bytes.f (rd x0 x4)).bind fun t186 => (if x3.length + t186.length < 140737488355328 then (orthoepyref02_Text.l0 k x0 (x3 ++ t186) (wrap64 (x4 + 1))) else (none))) else (none)) else (some x3)
def orthoepyref02_Text.f (k : Nat) (l0 : List Int) : Option (List Int) := orthoepyref02_Text.l0 k l0 ([] : List Int) 0
theorem orthoepyref02_Text.mono_l : ∀ k, (∀ y0 y1 y2, LeO (orthoepyref02_Text.l0 k y0 y1 y2) (orthoepyref02_Text.l0 (k + 1) y0 y1 y2))
  | 0 => fun _ _ _ r h => by simp [orthoepyref02_Text.l0] at h
  | k + 1 => by
    have ih0 := orthoepyref02_Text.mono_l k
    · intro y0 y1 y2
      unfold orthoepyref02_Text.l0
      repeat' first
      | (with_reducible exact ih0 _ _ _)
      | (with_reducible exact LeO.refl _)
      | (with_reducible exact LeO.none _)
      | (with_reducible refine LeO.ite ?_ ?_)
      | (with_reducible refine LeO.bind ?_ (fun _ => ?_))
      | exact ih0 _ _ _
      | exact LeO.none _
      | refine LeO.ite ?_ ?_
      | refine LeO.bind ?_ (fun _ => ?_)
theorem orthoepyref02_Text.mono : ∀ a0 k, LeO (orthoepyref02_Text.f k a0) (orthoepyref02_Text.f (k + 1) a0) := by
  intro a0 k
  have ih0 := orthoepyref02_Text.mono_l k
  unfold orthoepyref02_Text.f
  repeat' first
      | (with_reducible exact ih0 _ _ _)
      | (with_reducible exact LeO.refl _)
      | (with_reducible exact LeO.none _)
      | (with_reducible refine LeO.ite ?_ ?_)
      | (with_reducible refine LeO.bind ?_ (fun _ => ?_))
      | exact ih0 _ _ _
      | exact LeO.none _
      | refine LeO.ite ?_ ?_
      | refine LeO.bind ?_ (fun _ => ?_)
set_option maxHeartbeats 8000000 in
set_option maxRecDepth 100000 in
theorem orthoepyref02_Text.calls (k : Nat) (A0 : Option Addr) (c0 : Nat) (l0 : List Int) (r : List Int) (w : World) (hr0 : Kd.C (Kd.int .i32) w A0 l0.length l0) (hc0 : l0.length ≤ c0) (h : orthoepyref02_Text.f k l0 = some r) :
    Calls Try.prog 18 #[.slice A0 l0.length c0] w fun e w' => ∃ v0_ : Value, e = .returned (v0_) ∧ Kd.R (Kd.int .u8) 5 w' w.heap.size (fun _ => True) v0_ r ∧ Below w.heap.size w w' := by
  have HR0 := Aside0.mk hr0
  have HC0 := Aside0.mk hc0
  clear hr0 hc0
  have HB := Aside0.mk (Below.refl w.heap.size w)
  have H : (orthoepyref02_Text.l0 k l0 ([] : List Int) 0) = some r := h
  clear h
  have H' := Aside0.mk H
  clear H
  go_enter Try.func18, Try.ntmps18
  go_wp2
  go_loopg [3, 4] k (fun kq v3 v4 w' => ∃ (x3_1 : List Int) (x4_1 : Int), v4 = .int .i64 x4_1 ∧ Aside0 (orthoepyref02_Text.l0 kq l0 x3_1 x4_1 = some r) ∧ Aside0 (kq ≤ k) ∧ Aside0 (Kd.R (Kd.int .u8) 5 w' w.heap.size (fun _ => True) v3 x3_1) ∧ Aside0 (Below w.heap.size w w'))
  case atStart => exact ⟨(([] : List Int)), (0), (by first | rfl | (simp; done) | (simp [*]; done)), H', ⟨Nat.le_refl _⟩, ⟨by first | exact Kd.R_nil _ _ _ _ _ | exact Kd.N_nil _ _ _ _ _ | exact Kd.V_nil _ _ _ _ _ | exact Kd.Q_nil _ _ _ _ _ | exact Kd.S_nil _ _ _ _ _⟩, ⟨by repeat (first | (with_reducible first | exact HB.out | apply below_alloc | apply pw_below_drewN | apply below_drew1) | exact HB.out)⟩⟩
  case round =>
    clear H'
    try clear c1
    obtain ⟨x3_1, x4_1, rfl, HA, HK1, HO_3, HB⟩ := hrel
    cases gk with
    | zero => exact absurd HA.out (by simp [orthoepyref02_Text.l0])
    | succ k1 =>
      have H := HA.out
      clear HA
      simp only [orthoepyref02_Text.l0] at H
      by_cases c2 : x4_1 < (l0.length : Int)
      · rw [if_pos c2] at H
        have c2b0 : decide (x4_1 < (l0.length : Int)) = true := decide_eq_true c2
        clear c2
        by_cases c3 : 0 ≤ x4_1
        · rw [if_pos c3] at H
          have c3b0 : decide (0 ≤ x4_1) = true := decide_eq_true c3
          clear c3
          replace H := Option.bind_eq_some_iff.mp H
          obtain ⟨t186, A40, H⟩ := H
          replace H : (if x3_1.length + t186.length < 140737488355328 then (orthoepyref02_Text.l0 k1 l0 (x3_1 ++ t186) (wrap64 (x4_1 + 1))) else (none)) = some r := H
          have A4 := Aside0.mk A40
          clear A40
          by_cases c5 : x3_1.length + t186.length < 140737488355328
          · rw [if_pos c5] at H
            have LMc5 := Aside0.mk c5
            clear c5
            obtain ⟨y189, hy189⟩ : ∃ y_ : List Int, y_ = (x3_1 ++ t186) := ⟨_, rfl⟩
            replace H : (orthoepyref02_Text.l0 k1 l0 y189 (wrap64 (x4_1 + 1))) = some r := by first | (rw [hy189]; with_reducible exact H) | (have H2_ := (Option.bind_some _ _).symm.trans H; rw [hy189]; with_reducible exact H2_) | (have H2_ := (Option.bind_some _ _).symm.trans H; with_reducible exact H2_) | with_reducible exact H | (rw [hy189]; exact H) | exact H
            have Ny189 := Aside0.mk hy189
            clear hy189
            have H' := Aside0.mk H
            clear H
            have p185 : 0 ≤ (x4_1 : Int) := of_decide_eq_true (by first | (with_reducible assumption) | assumption)
            have q185 : x4_1 < (l0.length : Int) := of_decide_eq_true (by first | (with_reducible assumption) | assumption)
            obtain ⟨ad185, e185, hx185_0⟩ := Kd.at_int HR0.out x4_1 p185 q185
            cases e185
            replace hx185_0 := (HB.out.cell (World.block_lt_of_cell? w _ hx185_0)).trans hx185_0
            replace p185 := eq_true p185
            replace q185 := eq_true q185
            go_wp2_with (first | ((with_reducible refine gate_callee (f := 24) rfl ?_); refine goesL_ (some 16) rfl rfl Try.func24 (by kernel_rfl) rfl #[.int .i32 (rd l0 x4_1)] rfl (by (try simp only [List.map_toArray, List.map_cons, List.map_nil]); first | done | rfl | (simp only [List.length_drop, List.length_take]; rfl)) ?_; (with_reducible refine (orthoepyref02_Bytes.calls (rd l0 x4_1) t186 _ A4.out).mono ?_); rintro e w6 ⟨v187, rfl, ho0, hb⟩; refine ⟨_, rfl, ?_⟩; have n0_ := Aside0.mk (Kd.R_elder' (by (with_reducible repeat (first | apply Kd.R_alloc | apply Kd.R_drewN | apply Kd.R_drew)); exact HO_3.out) (Kd.R_base ho0) hb); have n1_ := Aside0.mk (Kd.R_lower (Kd.R_new' ho0 (Kd.R_lt (by (with_reducible repeat (first | apply Kd.R_alloc | apply Kd.R_drewN | apply Kd.R_drew)); exact HO_3.out))) (below_size (by repeat (first | (with_reducible first | exact HB.out | apply below_alloc | apply pw_below_drewN | apply below_drew1) | exact HB.out)))); have n2_ := Aside0.mk (below_step (by repeat (first | (with_reducible first | exact HB.out | apply below_alloc | apply pw_below_drewN | apply below_drew1) | exact HB.out)) hb); clear HO_3; clear HB; have HO_3 := n0_; have HO188 := n1_; have HB := n2_; clear n0_ n1_ n2_; (try clear hb); (try clear hb2); (try clear hk); (try clear hi); (try clear ho0); obtain ⟨Ao8, co8, eo8⟩ := Kd.R_slice HO188.out; subst eo8) | ((with_reducible refine gate_builtin (b := .append) (xs := #[.tmp 11, .tmp 16]) rfl ?_); at_builtin; refine Kd.R_append_rows (Kd.int .u8) (w0 := w) w.heap.size rfl (.tmp 11) (.tmp 16) 32 5 (.int .u8 0) 1 rfl Try.underlying32 info5 rfl (by decide) (by omega) u3 x3_1 t186 _ _ _ (fun k_ => some k_ ≠ (.slice Ao8 t186.length co8 : Value).ownBlock) (fun _ => False) rfl rfl ?aO ?aR (fun _ _ h => h) (fun _ h => h.elim) ?aF ?aB ?aS ?aL ?_; (case aR => repeat (first | exact (Kd.R_reads' HO188.out).2.2 | (with_reducible refine Kd.C_alloc ?_ _) | (with_reducible refine Kd.C_drewN ?_ _) | (with_reducible refine Kd.C_drew ?_))); (case aB => exact (by repeat (first | (with_reducible first | exact HB.out | apply below_alloc | apply pw_below_drewN | apply below_drew1) | exact HB.out))); (case aF => exact (fun k_ hk => Kd.fresh' (Kd.R_lt (by (with_reducible repeat (first | apply Kd.R_alloc | apply Kd.R_drewN | apply Kd.R_drew)); exact HO188.out)) k_ hk)); (case aO => exact (by (with_reducible repeat (first | apply Kd.R_alloc | apply Kd.R_drewN | apply Kd.R_drew)); exact Kd.R_mono HO_3.out (fun _ hk => hk.2))); (case aS => exact (below_size (by repeat (first | (with_reducible first | exact HB.out | apply below_alloc | apply pw_below_drewN | apply below_drew1) | exact HB.out)))); (case aL => have := LMc5.out; omega); intro v190 w7 ho hb hg hat; rw [← Ny189.out] at ho; have n0_ := Aside0.mk (Kd.R_after (ok := (fun _ => True)) (by (with_reducible repeat (first | apply Kd.R_alloc | apply Kd.R_drewN | apply Kd.R_drew)); exact HO188.out) hg hat); have n1_ := Aside0.mk (hb); have n2_ := Aside0.mk (ho); clear HO188; clear HB; clear HO_3; have HO188 := n0_; have HB := n1_; have HO191 := n2_; clear n0_ n1_ n2_; clear ho hb hg hat))
            go_roundg k1
            case measure => have := HK1.out; omega
            case rel => exact ⟨(y189), (wrap64 (x4_1 + 1)), (by first | rfl | (simp; done) | (simp [*]; done)), H', ⟨by have := HK1.out; omega⟩, ⟨by (with_reducible repeat (first | apply Kd.R_alloc | apply Kd.R_drewN | apply Kd.R_drew)); exact Kd.R_mono HO191.out (fun _ hk => trivial)⟩, ⟨by repeat (first | (with_reducible first | exact HB.out | apply below_alloc | apply pw_below_drewN | apply below_drew1) | exact HB.out)⟩⟩
          · rw [if_neg c5] at H
            exact absurd H (by simp)
        · rw [if_neg c3] at H
          exact absurd H (by simp)
      · rw [if_neg c2] at H
        have c2b0 : decide (x4_1 < (l0.length : Int)) = false := decide_eq_false c2
        clear c2
        obtain rfl := Option.some.inj H
        go_wp2
        go_ret
        exact ⟨_, by first | rfl | (simp [errW_none, errW_some] <;> rfl) | (simp [*, errW_none, errW_some] <;> rfl), by (with_reducible repeat (first | apply Kd.R_alloc | apply Kd.R_drewN | apply Kd.R_drew)); exact HO_3.out, by repeat (first | (with_reducible first | exact HB.out | apply below_alloc | apply pw_below_drewN | apply below_drew1) | exact HB.out)⟩

-- NOT PRINTED: function 30 (orthoepyref12_Str_Text)

-- NOT PRINTED: function 12 (orthoepyref22_Back)

/-! ### orthoepyref02_All: function 31 -/
def orthoepyref02_All.l0 : Nat → List Int → List Int → Int → Option (List Int × Int × Bool)
  | 0, _, _, _ => none
  | k + 1, x0, x5, x6 => if x6 < (x0.length : Int) then (if 0 ≤ x6 then (if x6 ≤ (x0.length : Int) then ((orthoepyref02_First.f k (x0.drop (x6 : Int).toNat)).bind fun bt193 => (if bt193.2.2 = true then (if x5.length < 35184372088832 then (orthoepyref02_All.l0 k x0 (x5 ++ [bt193.1]) (wrap64 (x6 + bt193.2.1))) else (none)) else (some (([] : List Int), wrap64 (x6 + bt193.2.1), false)))) else (none)) else (none)) else (some (x5, x6, true))
def orthoepyref02_All.f (k : Nat) (l0 : List Int) : Option (List Int × Int × Bool) := orthoepyref02_All.l0 k l0 ([] : List Int) 0
theorem orthoepyref02_All.mono_l : ∀ k, (∀ y0 y1 y2, LeO (orthoepyref02_All.l0 k y0 y1 y2) (orthoepyref02_All.l0 (k + 1) y0 y1 y2))
  | 0 => fun _ _ _ r h => by simp [orthoepyref02_All.l0] at h
  | k + 1 => by
    have ih0 := orthoepyref02_All.mono_l k
    · intro y0 y1 y2
      unfold orthoepyref02_All.l0
      repeat' first
      | (with_reducible exact ih0 _ _ _)
      | (with_reducible exact orthoepyref02_First.mono _ _)
      | (with_reducible exact LeO.refl _)
      | (with_reducible exact LeO.none _)
      | (with_reducible refine LeO.ite ?_ ?_)
      | (with_reducible refine LeO.bind ?_ (fun _ => ?_))
      | exact ih0 _ _ _
      | exact orthoepyref02_First.mono _ _
      | exact LeO.none _
      | refine LeO.ite ?_ ?_
      | refine LeO.bind ?_ (fun _ => ?_)
theorem orthoepyref02_All.mono : ∀ a0 k, LeO (orthoepyref02_All.f k a0) (orthoepyref02_All.f (k + 1) a0) := by
  intro a0 k
  have ih0 := orthoepyref02_All.mono_l k
  unfold orthoepyref02_All.f
  repeat' first
      | (with_reducible exact ih0 _ _ _)
      | (with_reducible exact orthoepyref02_First.mono _ _)
      | (with_reducible exact LeO.refl _)
      | (with_reducible exact LeO.none _)
      | (with_reducible refine LeO.ite ?_ ?_)
      | (with_reducible refine LeO.bind ?_ (fun _ => ?_))
      | exact ih0 _ _ _
      | exact orthoepyref02_First.mono _ _
      | exact LeO.none _
      | refine LeO.ite ?_ ?_
      | refine LeO.bind ?_ (fun _ => ?_)
set_option maxHeartbeats 8000000 in
set_option maxRecDepth 100000 in
theorem orthoepyref02_All.calls (k : Nat) (A0 : Option Addr) (c0 : Nat) (l0 : List Int) (r1 : List Int) (r2 : Int) (r3 : Bool) (w : World) (hr0 : Kd.C (Kd.int .u8) w A0 l0.length l0) (hc0 : l0.length ≤ c0) (h : orthoepyref02_All.f k l0 = some (r1, r2, r3)) :
    Calls Try.prog 31 #[.slice A0 l0.length c0] w fun e w' => ∃ v0_ : Value, e = .returned (.tuple #[v0_, .int .i64 r2, .bool r3]) ∧ Kd.R (Kd.int .i32) 21 w' w.heap.size (fun _ => True) v0_ r1 ∧ Below w.heap.size w w' := by
  have HR0 := Aside0.mk hr0
  have HC0 := Aside0.mk hc0
  clear hr0 hc0
  have HB := Aside0.mk (Below.refl w.heap.size w)
  have H : (orthoepyref02_All.l0 k l0 ([] : List Int) 0) = some (r1, r2, r3) := h
  clear h
  have H' := Aside0.mk H
  clear H
  go_enter Try.func31, Try.ntmps31
  go_wp2
  go_loopg [5, 6] k (fun kq v5 v6 w' => ∃ (x5_1 : List Int) (x6_1 : Int), v6 = .int .i64 x6_1 ∧ Aside0 (orthoepyref02_All.l0 kq l0 x5_1 x6_1 = some (r1, r2, r3)) ∧ Aside0 (kq ≤ k) ∧ Aside0 (Kd.R (Kd.int .i32) 21 w' w.heap.size (fun _ => True) v5 x5_1) ∧ Aside0 (Below w.heap.size w w'))
  case atStart => exact ⟨(([] : List Int)), (0), (by first | rfl | (simp; done) | (simp [*]; done)), H', ⟨Nat.le_refl _⟩, ⟨by first | exact Kd.R_nil _ _ _ _ _ | exact Kd.N_nil _ _ _ _ _ | exact Kd.V_nil _ _ _ _ _ | exact Kd.Q_nil _ _ _ _ _ | exact Kd.S_nil _ _ _ _ _⟩, ⟨by repeat (first | (with_reducible first | exact HB.out | apply below_alloc | apply pw_below_drewN | apply below_drew1) | exact HB.out)⟩⟩
  case round =>
    clear H'
    obtain ⟨x5_1, x6_1, rfl, HA, HK1, HO_5, HB⟩ := hrel
    cases gk with
    | zero => exact absurd HA.out (by simp [orthoepyref02_All.l0])
    | succ k1 =>
      have H := HA.out
      clear HA
      simp only [orthoepyref02_All.l0] at H
      by_cases c2 : x6_1 < (l0.length : Int)
      · rw [if_pos c2] at H
        have c2b0 : decide (x6_1 < (l0.length : Int)) = true := decide_eq_true c2
        clear c2
        by_cases c3 : 0 ≤ x6_1
        · rw [if_pos c3] at H
          have c3b0 := eq_true c3
          have c3b1 : decide (0 ≤ x6_1) = true := decide_eq_true c3
          clear c3
          by_cases c4 : x6_1 ≤ (l0.length : Int)
          · rw [if_pos c4] at H
            have c4b0 := eq_true c4
            have c4b1 : decide (x6_1 ≤ (l0.length : Int)) = true := decide_eq_true c4
            clear c4
            replace H := Option.bind_eq_some_iff.mp H
            obtain ⟨⟨t193, t194, t195⟩, A50, H⟩ := H
            replace H : (if t195 = true then (if x5_1.length < 35184372088832 then (orthoepyref02_All.l0 k1 l0 (x5_1 ++ [t193]) (wrap64 (x6_1 + t194))) else (none)) else (some (([] : List Int), wrap64 (x6_1 + t194), false))) = some (r1, r2, r3) := H
            have A5 := Aside0.mk A50
            clear A50
            by_cases c6 : t195 = true
            · subst c6
              have H1 : (if x5_1.length < 35184372088832 then (orthoepyref02_All.l0 k1 l0 (x5_1 ++ [t193]) (wrap64 (x6_1 + t194))) else (none)) = some (r1, r2, r3) := by rw [if_pos rfl] at H; exact H
              clear H
              have H := H1
              clear H1
              by_cases c7 : x5_1.length < 35184372088832
              · rw [if_pos c7] at H
                have LMc7 := Aside0.mk c7
                clear c7
                obtain ⟨y196, hy196⟩ : ∃ y_ : List Int, y_ = (x5_1 ++ [t193]) := ⟨_, rfl⟩
                replace H : (orthoepyref02_All.l0 k1 l0 y196 (wrap64 (x6_1 + t194))) = some (r1, r2, r3) := by first | (rw [hy196]; with_reducible exact H) | (have H2_ := (Option.bind_some _ _).symm.trans H; rw [hy196]; with_reducible exact H2_) | (have H2_ := (Option.bind_some _ _).symm.trans H; with_reducible exact H2_) | with_reducible exact H | (rw [hy196]; exact H) | exact H
                have Ny196 := Aside0.mk hy196
                clear hy196
                have H' := Aside0.mk H
                clear H
                obtain ⟨i08, hi08, _, hsz8, _⟩ := info_parts info5
                obtain ⟨A8, hcut8, hA8, hC8⟩ := print_drop_of (P := Try.prog) (Value.int .u8) 0 32 5 .i64 Try.underlying32 hi08 hsz8 A0 c0 l0 x6_1 (of_decide_eq_true (by first | (with_reducible assumption) | assumption)) (of_decide_eq_true (by first | (with_reducible assumption) | assumption)) HC0.out
                have HR192 := Aside0.mk (Kd.C_of_reads (h1 := fun _ => rfl) (hA8 _ (Kd.reads_of_C HR0.out)))
                have HC192 := Aside0.mk hC8
                clear hA8 hC8 hi08 hsz8
                go_wp2_with (first | ((with_reducible refine gate_callee (f := 49) rfl ?_); refine goesL_ (some 18) rfl rfl Try.func49 (by kernel_rfl) rfl #[.slice A8 (l0.drop (x6_1 : Int).toNat).length (c0 - x6_1.toNat)] rfl (by (try simp only [List.map_toArray, List.map_cons, List.map_nil]); first | done | (rw [show (l0.drop (x6_1 : Int).toNat).length = (l0.length - x6_1.toNat) from List.length_drop] <;> rfl) | rfl | (simp only [List.length_drop, List.length_take]; rfl)) ?_; (with_reducible refine (orthoepyref02_First.calls k1 _ _ (l0.drop (x6_1 : Int).toNat) t193 t194 true _ ?side1 ?side2 A5.out).mono ?_); (case side1 => repeat (first | exact (Kd.C_below HR192.out HB.out) | (with_reducible refine Kd.C_alloc ?_ _) | (with_reducible refine Kd.C_drewN ?_ _) | (with_reducible refine Kd.C_drew ?_))); (case side2 => exact HC192.out); rintro e w' ⟨rfl, ⟨nd, rfl⟩⟩; refine ⟨_, rfl, ?_⟩) | ((with_reducible refine gate_builtin (b := .append) (xs := #[.tmp 27, .tmp 29]) rfl ?_); at_builtin; refine Kd.R_append (Kd.int .i32) (w0 := w) w.heap.size rfl (.tmp 27) (.tmp 29) 30 21 (.int .i32 0) 4 rfl Try.underlying30 info21 rfl (by decide) (by omega) u5 x5_1 t193 [.int .i32 t193] (fun _ => True) (fun _ => False) rfl rfl ?aP (fun _ hk => hk.elim) ?aF ?aO ?aB ?aS ?aL ?_; (case aP => exact rfl); (case aB => exact (by repeat (first | (with_reducible first | exact HB.out | apply below_alloc | apply pw_below_drewN | apply below_drew1) | exact HB.out))); (case aF => exact (fun _ _ => trivial)); (case aO => exact (by (with_reducible repeat (first | apply Kd.R_alloc | apply Kd.R_drewN | apply Kd.R_drew)); exact HO_5.out)); (case aS => exact (below_size (by repeat (first | (with_reducible first | exact HB.out | apply below_alloc | apply pw_below_drewN | apply below_drew1) | exact HB.out)))); (case aL => have := LMc7.out; omega); intro v197 w9 ho hb hg hat; rw [← Ny196.out] at ho; have n0_ := Aside0.mk (hb); have n1_ := Aside0.mk (ho); clear HB; clear HO_5; have HB := n0_; have HO198 := n1_; clear n0_ n1_; clear ho hb hg hat))
                go_roundg k1
                case measure => have := HK1.out; omega
                case rel => exact ⟨(y196), (wrap64 (x6_1 + t194)), (by first | rfl | (simp; done) | (simp [*]; done)), H', ⟨by have := HK1.out; omega⟩, ⟨by (with_reducible repeat (first | apply Kd.R_alloc | apply Kd.R_drewN | apply Kd.R_drew)); exact HO198.out⟩, ⟨by repeat (first | (with_reducible first | exact HB.out | apply below_alloc | apply pw_below_drewN | apply below_drew1) | exact HB.out)⟩⟩
              · rw [if_neg c7] at H
                exact absurd H (by simp)
            · replace c6 := Bool.eq_false_iff.mpr c6
              subst c6
              have H1 : (some (([] : List Int), wrap64 (x6_1 + t194), false)) = some (r1, r2, r3) := by rw [if_neg (show ¬ (false = true) by decide)] at H; exact H
              clear H
              have H := H1
              clear H1
              simp only [Option.some.injEq, Prod.mk.injEq] at H
              obtain ⟨rfl, rfl, rfl⟩ := H
              obtain ⟨i010, hi010, _, hsz10, _⟩ := info_parts info5
              obtain ⟨A10, hcut10, hA10, hC10⟩ := print_drop_of (P := Try.prog) (Value.int .u8) 0 32 5 .i64 Try.underlying32 hi010 hsz10 A0 c0 l0 x6_1 (of_decide_eq_true (by first | (with_reducible assumption) | assumption)) (of_decide_eq_true (by first | (with_reducible assumption) | assumption)) HC0.out
              have HR192 := Aside0.mk (Kd.C_of_reads (h1 := fun _ => rfl) (hA10 _ (Kd.reads_of_C HR0.out)))
              have HC192 := Aside0.mk hC10
              clear hA10 hC10 hi010 hsz10
              go_wp2_with (first | ((with_reducible refine gate_callee (f := 49) rfl ?_); refine goesL_ (some 18) rfl rfl Try.func49 (by kernel_rfl) rfl #[.slice A10 (l0.drop (x6_1 : Int).toNat).length (c0 - x6_1.toNat)] rfl (by (try simp only [List.map_toArray, List.map_cons, List.map_nil]); first | done | (rw [show (l0.drop (x6_1 : Int).toNat).length = (l0.length - x6_1.toNat) from List.length_drop] <;> rfl) | rfl | (simp only [List.length_drop, List.length_take]; rfl)) ?_; (with_reducible refine (orthoepyref02_First.calls k1 _ _ (l0.drop (x6_1 : Int).toNat) t193 t194 false _ ?side1 ?side2 A5.out).mono ?_); (case side1 => repeat (first | exact (Kd.C_below HR192.out HB.out) | (with_reducible refine Kd.C_alloc ?_ _) | (with_reducible refine Kd.C_drewN ?_ _) | (with_reducible refine Kd.C_drew ?_))); (case side2 => exact HC192.out); rintro e w' ⟨rfl, ⟨nd, rfl⟩⟩; refine ⟨_, rfl, ?_⟩))
              go_ret3
              exact ⟨_, by first | rfl | (simp [errW_none, errW_some] <;> rfl) | (simp [*, errW_none, errW_some] <;> rfl), by first | exact Kd.R_nil _ _ _ _ _ | exact Kd.N_nil _ _ _ _ _ | exact Kd.V_nil _ _ _ _ _ | exact Kd.Q_nil _ _ _ _ _ | exact Kd.S_nil _ _ _ _ _, by repeat (first | (with_reducible first | exact HB.out | apply below_alloc | apply pw_below_drewN | apply below_drew1) | exact HB.out)⟩
          · rw [if_neg c4] at H
            exact absurd H (by simp)
        · rw [if_neg c3] at H
          exact absurd H (by simp)
      · rw [if_neg c2] at H
        have c2b0 : decide (x6_1 < (l0.length : Int)) = false := decide_eq_false c2
        clear c2
        simp only [Option.some.injEq, Prod.mk.injEq] at H
        obtain ⟨rfl, rfl, rfl⟩ := H
        go_wp2
        go_ret3
        exact ⟨_, by first | rfl | (simp [errW_none, errW_some] <;> rfl) | (simp [*, errW_none, errW_some] <;> rfl), by (with_reducible repeat (first | apply Kd.R_alloc | apply Kd.R_drewN | apply Kd.R_drew)); exact HO_5.out, by repeat (first | (with_reducible first | exact HB.out | apply below_alloc | apply pw_below_drewN | apply below_drew1) | exact HB.out)⟩

-- NOT PRINTED: function 13 (orthoepyref22_Right)

-- NOT PRINTED: function 32 (orthoepyref22_one)

-- NOT PRINTED: function 14 (orthoepyref22_Quote)

-- NOT PRINTED: function 3 (orthoepylaw22_QuoteAll)

/-! ### orthoepylaw00_Place: function 37 -/
def orthoepylaw00_Place.f (a0 : Int) (a1 : Int) : Option (Int) := if a1 = 0 then (none) else (if (Int.tmod a0 a1) < 0 then (some (wrap64 ((Int.tmod a0 a1) + a1))) else (some (Int.tmod a0 a1)))
set_option maxHeartbeats 8000000 in
set_option maxRecDepth 100000 in
theorem orthoepylaw00_Place.calls (a0 : Int) (a1 : Int) (r : Int) (w : World) (h : orthoepylaw00_Place.f a0 a1 = some r) :
    Calls Try.prog 37 #[.int .i64 a0, .int .i64 a1] w fun e w' => e = .returned (.int .i64 r) ∧ Drawn0 w w' := by
  have H : (if a1 = 0 then (none) else (if (Int.tmod a0 a1) < 0 then (some (wrap64 ((Int.tmod a0 a1) + a1))) else (some (Int.tmod a0 a1)))) = some r := h
  clear h
  by_cases c3 : a1 = 0
  · rw [if_pos c3] at H
    exact absurd H (by simp)
  · rw [if_neg c3] at H
    have c3b0 : (a1 == 0) = false := beq_eq_false_iff_ne.mpr c3
    have c3b1 : (a1 != 0) = true := bne_iff_ne.mpr c3
    by_cases c4 : (Int.tmod a0 a1) < 0
    · rw [if_pos c4] at H
      have c4b0 : decide ((Int.tmod a0 a1) < 0) = true := decide_eq_true c4
      clear c4
      obtain rfl := Option.some.inj H
      go_enter Try.func37, Try.ntmps37
      go_wp2
      go_ret
      exact ⟨by first | rfl | (simp; done) | (simp [*]; done), by repeat (first | exact Drawn0.refl _ | apply Drawn0.step)⟩
    · rw [if_neg c4] at H
      have c4b0 : decide ((Int.tmod a0 a1) < 0) = false := decide_eq_false c4
      clear c4
      obtain rfl := Option.some.inj H
      go_enter Try.func37, Try.ntmps37
      go_wp2
      go_ret
      exact ⟨by first | rfl | (simp; done) | (simp [*]; done), by repeat (first | exact Drawn0.refl _ | apply Drawn0.step)⟩

end Go.Proofs.Ytkpeblpgfngjcaa.PAll
