-- The machine's side of laws, written by a program of this session (wip/gen/pp.sh). Lean checks it.
import Derived.Test.YtoalfgmnikbpaaaPAllx0
import Derived.Test.YtoalfgmnikbpaaaPAllx5
namespace Go.Proofs.Ytoalfgmnikbpaaa.PAll
open Go.RowKit Go.Proofs.YtoalfgmnikbpaaaW.PrintWords Go.Proofs.YtoalfgmnikbpaaaW.PrintLast Go.Proofs.YtoalfgmnikbpaaaW.PrintMore
attribute [local go_sem] max2_int min2_int max_two min_two max_three min_three max_four min_four   -- for this text's walks alone
set_option linter.unusedVariables false
set_option linter.unusedSimpArgs false

/-! ### orthoepyref02_First: function 10 -/
mutual
def orthoepyref02_First.j1 : Nat → List Int → Int → Option (Int × Int × Bool)
  | 0, _, _ => none
  | k + 1, x0, x5 => if x5 < (x0.length : Int) then (if 0 ≤ (wrap64 (x5 + 1)) then (if (wrap64 (x5 + 1)) ≤ (x0.length : Int) then ((orthoepyref02_How.f k (x0.take ((wrap64 (x5 + 1)) : Int).toNat)).bind fun t228 => (if t228 = 2 then ((orthoepyref02_of.f k (x0.take ((wrap64 (x5 + 1)) : Int).toNat)).bind fun t230 => (some (t230, wrap64 (x5 + 1), true))) else (some (0, x5, false)))) else (none)) else (none)) else (some (0, x5, false))
def orthoepyref02_First.l0 : Nat → List Int → Int → Option (Int × Int × Bool)
  | 0, _, _ => none
  | k + 1, x0, x5 => if x5 < (x0.length : Int) then (if 0 ≤ (wrap64 (x5 + 1)) then (if (wrap64 (x5 + 1)) ≤ (x0.length : Int) then ((orthoepyref02_How.f k (x0.take ((wrap64 (x5 + 1)) : Int).toNat)).bind fun t226 => (if t226 = 1 then (orthoepyref02_First.l0 k x0 (wrap64 (x5 + 1))) else (orthoepyref02_First.j1 k x0 x5))) else (none)) else (none)) else (orthoepyref02_First.j1 k x0 x5)
end
def orthoepyref02_First.f (k : Nat) (l0 : List Int) : Option (Int × Int × Bool) := orthoepyref02_First.l0 k l0 0
theorem orthoepyref02_First.mono_l : ∀ k, (∀ y0 y1, LeO (orthoepyref02_First.j1 k y0 y1) (orthoepyref02_First.j1 (k + 1) y0 y1)) ∧ (∀ y0 y1, LeO (orthoepyref02_First.l0 k y0 y1) (orthoepyref02_First.l0 (k + 1) y0 y1))
  | 0 => ⟨fun _ _ r h => by simp [orthoepyref02_First.j1] at h, fun _ _ r h => by simp [orthoepyref02_First.l0] at h⟩
  | k + 1 => by
    obtain ⟨ih0, ih1⟩ := orthoepyref02_First.mono_l k
    refine ⟨?_, ?_⟩
    · intro y0 y1
      unfold orthoepyref02_First.j1
      repeat' first
      | (with_reducible exact ih0 _ _)
      | (with_reducible exact ih1 _ _)
      | (with_reducible exact orthoepyref02_How.mono _ _)
      | (with_reducible exact orthoepyref02_of.mono _ _)
      | (with_reducible exact LeO.refl _)
      | (with_reducible exact LeO.none _)
      | (with_reducible refine LeO.ite ?_ ?_)
      | (with_reducible refine LeO.bind ?_ (fun _ => ?_))
      | exact ih0 _ _
      | exact ih1 _ _
      | exact orthoepyref02_How.mono _ _
      | exact orthoepyref02_of.mono _ _
      | exact LeO.none _
      | refine LeO.ite ?_ ?_
      | refine LeO.bind ?_ (fun _ => ?_)
    · intro y0 y1
      unfold orthoepyref02_First.l0
      repeat' first
      | (with_reducible exact ih0 _ _)
      | (with_reducible exact ih1 _ _)
      | (with_reducible exact orthoepyref02_How.mono _ _)
      | (with_reducible exact orthoepyref02_of.mono _ _)
      | (with_reducible exact LeO.refl _)
      | (with_reducible exact LeO.none _)
      | (with_reducible refine LeO.ite ?_ ?_)
      | (with_reducible refine LeO.bind ?_ (fun _ => ?_))
      | exact ih0 _ _
      | exact ih1 _ _
      | exact orthoepyref02_How.mono _ _
      | exact orthoepyref02_of.mono _ _
      | exact LeO.none _
      | refine LeO.ite ?_ ?_
      | refine LeO.bind ?_ (fun _ => ?_)
theorem orthoepyref02_First.mono : ∀ a0 k, LeO (orthoepyref02_First.f k a0) (orthoepyref02_First.f (k + 1) a0) := by
  intro a0 k
  obtain ⟨ih0, ih1⟩ := orthoepyref02_First.mono_l k
  unfold orthoepyref02_First.f
  repeat' first
      | (with_reducible exact ih0 _ _)
      | (with_reducible exact ih1 _ _)
      | (with_reducible exact orthoepyref02_How.mono _ _)
      | (with_reducible exact orthoepyref02_of.mono _ _)
      | (with_reducible exact LeO.refl _)
      | (with_reducible exact LeO.none _)
      | (with_reducible refine LeO.ite ?_ ?_)
      | (with_reducible refine LeO.bind ?_ (fun _ => ?_))
      | exact ih0 _ _
      | exact ih1 _ _
      | exact orthoepyref02_How.mono _ _
      | exact orthoepyref02_of.mono _ _
      | exact LeO.none _
      | refine LeO.ite ?_ ?_
      | refine LeO.bind ?_ (fun _ => ?_)
set_option maxHeartbeats 8000000 in
set_option maxRecDepth 100000 in
theorem orthoepyref02_First.calls (k : Nat) (A0 : Option Addr) (c0 : Nat) (l0 : List Int) (r1 : Int) (r2 : Int) (r3 : Bool) (w : World) (hr0 : Kd.C (Kd.int .u8) w A0 l0.length l0) (hc0 : l0.length ≤ c0) (h : orthoepyref02_First.f k l0 = some (r1, r2, r3)) :
    Calls Try.prog 10 #[.slice A0 l0.length c0] w fun e w' => e = .returned (.tuple #[.int .i32 r1, .int .i64 r2, .bool r3]) ∧ Drawn0 w w' := by
  have HR0 := Aside0.mk hr0
  have HC0 := Aside0.mk hc0
  clear hr0 hc0
  have H : (orthoepyref02_First.l0 k l0 0) = some (r1, r2, r3) := h
  clear h
  have HC2 := Aside0.mk H
  clear H
  go_enter Try.func10, Try.ntmps10
  go_upto_block 0 with (fail)
  go_cut [5] (fun v5 wc => ∃ (kq : Nat) (x5_1 : Int), v5 = .int .i64 x5_1 ∧ Aside0 (orthoepyref02_First.j1 kq l0 x5_1 = some (r1, r2, r3)) ∧ Aside0 (kq ≤ k) ∧ Drawn0 w wc)
  case first =>
    have H := HC2.out
    clear HC2
    have H' := Aside0.mk H
    clear H
    go_wp2
    go_loopg [5] k (fun kq v5 w' => ∃ (x5_1 : Int), v5 = .int .i64 x5_1 ∧ Aside0 (orthoepyref02_First.l0 kq l0 x5_1 = some (r1, r2, r3)) ∧ Aside0 (kq ≤ k) ∧ Drawn0 w w')
    case atStart => exact ⟨(0), (by first | rfl | (simp; done) | (simp [*]; done)), H', ⟨Nat.le_refl _⟩, by repeat (first | exact Drawn0.refl _ | apply Drawn0.step)⟩
    case round =>
      clear H'
      try clear c1
      try clear p2
      obtain ⟨x5_1, rfl, HA, HK1, ⟨m1, rfl⟩⟩ := hrel
      cases gk with
      | zero => exact absurd HA.out (by simp [orthoepyref02_First.l0])
      | succ k1 =>
        have H := HA.out
        clear HA
        simp only [orthoepyref02_First.l0] at H
        by_cases c3 : x5_1 < (l0.length : Int)
        · rw [if_pos c3] at H
          have c3b0 : decide (x5_1 < (l0.length : Int)) = true := decide_eq_true c3
          clear c3
          (first | rw [c3b0] | (simp only [i64_w, i32_w]; rw [c3b0]) | skip)
          obtain ⟨ji4, hji4⟩ : ∃ j_ : Int, (wrap64 (x5_1 + 1)) = j_ := ⟨_, rfl⟩
          replace H : (if 0 ≤ (ji4) then (if (ji4) ≤ (l0.length : Int) then ((orthoepyref02_How.f k1 (l0.take ((ji4) : Int).toNat)).bind fun t226 => (if t226 = 1 then (orthoepyref02_First.l0 k1 l0 ji4) else (orthoepyref02_First.j1 k1 l0 x5_1))) else (none)) else (none)) = some (r1, r2, r3) := by first | (rw [hji4] at H; exact H) | (simp only [hji4] at H ⊢; exact H)
          have hji4w : (IntKind.i64.wrap (x5_1 + 1)) = ji4 := (i64_w _).trans hji4
          by_cases c5 : 0 ≤ (ji4)
          · rw [if_pos c5] at H
            have c5b0 := eq_true c5
            have c5b1 : decide (0 ≤ (ji4)) = true := decide_eq_true c5
            clear c5
            by_cases c6 : (ji4) ≤ (l0.length : Int)
            · rw [if_pos c6] at H
              have c6b0 := eq_true c6
              have c6b1 : decide ((ji4) ≤ (l0.length : Int)) = true := decide_eq_true c6
              clear c6
              replace H := Option.bind_eq_some_iff.mp H
              obtain ⟨t226, A70, H⟩ := H
              replace H : (if t226 = 1 then (orthoepyref02_First.l0 k1 l0 ji4) else (orthoepyref02_First.j1 k1 l0 x5_1)) = some (r1, r2, r3) := H
              have A7 := Aside0.mk A70
              clear A70
              by_cases c8 : t226 = 1
              · rw [if_pos c8] at H
                have c8b0 : (t226 == 1) = true := beq_iff_eq.mpr c8
                have c8b1 : (t226 != 1) = false := bne_eq_false_iff_eq.mpr c8
                clear c8
                have H' := Aside0.mk H
                clear H
                obtain ⟨i09, hi09, _, hsz9, _⟩ := info_parts info5
                obtain ⟨hcut9, hA9, hC9⟩ := print_take_of (P := Try.prog) (Value.int .u8) 0 22 5 .i64 Try.underlying22 hi09 hsz9 A0 c0 l0 (ji4) (of_decide_eq_true (by first | (with_reducible assumption) | assumption)) (of_decide_eq_true (by first | (with_reducible assumption) | assumption)) HC0.out
                have HR225 := Aside0.mk (Kd.C_of_reads (h1 := fun _ => rfl) (hA9 _ (Kd.reads_of_C HR0.out)))
                have HC225 := Aside0.mk hC9
                clear hA9 hC9 hi09 hsz9
                go_wp2_with (first | (go_at_call 26; refine calls_of_args (args' := #[.slice A0 (l0.take ((ji4) : Int).toNat).length c0]) (by first | (rw [show (l0.take ((ji4) : Int).toNat).length = (ji4).toNat from (by rw [List.length_take]; have h_ : ((ji4) : Int) ≤ (l0.length : Int) := of_decide_eq_true (by first | (with_reducible assumption) | assumption); omega)] <;> rfl) | rfl) ?_; (with_reducible refine (orthoepyref02_How.calls k1 _ _ (l0.take ((ji4) : Int).toNat) t226 _ ?side1 ?side2 A7.out).mono ?_); (case side1 => repeat (first | exact HR225.out | (with_reducible refine Kd.C_alloc ?_ _) | (with_reducible refine Kd.C_drewN ?_ _) | (with_reducible refine Kd.C_drew ?_))); (case side2 => exact HC225.out); rintro e w' ⟨rfl, ⟨nd, rfl⟩⟩))
                go_roundg k1
                case measure => have := HK1.out; omega
                case rel => exact ⟨(ji4), (by first | rfl | (simp; done) | (simp only [← hji4] <;> (first | rfl | simp)) | (simp [*]; done)), H', ⟨by have := HK1.out; omega⟩, by repeat (first | exact Drawn0.refl _ | apply Drawn0.step)⟩
              · rw [if_neg c8] at H
                have c8b0 : (t226 == 1) = false := beq_eq_false_iff_ne.mpr c8
                have c8b1 : (t226 != 1) = true := bne_iff_ne.mpr c8
                have H' := Aside0.mk H
                clear H
                obtain ⟨i010, hi010, _, hsz10, _⟩ := info_parts info5
                obtain ⟨hcut10, hA10, hC10⟩ := print_take_of (P := Try.prog) (Value.int .u8) 0 22 5 .i64 Try.underlying22 hi010 hsz10 A0 c0 l0 (ji4) (of_decide_eq_true (by first | (with_reducible assumption) | assumption)) (of_decide_eq_true (by first | (with_reducible assumption) | assumption)) HC0.out
                have HR225 := Aside0.mk (Kd.C_of_reads (h1 := fun _ => rfl) (hA10 _ (Kd.reads_of_C HR0.out)))
                have HC225 := Aside0.mk hC10
                clear hA10 hC10 hi010 hsz10
                go_wp2_with (first | (go_at_call 26; refine calls_of_args (args' := #[.slice A0 (l0.take ((ji4) : Int).toNat).length c0]) (by first | (rw [show (l0.take ((ji4) : Int).toNat).length = (ji4).toNat from (by rw [List.length_take]; have h_ : ((ji4) : Int) ≤ (l0.length : Int) := of_decide_eq_true (by first | (with_reducible assumption) | assumption); omega)] <;> rfl) | rfl) ?_; (with_reducible refine (orthoepyref02_How.calls k1 _ _ (l0.take ((ji4) : Int).toNat) t226 _ ?side1 ?side2 A7.out).mono ?_); (case side1 => repeat (first | exact HR225.out | (with_reducible refine Kd.C_alloc ?_ _) | (with_reducible refine Kd.C_drewN ?_ _) | (with_reducible refine Kd.C_drew ?_))); (case side2 => exact HC225.out); rintro e w' ⟨rfl, ⟨nd, rfl⟩⟩))
                go_meet
                case rel => exact ⟨_, (x5_1), (by first | rfl | (simp; done) | (simp [*]; done)), H', ⟨by have := HK1.out; first | omega | exact Nat.le_refl _⟩, by repeat (first | exact Drawn0.refl _ | apply Drawn0.step)⟩
            · rw [if_neg c6] at H
              exact absurd H (by simp)
          · rw [if_neg c5] at H
            exact absurd H (by simp)
        · rw [if_neg c3] at H
          have c3b0 : decide (x5_1 < (l0.length : Int)) = false := decide_eq_false c3
          clear c3
          (first | rw [c3b0] | (simp only [i64_w, i32_w]; rw [c3b0]) | skip)
          have H' := Aside0.mk H
          clear H
          go_wp2
          go_meet
          case rel => exact ⟨_, (x5_1), (by first | rfl | (simp; done) | (simp [*]; done)), H', ⟨by have := HK1.out; first | omega | exact Nat.le_refl _⟩, by repeat (first | exact Drawn0.refl _ | apply Drawn0.step)⟩
  case rest =>
    clear HC2
    try clear c1
    try clear p2
    try clear c3
    try clear c3b0
    try clear c5
    try clear c5b0
    try clear c5b1
    try clear c6
    try clear c6b0
    try clear c6b1
    try clear p6
    try clear c8
    try clear c8b0
    try clear c8b1
    try clear c10
    try clear p2
    obtain ⟨kq, x5_1, rfl, HA, HJ1, ⟨mc1, rfl⟩⟩ := hcut
    cases kq with
    | zero => exact absurd HA.out (by simp [orthoepyref02_First.j1])
    | succ kj1 =>
      have H := HA.out
      clear HA
      simp only [orthoepyref02_First.j1] at H
      by_cases c11 : x5_1 < (l0.length : Int)
      · rw [if_pos c11] at H
        have c11b0 : decide (x5_1 < (l0.length : Int)) = true := decide_eq_true c11
        clear c11
        obtain ⟨ji12, hji12⟩ : ∃ j_ : Int, (wrap64 (x5_1 + 1)) = j_ := ⟨_, rfl⟩
        replace H : (if 0 ≤ (ji12) then (if (ji12) ≤ (l0.length : Int) then ((orthoepyref02_How.f kj1 (l0.take ((ji12) : Int).toNat)).bind fun t228 => (if t228 = 2 then ((orthoepyref02_of.f kj1 (l0.take ((ji12) : Int).toNat)).bind fun t230 => (some (t230, ji12, true))) else (some (0, x5_1, false)))) else (none)) else (none)) = some (r1, r2, r3) := by first | (rw [hji12] at H; exact H) | (simp only [hji12] at H ⊢; exact H)
        have hji12w : (IntKind.i64.wrap (x5_1 + 1)) = ji12 := (i64_w _).trans hji12
        by_cases c13 : 0 ≤ (ji12)
        · rw [if_pos c13] at H
          have c13b0 := eq_true c13
          have c13b1 : decide (0 ≤ (ji12)) = true := decide_eq_true c13
          clear c13
          by_cases c14 : (ji12) ≤ (l0.length : Int)
          · rw [if_pos c14] at H
            have c14b0 := eq_true c14
            have c14b1 : decide ((ji12) ≤ (l0.length : Int)) = true := decide_eq_true c14
            clear c14
            replace H := Option.bind_eq_some_iff.mp H
            obtain ⟨t228, A150, H⟩ := H
            replace H : (if t228 = 2 then ((orthoepyref02_of.f kj1 (l0.take ((ji12) : Int).toNat)).bind fun t230 => (some (t230, ji12, true))) else (some (0, x5_1, false))) = some (r1, r2, r3) := H
            have A15 := Aside0.mk A150
            clear A150
            by_cases c16 : t228 = 2
            · rw [if_pos c16] at H
              have c16b0 : (t228 == 2) = true := beq_iff_eq.mpr c16
              have c16b1 : (t228 != 2) = false := bne_eq_false_iff_eq.mpr c16
              clear c16
              have c17b0 := eq_true (of_decide_eq_true (by first | (with_reducible assumption) | assumption) : 0 ≤ (ji12))
              have c18b0 := eq_true (of_decide_eq_true (by first | (with_reducible assumption) | assumption) : (ji12) ≤ (l0.length : Int))
              replace H := Option.bind_eq_some_iff.mp H
              obtain ⟨t230, A190, H⟩ := H
              replace H : (some (t230, ji12, true)) = some (r1, r2, r3) := H
              have A19 := Aside0.mk A190
              clear A190
              simp only [Option.some.injEq, Prod.mk.injEq] at H
              obtain ⟨rfl, rfl, rfl⟩ := H
              obtain ⟨i020, hi020, _, hsz20, _⟩ := info_parts info5
              obtain ⟨hcut20, hA20, hC20⟩ := print_take_of (P := Try.prog) (Value.int .u8) 0 22 5 .i64 Try.underlying22 hi020 hsz20 A0 c0 l0 (ji12) (of_decide_eq_true (by first | (with_reducible assumption) | assumption)) (of_decide_eq_true (by first | (with_reducible assumption) | assumption)) HC0.out
              have HR227 := Aside0.mk (Kd.C_of_reads (h1 := fun _ => rfl) (hA20 _ (Kd.reads_of_C HR0.out)))
              have HC227 := Aside0.mk hC20
              clear hA20 hC20 hi020 hsz20
              go_wp2_with (first | (go_at_call 26; refine calls_of_args (args' := #[.slice A0 (l0.take ((ji12) : Int).toNat).length c0]) (by first | (rw [show (l0.take ((ji12) : Int).toNat).length = (ji12).toNat from (by rw [List.length_take]; have h_ : ((ji12) : Int) ≤ (l0.length : Int) := of_decide_eq_true (by first | (with_reducible assumption) | assumption); omega)] <;> rfl) | rfl) ?_; (with_reducible refine (orthoepyref02_How.calls kj1 _ _ (l0.take ((ji12) : Int).toNat) t228 _ ?side1 ?side2 A15.out).mono ?_); (case side1 => repeat (first | exact HR227.out | (with_reducible refine Kd.C_alloc ?_ _) | (with_reducible refine Kd.C_drewN ?_ _) | (with_reducible refine Kd.C_drew ?_))); (case side2 => exact HC227.out); rintro e w' ⟨rfl, ⟨nd, rfl⟩⟩; obtain ⟨i021, hi021, _, hsz21, _⟩ := info_parts info5; obtain ⟨hcut21, hA21, hC21⟩ := print_take_of (P := Try.prog) (Value.int .u8) 0 22 5 .i64 Try.underlying22 hi021 hsz21 A0 c0 l0 (ji12) (of_decide_eq_true (by first | (with_reducible assumption) | assumption)) (of_decide_eq_true (by first | (with_reducible assumption) | assumption)) HC0.out; have HR229 := Aside0.mk (Kd.C_of_reads (h1 := fun _ => rfl) (hA21 _ (Kd.reads_of_C HR0.out))); have HC229 := Aside0.mk hC21; clear hA21 hC21 hi021 hsz21) | ((with_reducible refine gate_callee (f := 27) rfl ?_); refine goesL_ (some 36) rfl rfl Try.func27 (by kernel_rfl) rfl #[.slice A0 (l0.take ((ji12) : Int).toNat).length c0] rfl (by (try simp only [List.map_toArray, List.map_cons, List.map_nil]); first | done | (rw [show (l0.take ((ji12) : Int).toNat).length = (ji12).toNat from (by rw [List.length_take]; have h_ : ((ji12) : Int) ≤ (l0.length : Int) := of_decide_eq_true (by first | (with_reducible assumption) | assumption); omega)] <;> rfl) | (simp only [hji12]; rfl) | rfl | (simp only [List.length_drop, List.length_take]; rfl)) ?_; (with_reducible refine (orthoepyref02_of.calls kj1 _ _ (l0.take ((ji12) : Int).toNat) t230 _ ?side1 ?side2 A19.out).mono ?_); (case side1 => repeat (first | exact HR229.out | (with_reducible refine Kd.C_alloc ?_ _) | (with_reducible refine Kd.C_drewN ?_ _) | (with_reducible refine Kd.C_drew ?_))); (case side2 => exact HC229.out); rintro e w' ⟨rfl, ⟨nd, rfl⟩⟩; refine ⟨_, rfl, ?_⟩))
              go_ret3
              exact ⟨by first | rfl | (simp; done) | (simp only [← hji12] <;> (first | rfl | simp)) | (simp [*]; done), by repeat (first | exact Drawn0.refl _ | apply Drawn0.step)⟩
            · rw [if_neg c16] at H
              have c16b0 : (t228 == 2) = false := beq_eq_false_iff_ne.mpr c16
              have c16b1 : (t228 != 2) = true := bne_iff_ne.mpr c16
              simp only [Option.some.injEq, Prod.mk.injEq] at H
              obtain ⟨rfl, rfl, rfl⟩ := H
              obtain ⟨i022, hi022, _, hsz22, _⟩ := info_parts info5
              obtain ⟨hcut22, hA22, hC22⟩ := print_take_of (P := Try.prog) (Value.int .u8) 0 22 5 .i64 Try.underlying22 hi022 hsz22 A0 c0 l0 (ji12) (of_decide_eq_true (by first | (with_reducible assumption) | assumption)) (of_decide_eq_true (by first | (with_reducible assumption) | assumption)) HC0.out
              have HR227 := Aside0.mk (Kd.C_of_reads (h1 := fun _ => rfl) (hA22 _ (Kd.reads_of_C HR0.out)))
              have HC227 := Aside0.mk hC22
              clear hA22 hC22 hi022 hsz22
              go_wp2_with (first | (go_at_call 26; refine calls_of_args (args' := #[.slice A0 (l0.take ((ji12) : Int).toNat).length c0]) (by first | (rw [show (l0.take ((ji12) : Int).toNat).length = (ji12).toNat from (by rw [List.length_take]; have h_ : ((ji12) : Int) ≤ (l0.length : Int) := of_decide_eq_true (by first | (with_reducible assumption) | assumption); omega)] <;> rfl) | rfl) ?_; (with_reducible refine (orthoepyref02_How.calls kj1 _ _ (l0.take ((ji12) : Int).toNat) t228 _ ?side1 ?side2 A15.out).mono ?_); (case side1 => repeat (first | exact HR227.out | (with_reducible refine Kd.C_alloc ?_ _) | (with_reducible refine Kd.C_drewN ?_ _) | (with_reducible refine Kd.C_drew ?_))); (case side2 => exact HC227.out); rintro e w' ⟨rfl, ⟨nd, rfl⟩⟩))
              go_ret3
              exact ⟨by first | rfl | (simp; done) | (simp only [← hji12] <;> (first | rfl | simp)) | (simp [*]; done), by repeat (first | exact Drawn0.refl _ | apply Drawn0.step)⟩
          · rw [if_neg c14] at H
            exact absurd H (by simp)
        · rw [if_neg c13] at H
          exact absurd H (by simp)
      · rw [if_neg c11] at H
        have c11b0 : decide (x5_1 < (l0.length : Int)) = false := decide_eq_false c11
        clear c11
        simp only [Option.some.injEq, Prod.mk.injEq] at H
        obtain ⟨rfl, rfl, rfl⟩ := H
        go_wp2
        go_ret3
        exact ⟨by first | rfl | (simp; done) | (simp [*]; done), by repeat (first | exact Drawn0.refl _ | apply Drawn0.step)⟩

/-! ### orthoepyref02_All: function 12 -/
def orthoepyref02_All.l0 : Nat → List Int → List Int → Int → Option (List Int × Int × Bool)
  | 0, _, _, _ => none
  | k + 1, x0, x5, x6 => if x6 < (x0.length : Int) then (if 0 ≤ x6 then (if x6 ≤ (x0.length : Int) then ((orthoepyref02_First.f k (x0.drop (x6 : Int).toNat)).bind fun bt232 => (if bt232.2.2 = true then (if x5.length < 35184372088832 then (orthoepyref02_All.l0 k x0 (x5 ++ [bt232.1]) (wrap64 (x6 + bt232.2.1))) else (none)) else (some (([] : List Int), wrap64 (x6 + bt232.2.1), false)))) else (none)) else (none)) else (some (x5, x6, true))
def orthoepyref02_All.f (k : Nat) (l0 : List Int) : Option (List Int × Int × Bool) := orthoepyref02_All.l0 k l0 ([] : List Int) 0
theorem orthoepyref02_All.mono_l : ∀ k, (∀ y0 y1 y2, LeO (orthoepyref02_All.l0 k y0 y1 y2) (orthoepyref02_All.l0 (k + 1) y0 y1 y2))
  | 0 => fun _ _ _ r h => by simp [orthoepyref02_All.l0] at h
  | k + 1 => by
    have ih0 := orthoepyref02_All.mono_l k
    · intro y0 y1 y2
      unfold orthoepyref02_All.l0
      repeat' first
      | (with_reducible exact ih0 _ _ _)
      | (with_reducible exact orthoepyref02_First.mono _ _)
      | (with_reducible exact LeO.refl _)
      | (with_reducible exact LeO.none _)
      | (with_reducible refine LeO.ite ?_ ?_)
      | (with_reducible refine LeO.bind ?_ (fun _ => ?_))
      | exact ih0 _ _ _
      | exact orthoepyref02_First.mono _ _
      | exact LeO.none _
      | refine LeO.ite ?_ ?_
      | refine LeO.bind ?_ (fun _ => ?_)
theorem orthoepyref02_All.mono : ∀ a0 k, LeO (orthoepyref02_All.f k a0) (orthoepyref02_All.f (k + 1) a0) := by
  intro a0 k
  have ih0 := orthoepyref02_All.mono_l k
  unfold orthoepyref02_All.f
  repeat' first
      | (with_reducible exact ih0 _ _ _)
      | (with_reducible exact orthoepyref02_First.mono _ _)
      | (with_reducible exact LeO.refl _)
      | (with_reducible exact LeO.none _)
      | (with_reducible refine LeO.ite ?_ ?_)
      | (with_reducible refine LeO.bind ?_ (fun _ => ?_))
      | exact ih0 _ _ _
      | exact orthoepyref02_First.mono _ _
      | exact LeO.none _
      | refine LeO.ite ?_ ?_
      | refine LeO.bind ?_ (fun _ => ?_)
set_option maxHeartbeats 8000000 in
set_option maxRecDepth 100000 in
theorem orthoepyref02_All.calls (k : Nat) (A0 : Option Addr) (c0 : Nat) (l0 : List Int) (r1 : List Int) (r2 : Int) (r3 : Bool) (w : World) (hr0 : Kd.C (Kd.int .u8) w A0 l0.length l0) (hc0 : l0.length ≤ c0) (h : orthoepyref02_All.f k l0 = some (r1, r2, r3)) :
    Calls Try.prog 12 #[.slice A0 l0.length c0] w fun e w' => ∃ v0_ : Value, e = .returned (.tuple #[v0_, .int .i64 r2, .bool r3]) ∧ Kd.R (Kd.int .i32) 21 w' w.heap.size (fun _ => True) v0_ r1 ∧ Below w.heap.size w w' := by
  have HR0 := Aside0.mk hr0
  have HC0 := Aside0.mk hc0
  clear hr0 hc0
  have HB := Aside0.mk (Below.refl w.heap.size w)
  have H : (orthoepyref02_All.l0 k l0 ([] : List Int) 0) = some (r1, r2, r3) := h
  clear h
  have H' := Aside0.mk H
  clear H
  go_enter Try.func12, Try.ntmps12
  go_wp2
  go_loopg [5, 6] k (fun kq v5 v6 w' => ∃ (x5_1 : List Int) (x6_1 : Int), v6 = .int .i64 x6_1 ∧ Aside0 (orthoepyref02_All.l0 kq l0 x5_1 x6_1 = some (r1, r2, r3)) ∧ Aside0 (kq ≤ k) ∧ Aside0 (Kd.R (Kd.int .i32) 21 w' w.heap.size (fun _ => True) v5 x5_1) ∧ Aside0 (Below w.heap.size w w'))
  case atStart => exact ⟨(([] : List Int)), (0), (by first | rfl | (simp; done) | (simp [*]; done)), H', ⟨Nat.le_refl _⟩, ⟨by first | exact Kd.R_nil _ _ _ _ _ | exact Kd.N_nil _ _ _ _ _ | exact Kd.V_nil _ _ _ _ _ | exact Kd.Q_nil _ _ _ _ _ | exact Kd.S_nil _ _ _ _ _⟩, ⟨by repeat (first | (with_reducible first | exact HB.out | apply below_alloc | apply pw_below_drewN | apply below_drew1) | exact HB.out)⟩⟩
  case round =>
    clear H'
    try clear c1
    obtain ⟨x5_1, x6_1, rfl, HA, HK1, HO_5, HB⟩ := hrel
    cases gk with
    | zero => exact absurd HA.out (by simp [orthoepyref02_All.l0])
    | succ k1 =>
      have H := HA.out
      clear HA
      simp only [orthoepyref02_All.l0] at H
      by_cases c2 : x6_1 < (l0.length : Int)
      · rw [if_pos c2] at H
        have c2b0 : decide (x6_1 < (l0.length : Int)) = true := decide_eq_true c2
        clear c2
        by_cases c3 : 0 ≤ x6_1
        · rw [if_pos c3] at H
          have c3b0 := eq_true c3
          have c3b1 : decide (0 ≤ x6_1) = true := decide_eq_true c3
          clear c3
          by_cases c4 : x6_1 ≤ (l0.length : Int)
          · rw [if_pos c4] at H
            have c4b0 := eq_true c4
            have c4b1 : decide (x6_1 ≤ (l0.length : Int)) = true := decide_eq_true c4
            clear c4
            replace H := Option.bind_eq_some_iff.mp H
            obtain ⟨⟨t232, t233, t234⟩, A50, H⟩ := H
            replace H : (if t234 = true then (if x5_1.length < 35184372088832 then (orthoepyref02_All.l0 k1 l0 (x5_1 ++ [t232]) (wrap64 (x6_1 + t233))) else (none)) else (some (([] : List Int), wrap64 (x6_1 + t233), false))) = some (r1, r2, r3) := H
            have A5 := Aside0.mk A50
            clear A50
            by_cases c6 : t234 = true
            · subst c6
              have H1 : (if x5_1.length < 35184372088832 then (orthoepyref02_All.l0 k1 l0 (x5_1 ++ [t232]) (wrap64 (x6_1 + t233))) else (none)) = some (r1, r2, r3) := by rw [if_pos rfl] at H; exact H
              clear H
              have H := H1
              clear H1
              by_cases c7 : x5_1.length < 35184372088832
              · rw [if_pos c7] at H
                have LMc7 := Aside0.mk c7
                clear c7
                obtain ⟨y235, hy235⟩ : ∃ y_ : List Int, y_ = (x5_1 ++ [t232]) := ⟨_, rfl⟩
                replace H : (orthoepyref02_All.l0 k1 l0 y235 (wrap64 (x6_1 + t233))) = some (r1, r2, r3) := by first | (rw [hy235]; with_reducible exact H) | (have H2_ := (Option.bind_some _ _).symm.trans H; rw [hy235]; with_reducible exact H2_) | (have H2_ := (Option.bind_some _ _).symm.trans H; with_reducible exact H2_) | with_reducible exact H | (rw [hy235]; exact H) | exact H
                have Ny235 := Aside0.mk hy235
                clear hy235
                have H' := Aside0.mk H
                clear H
                obtain ⟨i08, hi08, _, hsz8, _⟩ := info_parts info5
                obtain ⟨A8, hcut8, hA8, hC8⟩ := print_drop_of (P := Try.prog) (Value.int .u8) 0 22 5 .i64 Try.underlying22 hi08 hsz8 A0 c0 l0 x6_1 (of_decide_eq_true (by first | (with_reducible assumption) | assumption)) (of_decide_eq_true (by first | (with_reducible assumption) | assumption)) HC0.out
                have HR231 := Aside0.mk (Kd.C_of_reads (h1 := fun _ => rfl) (hA8 _ (Kd.reads_of_C HR0.out)))
                have HC231 := Aside0.mk hC8
                clear hA8 hC8 hi08 hsz8
                go_wp2_with (first | ((with_reducible refine gate_callee (f := 10) rfl ?_); refine goesL_ (some 18) rfl rfl Try.func10 (by kernel_rfl) rfl #[.slice A8 (l0.drop (x6_1 : Int).toNat).length (c0 - x6_1.toNat)] rfl (by (try simp only [List.map_toArray, List.map_cons, List.map_nil]); first | done | (rw [show (l0.drop (x6_1 : Int).toNat).length = (l0.length - x6_1.toNat) from List.length_drop] <;> rfl) | rfl | (simp only [List.length_drop, List.length_take]; rfl)) ?_; (with_reducible refine (orthoepyref02_First.calls k1 _ _ (l0.drop (x6_1 : Int).toNat) t232 t233 true _ ?side1 ?side2 A5.out).mono ?_); (case side1 => repeat (first | exact (Kd.C_below HR231.out HB.out) | (with_reducible refine Kd.C_alloc ?_ _) | (with_reducible refine Kd.C_drewN ?_ _) | (with_reducible refine Kd.C_drew ?_))); (case side2 => exact HC231.out); rintro e w' ⟨rfl, ⟨nd, rfl⟩⟩; refine ⟨_, rfl, ?_⟩) | ((with_reducible refine gate_builtin (b := .append) (xs := #[.tmp 27, .tmp 29]) rfl ?_); at_builtin; refine Kd.R_append (Kd.int .i32) (w0 := w) w.heap.size rfl (.tmp 27) (.tmp 29) 23 21 (.int .i32 0) 4 rfl Try.underlying23 info21 rfl (by decide) (by omega) u5 x5_1 t232 [.int .i32 t232] (fun _ => True) (fun _ => False) rfl rfl ?aP (fun _ hk => hk.elim) ?aF ?aO ?aB ?aS ?aL ?_; (case aP => exact rfl); (case aB => exact (by repeat (first | (with_reducible first | exact HB.out | apply below_alloc | apply pw_below_drewN | apply below_drew1) | exact HB.out))); (case aF => exact (fun _ _ => trivial)); (case aO => exact (by (with_reducible repeat (first | apply Kd.R_alloc | apply Kd.R_drewN | apply Kd.R_drew)); exact HO_5.out)); (case aS => exact (below_size (by repeat (first | (with_reducible first | exact HB.out | apply below_alloc | apply pw_below_drewN | apply below_drew1) | exact HB.out)))); (case aL => have := LMc7.out; omega); intro v236 w9 ho hb hg hat; rw [← Ny235.out] at ho; have n0_ := Aside0.mk (hb); have n1_ := Aside0.mk (ho); clear HB; clear HO_5; have HB := n0_; have HO237 := n1_; clear n0_ n1_; clear ho hb hg hat))
                go_roundg k1
                case measure => have := HK1.out; omega
                case rel => exact ⟨(y235), (wrap64 (x6_1 + t233)), (by first | rfl | (simp; done) | (simp [*]; done)), H', ⟨by have := HK1.out; omega⟩, ⟨by (with_reducible repeat (first | apply Kd.R_alloc | apply Kd.R_drewN | apply Kd.R_drew)); exact HO237.out⟩, ⟨by repeat (first | (with_reducible first | exact HB.out | apply below_alloc | apply pw_below_drewN | apply below_drew1) | exact HB.out)⟩⟩
              · rw [if_neg c7] at H
                exact absurd H (by simp)
            · replace c6 := Bool.eq_false_iff.mpr c6
              subst c6
              have H1 : (some (([] : List Int), wrap64 (x6_1 + t233), false)) = some (r1, r2, r3) := by rw [if_neg (show ¬ (false = true) by decide)] at H; exact H
              clear H
              have H := H1
              clear H1
              simp only [Option.some.injEq, Prod.mk.injEq] at H
              obtain ⟨rfl, rfl, rfl⟩ := H
              obtain ⟨i010, hi010, _, hsz10, _⟩ := info_parts info5
              obtain ⟨A10, hcut10, hA10, hC10⟩ := print_drop_of (P := Try.prog) (Value.int .u8) 0 22 5 .i64 Try.underlying22 hi010 hsz10 A0 c0 l0 x6_1 (of_decide_eq_true (by first | (with_reducible assumption) | assumption)) (of_decide_eq_true (by first | (with_reducible assumption) | assumption)) HC0.out
              have HR231 := Aside0.mk (Kd.C_of_reads (h1 := fun _ => rfl) (hA10 _ (Kd.reads_of_C HR0.out)))
              have HC231 := Aside0.mk hC10
              clear hA10 hC10 hi010 hsz10
              go_wp2_with (first | ((with_reducible refine gate_callee (f := 10) rfl ?_); refine goesL_ (some 18) rfl rfl Try.func10 (by kernel_rfl) rfl #[.slice A10 (l0.drop (x6_1 : Int).toNat).length (c0 - x6_1.toNat)] rfl (by (try simp only [List.map_toArray, List.map_cons, List.map_nil]); first | done | (rw [show (l0.drop (x6_1 : Int).toNat).length = (l0.length - x6_1.toNat) from List.length_drop] <;> rfl) | rfl | (simp only [List.length_drop, List.length_take]; rfl)) ?_; (with_reducible refine (orthoepyref02_First.calls k1 _ _ (l0.drop (x6_1 : Int).toNat) t232 t233 false _ ?side1 ?side2 A5.out).mono ?_); (case side1 => repeat (first | exact (Kd.C_below HR231.out HB.out) | (with_reducible refine Kd.C_alloc ?_ _) | (with_reducible refine Kd.C_drewN ?_ _) | (with_reducible refine Kd.C_drew ?_))); (case side2 => exact HC231.out); rintro e w' ⟨rfl, ⟨nd, rfl⟩⟩; refine ⟨_, rfl, ?_⟩))
              go_ret3
              exact ⟨_, by first | rfl | (simp [errW_none, errW_some] <;> rfl) | (simp [*, errW_none, errW_some] <;> rfl), by first | exact Kd.R_nil _ _ _ _ _ | exact Kd.N_nil _ _ _ _ _ | exact Kd.V_nil _ _ _ _ _ | exact Kd.Q_nil _ _ _ _ _ | exact Kd.S_nil _ _ _ _ _, by repeat (first | (with_reducible first | exact HB.out | apply below_alloc | apply pw_below_drewN | apply below_drew1) | exact HB.out)⟩
          · rw [if_neg c4] at H
            exact absurd H (by simp)
        · rw [if_neg c3] at H
          exact absurd H (by simp)
      · rw [if_neg c2] at H
        have c2b0 : decide (x6_1 < (l0.length : Int)) = false := decide_eq_false c2
        clear c2
        simp only [Option.some.injEq, Prod.mk.injEq] at H
        obtain ⟨rfl, rfl, rfl⟩ := H
        go_wp2
        go_ret3
        exact ⟨_, by first | rfl | (simp [errW_none, errW_some] <;> rfl) | (simp [*, errW_none, errW_some] <;> rfl), by (with_reducible repeat (first | apply Kd.R_alloc | apply Kd.R_drewN | apply Kd.R_drew)); exact HO_5.out, by repeat (first | (with_reducible first | exact HB.out | apply below_alloc | apply pw_below_drewN | apply below_drew1) | exact HB.out)⟩

/-! ### orthoepyref07_Same: function 13 -/
def orthoepyref07_Same.l0 : Nat → List Int → List Int → Int → Option (Bool)
  | 0, _, _, _ => none
  | k + 1, x0, x1, x5 => if x5 < (x0.length : Int) then (if 0 ≤ x5 then (if x5 < (x1.length : Int) then (if (rd x0 x5) = (rd x1 x5) then (orthoepyref07_Same.l0 k x0 x1 (wrap64 (x5 + 1))) else (some false)) else (none)) else (none)) else (some true)
def orthoepyref07_Same.f (k : Nat) (l0 : List Int) (l1 : List Int) : Option (Bool) := if (l0.length : Int) = (l1.length : Int) then (orthoepyref07_Same.l0 k l0 l1 0) else (some false)
theorem orthoepyref07_Same.mono_l : ∀ k, (∀ y0 y1 y2, LeO (orthoepyref07_Same.l0 k y0 y1 y2) (orthoepyref07_Same.l0 (k + 1) y0 y1 y2))
  | 0 => fun _ _ _ r h => by simp [orthoepyref07_Same.l0] at h
  | k + 1 => by
    have ih0 := orthoepyref07_Same.mono_l k
    · intro y0 y1 y2
      unfold orthoepyref07_Same.l0
      repeat' first
      | (with_reducible exact ih0 _ _ _)
      | (with_reducible exact LeO.refl _)
      | (with_reducible exact LeO.none _)
      | (with_reducible refine LeO.ite ?_ ?_)
      | (with_reducible refine LeO.bind ?_ (fun _ => ?_))
      | exact ih0 _ _ _
      | exact LeO.none _
      | refine LeO.ite ?_ ?_
      | refine LeO.bind ?_ (fun _ => ?_)
theorem orthoepyref07_Same.mono : ∀ a0 a1 k, LeO (orthoepyref07_Same.f k a0 a1) (orthoepyref07_Same.f (k + 1) a0 a1) := by
  intro a0 a1 k
  have ih0 := orthoepyref07_Same.mono_l k
  unfold orthoepyref07_Same.f
  repeat' first
      | (with_reducible exact ih0 _ _ _)
      | (with_reducible exact LeO.refl _)
      | (with_reducible exact LeO.none _)
      | (with_reducible refine LeO.ite ?_ ?_)
      | (with_reducible refine LeO.bind ?_ (fun _ => ?_))
      | exact ih0 _ _ _
      | exact LeO.none _
      | refine LeO.ite ?_ ?_
      | refine LeO.bind ?_ (fun _ => ?_)
set_option maxHeartbeats 8000000 in
set_option maxRecDepth 100000 in
theorem orthoepyref07_Same.calls (k : Nat) (A0 : Option Addr) (c0 : Nat) (l0 : List Int) (A1 : Option Addr) (c1 : Nat) (l1 : List Int) (r : Bool) (w : World) (hr0 : Kd.C (Kd.int .i32) w A0 l0.length l0) (hc0 : l0.length ≤ c0) (hr1 : Kd.C (Kd.int .i32) w A1 l1.length l1) (hc1 : l1.length ≤ c1) (h : orthoepyref07_Same.f k l0 l1 = some r) :
    Calls Try.prog 13 #[.slice A0 l0.length c0, .slice A1 l1.length c1] w fun e w' => e = .returned (.bool r) ∧ Drawn0 w w' := by
  have HR0 := Aside0.mk hr0
  have HC0 := Aside0.mk hc0
  clear hr0 hc0
  have HR1 := Aside0.mk hr1
  have HC1 := Aside0.mk hc1
  clear hr1 hc1
  have H : (if (l0.length : Int) = (l1.length : Int) then (orthoepyref07_Same.l0 k l0 l1 0) else (some false)) = some r := h
  clear h
  by_cases c3 : (l0.length : Int) = (l1.length : Int)
  · rw [if_pos c3] at H
    have c3b0 : ((l0.length : Int) == (l1.length : Int)) = true := beq_iff_eq.mpr c3
    have c3b1 : ((l0.length : Int) != (l1.length : Int)) = false := bne_eq_false_iff_eq.mpr c3
    have c3b2 : (l0.length == l1.length) = true := by first | simpa using c3 | (simp at c3 ⊢; omega)
    clear c3
    have H' := Aside0.mk H
    clear H
    go_enter Try.func13, Try.ntmps13
    go_wp2
    repeat (go_quiet (fail); try go_wp2)
    go_loopg [5] k (fun kq v5 w' => ∃ (x5_1 : Int), v5 = .int .i64 x5_1 ∧ Aside0 (orthoepyref07_Same.l0 kq l0 l1 x5_1 = some r) ∧ Aside0 (kq ≤ k) ∧ Drawn0 w w')
    case atStart => exact ⟨(0), (by first | rfl | (simp; done) | (simp [*]; done)), H', ⟨Nat.le_refl _⟩, by repeat (first | exact Drawn0.refl _ | apply Drawn0.step)⟩
    case round =>
      clear H'
      try clear c1
      try clear p2
      try clear c3
      try clear c3b0
      try clear c3b1
      try clear c3b2
      obtain ⟨x5_1, rfl, HA, HK1, ⟨m1, rfl⟩⟩ := hrel
      cases gk with
      | zero => exact absurd HA.out (by simp [orthoepyref07_Same.l0])
      | succ k1 =>
        have H := HA.out
        clear HA
        simp only [orthoepyref07_Same.l0] at H
        by_cases c4 : x5_1 < (l0.length : Int)
        · rw [if_pos c4] at H
          have c4b0 : decide (x5_1 < (l0.length : Int)) = true := decide_eq_true c4
          clear c4
          by_cases c5 : 0 ≤ x5_1
          · rw [if_pos c5] at H
            have c5b0 : decide (0 ≤ x5_1) = true := decide_eq_true c5
            clear c5
            by_cases c6 : x5_1 < (l1.length : Int)
            · rw [if_pos c6] at H
              have c6b0 : decide (x5_1 < (l1.length : Int)) = true := decide_eq_true c6
              clear c6
              by_cases c7 : (rd l0 x5_1) = (rd l1 x5_1)
              · rw [if_pos c7] at H
                have c7b0 : ((rd l0 x5_1) == (rd l1 x5_1)) = true := beq_iff_eq.mpr c7
                have c7b1 : ((rd l0 x5_1) != (rd l1 x5_1)) = false := bne_eq_false_iff_eq.mpr c7
                clear c7
                have H' := Aside0.mk H
                clear H
                have p238 : 0 ≤ (x5_1 : Int) := of_decide_eq_true (by first | (with_reducible assumption) | assumption)
                have q238 : x5_1 < (l0.length : Int) := of_decide_eq_true (by first | (with_reducible assumption) | assumption)
                obtain ⟨ad238, e238, hx238_0⟩ := Kd.at_int HR0.out x5_1 p238 q238
                cases e238
                replace p238 := eq_true p238
                replace q238 := eq_true q238
                have p239 : 0 ≤ (x5_1 : Int) := of_decide_eq_true (by first | (with_reducible assumption) | assumption)
                have q239 : x5_1 < (l1.length : Int) := of_decide_eq_true (by first | (with_reducible assumption) | assumption)
                obtain ⟨ad239, e239, hx239_0⟩ := Kd.at_int HR1.out x5_1 p239 q239
                cases e239
                replace p239 := eq_true p239
                replace q239 := eq_true q239
                go_wp2
                repeat (go_quiet (fail); try go_wp2)
                go_roundg k1
                case measure => have := HK1.out; omega
                case rel => exact ⟨(wrap64 (x5_1 + 1)), (by first | rfl | (simp; done) | (simp [*]; done)), H', ⟨by have := HK1.out; omega⟩, by repeat (first | exact Drawn0.refl _ | apply Drawn0.step)⟩
              · rw [if_neg c7] at H
                have c7b0 : ((rd l0 x5_1) == (rd l1 x5_1)) = false := beq_eq_false_iff_ne.mpr c7
                have c7b1 : ((rd l0 x5_1) != (rd l1 x5_1)) = true := bne_iff_ne.mpr c7
                obtain rfl := Option.some.inj H
                have p238 : 0 ≤ (x5_1 : Int) := of_decide_eq_true (by first | (with_reducible assumption) | assumption)
                have q238 : x5_1 < (l0.length : Int) := of_decide_eq_true (by first | (with_reducible assumption) | assumption)
                obtain ⟨ad238, e238, hx238_0⟩ := Kd.at_int HR0.out x5_1 p238 q238
                cases e238
                replace p238 := eq_true p238
                replace q238 := eq_true q238
                have p239 : 0 ≤ (x5_1 : Int) := of_decide_eq_true (by first | (with_reducible assumption) | assumption)
                have q239 : x5_1 < (l1.length : Int) := of_decide_eq_true (by first | (with_reducible assumption) | assumption)
                obtain ⟨ad239, e239, hx239_0⟩ := Kd.at_int HR1.out x5_1 p239 q239
                cases e239
                replace p239 := eq_true p239
                replace q239 := eq_true q239
                go_wp2
                repeat (go_quiet (fail); try go_wp2)
                go_ret
                exact ⟨by first | rfl | (simp; done) | (simp [*]; done), by repeat (first | exact Drawn0.refl _ | apply Drawn0.step)⟩
            · rw [if_neg c6] at H
              exact absurd H (by simp)
          · rw [if_neg c5] at H
            exact absurd H (by simp)
        · rw [if_neg c4] at H
          have c4b0 : decide (x5_1 < (l0.length : Int)) = false := decide_eq_false c4
          clear c4
          obtain rfl := Option.some.inj H
          go_wp2
          repeat (go_quiet (fail); try go_wp2)
          go_ret
          exact ⟨by first | rfl | (simp; done) | (simp [*]; done), by repeat (first | exact Drawn0.refl _ | apply Drawn0.step)⟩
  · rw [if_neg c3] at H
    have c3b0 : ((l0.length : Int) == (l1.length : Int)) = false := beq_eq_false_iff_ne.mpr c3
    have c3b1 : ((l0.length : Int) != (l1.length : Int)) = true := bne_iff_ne.mpr c3
    have c3b2 : (l0.length == l1.length) = false := by first | simpa using c3 | (simp at c3 ⊢; omega)
    obtain rfl := Option.some.inj H
    go_enter Try.func13, Try.ntmps13
    go_wp2
    repeat (go_quiet (fail); try go_wp2)
    go_ret
    exact ⟨by first | rfl | (simp; done) | (simp [*]; done), by repeat (first | exact Drawn0.refl _ | apply Drawn0.step)⟩

/-! ### orthoepyref01_Is: function 25 -/
def orthoepyref01_Is.f (a0 : Int) : Option (Bool) := if a0 ≥ 0 then (if a0 < 55296 then (some true) else (if a0 > 57343 then (some (decide (a0 ≤ 1114111))) else (some false))) else (if a0 > 57343 then (some (decide (a0 ≤ 1114111))) else (some false))
set_option maxHeartbeats 8000000 in
set_option maxRecDepth 100000 in
theorem orthoepyref01_Is.calls (a0 : Int) (r : Bool) (w : World) (h : orthoepyref01_Is.f a0 = some r) :
    Calls Try.prog 25 #[.int .i32 a0] w fun e w' => e = .returned (.bool r) ∧ Drawn0 w w' := by
  have H : (if a0 ≥ 0 then (if a0 < 55296 then (some true) else (if a0 > 57343 then (some (decide (a0 ≤ 1114111))) else (some false))) else (if a0 > 57343 then (some (decide (a0 ≤ 1114111))) else (some false))) = some r := h
  clear h
  by_cases c2 : a0 ≥ 0
  · rw [if_pos c2] at H
    have c2b0 : decide (0 ≤ a0) = true := decide_eq_true c2
    clear c2
    by_cases c3 : a0 < 55296
    · rw [if_pos c3] at H
      have c3b0 : decide (a0 < 55296) = true := decide_eq_true c3
      clear c3
      obtain rfl := Option.some.inj H
      go_enter Try.func25, Try.ntmps25
      go_wp2
      go_ret
      exact ⟨by first | rfl | (simp; done) | (simp [*]; done), by repeat (first | exact Drawn0.refl _ | apply Drawn0.step)⟩
    · rw [if_neg c3] at H
      have c3b0 : decide (a0 < 55296) = false := decide_eq_false c3
      clear c3
      by_cases c4 : a0 > 57343
      · rw [if_pos c4] at H
        have c4b0 : decide (57343 < a0) = true := decide_eq_true c4
        clear c4
        obtain rfl := Option.some.inj H
        go_enter Try.func25, Try.ntmps25
        go_wp2
        go_ret
        exact ⟨by first | rfl | (simp; done) | (simp [*]; done), by repeat (first | exact Drawn0.refl _ | apply Drawn0.step)⟩
      · rw [if_neg c4] at H
        have c4b0 : decide (57343 < a0) = false := decide_eq_false c4
        clear c4
        obtain rfl := Option.some.inj H
        go_enter Try.func25, Try.ntmps25
        go_wp2
        go_ret
        exact ⟨by first | rfl | (simp; done) | (simp [*]; done), by repeat (first | exact Drawn0.refl _ | apply Drawn0.step)⟩
  · rw [if_neg c2] at H
    have c2b0 : decide (0 ≤ a0) = false := decide_eq_false c2
    clear c2
    by_cases c5 : a0 > 57343
    · rw [if_pos c5] at H
      have c5b0 : decide (57343 < a0) = true := decide_eq_true c5
      clear c5
      obtain rfl := Option.some.inj H
      go_enter Try.func25, Try.ntmps25
      go_wp2
      go_ret
      exact ⟨by first | rfl | (simp; done) | (simp [*]; done), by repeat (first | exact Drawn0.refl _ | apply Drawn0.step)⟩
    · rw [if_neg c5] at H
      have c5b0 : decide (57343 < a0) = false := decide_eq_false c5
      clear c5
      obtain rfl := Option.some.inj H
      go_enter Try.func25, Try.ntmps25
      go_wp2
      go_ret
      exact ⟨by first | rfl | (simp; done) | (simp [*]; done), by repeat (first | exact Drawn0.refl _ | apply Drawn0.step)⟩

/-! ### orthoepyref02_Bytes: function 17 -/
def orthoepyref02_Bytes.f (a0 : Int) : Option (List Int) := (orthoepyref01_Is.f a0).bind fun t240 => (if t240 = true then (if a0 < 128 then (some (([(a0) % 256] : List Int))) else (if a0 < 2048 then (some (([(wrap32 (192 + (wrap32 (Int.tdiv a0 64)))) % 256, (wrap32 (128 + (Int.tmod a0 64))) % 256] : List Int))) else (if a0 < 65536 then (some (([(wrap32 (224 + (wrap32 (Int.tdiv a0 4096)))) % 256, (wrap32 (128 + (Int.tmod (wrap32 (Int.tdiv a0 64)) 64))) % 256, (wrap32 (128 + (Int.tmod a0 64))) % 256] : List Int))) else (some (([(wrap32 (240 + (wrap32 (Int.tdiv a0 262144)))) % 256, (wrap32 (128 + (Int.tmod (wrap32 (Int.tdiv a0 4096)) 64))) % 256, (wrap32 (128 + (Int.tmod (wrap32 (Int.tdiv a0 64)) 64))) % 256, (wrap32 (128 + (Int.tmod a0 64))) % 256] : List Int)))))) else (some ([] : List Int)))
set_option maxHeartbeats 8000000 in
set_option maxRecDepth 100000 in
theorem orthoepyref02_Bytes.calls (a0 : Int) (r : List Int) (w : World) (h : orthoepyref02_Bytes.f a0 = some r) :
    Calls Try.prog 17 #[.int .i32 a0] w fun e w' => ∃ v0_ : Value, e = .returned (v0_) ∧ Kd.R (Kd.int .u8) 5 w' w.heap.size (fun _ => True) v0_ r ∧ Below w.heap.size w w' := by
  have HB := Aside0.mk (Below.refl w.heap.size w)
  have H : ((orthoepyref01_Is.f a0).bind fun t240 => (if t240 = true then (if a0 < 128 then (some (([(a0) % 256] : List Int))) else (if a0 < 2048 then (some (([(wrap32 (192 + (wrap32 (Int.tdiv a0 64)))) % 256, (wrap32 (128 + (Int.tmod a0 64))) % 256] : List Int))) else (if a0 < 65536 then (some (([(wrap32 (224 + (wrap32 (Int.tdiv a0 4096)))) % 256, (wrap32 (128 + (Int.tmod (wrap32 (Int.tdiv a0 64)) 64))) % 256, (wrap32 (128 + (Int.tmod a0 64))) % 256] : List Int))) else (some (([(wrap32 (240 + (wrap32 (Int.tdiv a0 262144)))) % 256, (wrap32 (128 + (Int.tmod (wrap32 (Int.tdiv a0 4096)) 64))) % 256, (wrap32 (128 + (Int.tmod (wrap32 (Int.tdiv a0 64)) 64))) % 256, (wrap32 (128 + (Int.tmod a0 64))) % 256] : List Int)))))) else (some ([] : List Int)))) = some r := h
  clear h
  replace H := Option.bind_eq_some_iff.mp H
  obtain ⟨t240, A20, H⟩ := H
  replace H : (if t240 = true then (if a0 < 128 then (some (([(a0) % 256] : List Int))) else (if a0 < 2048 then (some (([(wrap32 (192 + (wrap32 (Int.tdiv a0 64)))) % 256, (wrap32 (128 + (Int.tmod a0 64))) % 256] : List Int))) else (if a0 < 65536 then (some (([(wrap32 (224 + (wrap32 (Int.tdiv a0 4096)))) % 256, (wrap32 (128 + (Int.tmod (wrap32 (Int.tdiv a0 64)) 64))) % 256, (wrap32 (128 + (Int.tmod a0 64))) % 256] : List Int))) else (some (([(wrap32 (240 + (wrap32 (Int.tdiv a0 262144)))) % 256, (wrap32 (128 + (Int.tmod (wrap32 (Int.tdiv a0 4096)) 64))) % 256, (wrap32 (128 + (Int.tmod (wrap32 (Int.tdiv a0 64)) 64))) % 256, (wrap32 (128 + (Int.tmod a0 64))) % 256] : List Int)))))) else (some ([] : List Int))) = some r := H
  have A2 := Aside0.mk A20
  clear A20
  by_cases c3 : t240 = true
  · subst c3
    have H1 : (if a0 < 128 then (some (([(a0) % 256] : List Int))) else (if a0 < 2048 then (some (([(wrap32 (192 + (wrap32 (Int.tdiv a0 64)))) % 256, (wrap32 (128 + (Int.tmod a0 64))) % 256] : List Int))) else (if a0 < 65536 then (some (([(wrap32 (224 + (wrap32 (Int.tdiv a0 4096)))) % 256, (wrap32 (128 + (Int.tmod (wrap32 (Int.tdiv a0 64)) 64))) % 256, (wrap32 (128 + (Int.tmod a0 64))) % 256] : List Int))) else (some (([(wrap32 (240 + (wrap32 (Int.tdiv a0 262144)))) % 256, (wrap32 (128 + (Int.tmod (wrap32 (Int.tdiv a0 4096)) 64))) % 256, (wrap32 (128 + (Int.tmod (wrap32 (Int.tdiv a0 64)) 64))) % 256, (wrap32 (128 + (Int.tmod a0 64))) % 256] : List Int)))))) = some r := by rw [if_pos rfl] at H; exact H
    clear H
    have H := H1
    clear H1
    by_cases c4 : a0 < 128
    · rw [if_pos c4] at H
      have c4b0 : decide (a0 < 128) = true := decide_eq_true c4
      clear c4
      obtain ⟨y241, hy241⟩ : ∃ y_ : List Int, y_ = (([(a0) % 256] : List Int)) := ⟨_, rfl⟩
      replace H : (some y241) = some r := by first | (rw [hy241]; with_reducible exact H) | (have H2_ := (Option.bind_some _ _).symm.trans H; rw [hy241]; with_reducible exact H2_) | (have H2_ := (Option.bind_some _ _).symm.trans H; with_reducible exact H2_) | with_reducible exact H | (rw [hy241]; exact H) | exact H
      have Ny241 := Aside0.mk hy241
      clear hy241
      obtain rfl := Option.some.inj H
      go_enter Try.func17, Try.ntmps17
      go_wp2_with (first | ((with_reducible refine gate_callee (f := 25) rfl ?_); refine goesL_ (some 5) rfl rfl Try.func25 (by kernel_rfl) rfl #[.int .i32 a0] rfl (by (try simp only [List.map_toArray, List.map_cons, List.map_nil]); first | done | rfl | (simp only [List.length_drop, List.length_take]; rfl)) ?_; (with_reducible refine (orthoepyref01_Is.calls a0 true _ A2.out).mono ?_); rintro e w' ⟨rfl, ⟨nd, rfl⟩⟩; refine ⟨_, rfl, ?_⟩) | ((with_reducible refine gate_dst (N := 12) rfl ?_); refine Kd.R_lit (Kd.int .u8) _ 5 ?hg (N := 12) ?hd (xs := ([(a0) % 256] : List Int)) (inner := [.int .u8 ((a0) % 256)]) (ok := fun _ => True) (okp := fun _ => True) ?hr ?hp (fun _ hk => hk) trivial (Below.refl _ _) (Nat.le_refl _) (by simp) ?_; (case hd => rfl); (case hg => rfl); (case hr => first | (go_simp; done) | (go_simp; rfl)); (case hp => exact (Reps.one (show Kd.M (Kd.int .u8) _ _ _ ((a0) % 256) [.int .u8 ((a0) % 256)] from rfl) (Reps.none _ _))); intro v242 w5 ho6 hb hg_ hnew_; clear hg_ hnew_; (first | rw [← Ny241.out] at ho6 | (simp only [Int.reduceToNat] at ho6; rw [← Ny241.out] at ho6)); have n0_ := Aside0.mk (Kd.R_lower ho6 (below_size (by repeat (first | (with_reducible first | exact HB.out | apply below_alloc | apply pw_below_drewN | apply below_drew1) | exact HB.out)))); have n1_ := Aside0.mk (below_step (by repeat (first | (with_reducible first | exact HB.out | apply below_alloc | apply pw_below_drewN | apply below_drew1) | exact HB.out)) hb); clear HB; have HO243 := n0_; have HB := n1_; clear n0_ n1_; clear hb ho6))
      go_ret
      exact ⟨_, by first | rfl | (simp [errW_none, errW_some] <;> rfl) | (simp [*, errW_none, errW_some] <;> rfl), by (with_reducible repeat (first | apply Kd.R_alloc | apply Kd.R_drewN | apply Kd.R_drew)); exact HO243.out, by repeat (first | (with_reducible first | exact HB.out | apply below_alloc | apply pw_below_drewN | apply below_drew1) | exact HB.out)⟩
    · rw [if_neg c4] at H
      have c4b0 : decide (a0 < 128) = false := decide_eq_false c4
      clear c4
      by_cases c7 : a0 < 2048
      · rw [if_pos c7] at H
        have c7b0 : decide (a0 < 2048) = true := decide_eq_true c7
        clear c7
        obtain ⟨y244, hy244⟩ : ∃ y_ : List Int, y_ = (([(wrap32 (192 + (wrap32 (Int.tdiv a0 64)))) % 256, (wrap32 (128 + (Int.tmod a0 64))) % 256] : List Int)) := ⟨_, rfl⟩
        replace H : (some y244) = some r := by first | (rw [hy244]; with_reducible exact H) | (have H2_ := (Option.bind_some _ _).symm.trans H; rw [hy244]; with_reducible exact H2_) | (have H2_ := (Option.bind_some _ _).symm.trans H; with_reducible exact H2_) | with_reducible exact H | (rw [hy244]; exact H) | exact H
        have Ny244 := Aside0.mk hy244
        clear hy244
        obtain rfl := Option.some.inj H
        go_enter Try.func17, Try.ntmps17
        go_wp2_with (first | ((with_reducible refine gate_callee (f := 25) rfl ?_); refine goesL_ (some 5) rfl rfl Try.func25 (by kernel_rfl) rfl #[.int .i32 a0] rfl (by (try simp only [List.map_toArray, List.map_cons, List.map_nil]); first | done | rfl | (simp only [List.length_drop, List.length_take]; rfl)) ?_; (with_reducible refine (orthoepyref01_Is.calls a0 true _ A2.out).mono ?_); rintro e w' ⟨rfl, ⟨nd, rfl⟩⟩; refine ⟨_, rfl, ?_⟩) | ((with_reducible refine gate_dst (N := 24) rfl ?_); refine Kd.R_lit (Kd.int .u8) _ 5 ?hg (N := 24) ?hd (xs := ([(wrap32 (192 + (wrap32 (Int.tdiv a0 64)))) % 256, (wrap32 (128 + (Int.tmod a0 64))) % 256] : List Int)) (inner := [.int .u8 ((wrap32 (192 + (wrap32 (Int.tdiv a0 64)))) % 256), .int .u8 ((wrap32 (128 + (Int.tmod a0 64))) % 256)]) (ok := fun _ => True) (okp := fun _ => True) ?hr ?hp (fun _ hk => hk) trivial (Below.refl _ _) (Nat.le_refl _) (by simp) ?_; (case hd => rfl); (case hg => rfl); (case hr => first | (go_simp; done) | (go_simp; rfl)); (case hp => exact (Reps.one (show Kd.M (Kd.int .u8) _ _ _ ((wrap32 (192 + (wrap32 (Int.tdiv a0 64)))) % 256) [.int .u8 ((wrap32 (192 + (wrap32 (Int.tdiv a0 64)))) % 256)] from rfl) (Reps.one (show Kd.M (Kd.int .u8) _ _ _ ((wrap32 (128 + (Int.tmod a0 64))) % 256) [.int .u8 ((wrap32 (128 + (Int.tmod a0 64))) % 256)] from rfl) (Reps.none _ _)))); intro v245 w8 ho9 hb hg_ hnew_; clear hg_ hnew_; (first | rw [← Ny244.out] at ho9 | (simp only [Int.reduceToNat] at ho9; rw [← Ny244.out] at ho9)); have n0_ := Aside0.mk (Kd.R_lower ho9 (below_size (by repeat (first | (with_reducible first | exact HB.out | apply below_alloc | apply pw_below_drewN | apply below_drew1) | exact HB.out)))); have n1_ := Aside0.mk (below_step (by repeat (first | (with_reducible first | exact HB.out | apply below_alloc | apply pw_below_drewN | apply below_drew1) | exact HB.out)) hb); clear HB; have HO246 := n0_; have HB := n1_; clear n0_ n1_; clear hb ho9))
        go_ret
        exact ⟨_, by first | rfl | (simp [errW_none, errW_some] <;> rfl) | (simp [*, errW_none, errW_some] <;> rfl), by (with_reducible repeat (first | apply Kd.R_alloc | apply Kd.R_drewN | apply Kd.R_drew)); exact HO246.out, by repeat (first | (with_reducible first | exact HB.out | apply below_alloc | apply pw_below_drewN | apply below_drew1) | exact HB.out)⟩
      · rw [if_neg c7] at H
        have c7b0 : decide (a0 < 2048) = false := decide_eq_false c7
        clear c7
        by_cases c10 : a0 < 65536
        · rw [if_pos c10] at H
          have c10b0 : decide (a0 < 65536) = true := decide_eq_true c10
          clear c10
          obtain ⟨y247, hy247⟩ : ∃ y_ : List Int, y_ = (([(wrap32 (224 + (wrap32 (Int.tdiv a0 4096)))) % 256, (wrap32 (128 + (Int.tmod (wrap32 (Int.tdiv a0 64)) 64))) % 256, (wrap32 (128 + (Int.tmod a0 64))) % 256] : List Int)) := ⟨_, rfl⟩
          replace H : (some y247) = some r := by first | (rw [hy247]; with_reducible exact H) | (have H2_ := (Option.bind_some _ _).symm.trans H; rw [hy247]; with_reducible exact H2_) | (have H2_ := (Option.bind_some _ _).symm.trans H; with_reducible exact H2_) | with_reducible exact H | (rw [hy247]; exact H) | exact H
          have Ny247 := Aside0.mk hy247
          clear hy247
          obtain rfl := Option.some.inj H
          go_enter Try.func17, Try.ntmps17
          go_wp2_with (first | ((with_reducible refine gate_callee (f := 25) rfl ?_); refine goesL_ (some 5) rfl rfl Try.func25 (by kernel_rfl) rfl #[.int .i32 a0] rfl (by (try simp only [List.map_toArray, List.map_cons, List.map_nil]); first | done | rfl | (simp only [List.length_drop, List.length_take]; rfl)) ?_; (with_reducible refine (orthoepyref01_Is.calls a0 true _ A2.out).mono ?_); rintro e w' ⟨rfl, ⟨nd, rfl⟩⟩; refine ⟨_, rfl, ?_⟩) | ((with_reducible refine gate_dst (N := 41) rfl ?_); refine Kd.R_lit (Kd.int .u8) _ 5 ?hg (N := 41) ?hd (xs := ([(wrap32 (224 + (wrap32 (Int.tdiv a0 4096)))) % 256, (wrap32 (128 + (Int.tmod (wrap32 (Int.tdiv a0 64)) 64))) % 256, (wrap32 (128 + (Int.tmod a0 64))) % 256] : List Int)) (inner := [.int .u8 ((wrap32 (224 + (wrap32 (Int.tdiv a0 4096)))) % 256), .int .u8 ((wrap32 (128 + (Int.tmod (wrap32 (Int.tdiv a0 64)) 64))) % 256), .int .u8 ((wrap32 (128 + (Int.tmod a0 64))) % 256)]) (ok := fun _ => True) (okp := fun _ => True) ?hr ?hp (fun _ hk => hk) trivial (Below.refl _ _) (Nat.le_refl _) (by simp) ?_; (case hd => rfl); (case hg => rfl); (case hr => first | (go_simp; done) | (go_simp; rfl)); (case hp => exact (Reps.one (show Kd.M (Kd.int .u8) _ _ _ ((wrap32 (224 + (wrap32 (Int.tdiv a0 4096)))) % 256) [.int .u8 ((wrap32 (224 + (wrap32 (Int.tdiv a0 4096)))) % 256)] from rfl) (Reps.one (show Kd.M (Kd.int .u8) _ _ _ ((wrap32 (128 + (Int.tmod (wrap32 (Int.tdiv a0 64)) 64))) % 256) [.int .u8 ((wrap32 (128 + (Int.tmod (wrap32 (Int.tdiv a0 64)) 64))) % 256)] from rfl) (Reps.one (show Kd.M (Kd.int .u8) _ _ _ ((wrap32 (128 + (Int.tmod a0 64))) % 256) [.int .u8 ((wrap32 (128 + (Int.tmod a0 64))) % 256)] from rfl) (Reps.none _ _))))); intro v248 w11 ho12 hb hg_ hnew_; clear hg_ hnew_; (first | rw [← Ny247.out] at ho12 | (simp only [Int.reduceToNat] at ho12; rw [← Ny247.out] at ho12)); have n0_ := Aside0.mk (Kd.R_lower ho12 (below_size (by repeat (first | (with_reducible first | exact HB.out | apply below_alloc | apply pw_below_drewN | apply below_drew1) | exact HB.out)))); have n1_ := Aside0.mk (below_step (by repeat (first | (with_reducible first | exact HB.out | apply below_alloc | apply pw_below_drewN | apply below_drew1) | exact HB.out)) hb); clear HB; have HO249 := n0_; have HB := n1_; clear n0_ n1_; clear hb ho12))
          go_ret
          exact ⟨_, by first | rfl | (simp [errW_none, errW_some] <;> rfl) | (simp [*, errW_none, errW_some] <;> rfl), by (with_reducible repeat (first | apply Kd.R_alloc | apply Kd.R_drewN | apply Kd.R_drew)); exact HO249.out, by repeat (first | (with_reducible first | exact HB.out | apply below_alloc | apply pw_below_drewN | apply below_drew1) | exact HB.out)⟩
        · rw [if_neg c10] at H
          have c10b0 : decide (a0 < 65536) = false := decide_eq_false c10
          clear c10
          obtain ⟨y250, hy250⟩ : ∃ y_ : List Int, y_ = (([(wrap32 (240 + (wrap32 (Int.tdiv a0 262144)))) % 256, (wrap32 (128 + (Int.tmod (wrap32 (Int.tdiv a0 4096)) 64))) % 256, (wrap32 (128 + (Int.tmod (wrap32 (Int.tdiv a0 64)) 64))) % 256, (wrap32 (128 + (Int.tmod a0 64))) % 256] : List Int)) := ⟨_, rfl⟩
          replace H : (some y250) = some r := by first | (rw [hy250]; with_reducible exact H) | (have H2_ := (Option.bind_some _ _).symm.trans H; rw [hy250]; with_reducible exact H2_) | (have H2_ := (Option.bind_some _ _).symm.trans H; with_reducible exact H2_) | with_reducible exact H | (rw [hy250]; exact H) | exact H
          have Ny250 := Aside0.mk hy250
          clear hy250
          obtain rfl := Option.some.inj H
          go_enter Try.func17, Try.ntmps17
          go_wp2_with (first | ((with_reducible refine gate_callee (f := 25) rfl ?_); refine goesL_ (some 5) rfl rfl Try.func25 (by kernel_rfl) rfl #[.int .i32 a0] rfl (by (try simp only [List.map_toArray, List.map_cons, List.map_nil]); first | done | rfl | (simp only [List.length_drop, List.length_take]; rfl)) ?_; (with_reducible refine (orthoepyref01_Is.calls a0 true _ A2.out).mono ?_); rintro e w' ⟨rfl, ⟨nd, rfl⟩⟩; refine ⟨_, rfl, ?_⟩) | ((with_reducible refine gate_dst (N := 60) rfl ?_); refine Kd.R_lit (Kd.int .u8) _ 5 ?hg (N := 60) ?hd (xs := ([(wrap32 (240 + (wrap32 (Int.tdiv a0 262144)))) % 256, (wrap32 (128 + (Int.tmod (wrap32 (Int.tdiv a0 4096)) 64))) % 256, (wrap32 (128 + (Int.tmod (wrap32 (Int.tdiv a0 64)) 64))) % 256, (wrap32 (128 + (Int.tmod a0 64))) % 256] : List Int)) (inner := [.int .u8 ((wrap32 (240 + (wrap32 (Int.tdiv a0 262144)))) % 256), .int .u8 ((wrap32 (128 + (Int.tmod (wrap32 (Int.tdiv a0 4096)) 64))) % 256), .int .u8 ((wrap32 (128 + (Int.tmod (wrap32 (Int.tdiv a0 64)) 64))) % 256), .int .u8 ((wrap32 (128 + (Int.tmod a0 64))) % 256)]) (ok := fun _ => True) (okp := fun _ => True) ?hr ?hp (fun _ hk => hk) trivial (Below.refl _ _) (Nat.le_refl _) (by simp) ?_; (case hd => rfl); (case hg => rfl); (case hr => first | (go_simp; done) | (go_simp; rfl)); (case hp => exact (Reps.one (show Kd.M (Kd.int .u8) _ _ _ ((wrap32 (240 + (wrap32 (Int.tdiv a0 262144)))) % 256) [.int .u8 ((wrap32 (240 + (wrap32 (Int.tdiv a0 262144)))) % 256)] from rfl) (Reps.one (show Kd.M (Kd.int .u8) _ _ _ ((wrap32 (128 + (Int.tmod (wrap32 (Int.tdiv a0 4096)) 64))) % 256) [.int .u8 ((wrap32 (128 + (Int.tmod (wrap32 (Int.tdiv a0 4096)) 64))) % 256)] from rfl) (Reps.one (show Kd.M (Kd.int .u8) _ _ _ ((wrap32 (128 + (Int.tmod (wrap32 (Int.tdiv a0 64)) 64))) % 256) [.int .u8 ((wrap32 (128 + (Int.tmod (wrap32 (Int.tdiv a0 64)) 64))) % 256)] from rfl) (Reps.one (show Kd.M (Kd.int .u8) _ _ _ ((wrap32 (128 + (Int.tmod a0 64))) % 256) [.int .u8 ((wrap32 (128 + (Int.tmod a0 64))) % 256)] from rfl) (Reps.none _ _)))))); intro v251 w13 ho14 hb hg_ hnew_; clear hg_ hnew_; (first | rw [← Ny250.out] at ho14 | (simp only [Int.reduceToNat] at ho14; rw [← Ny250.out] at ho14)); have n0_ := Aside0.mk (Kd.R_lower ho14 (below_size (by repeat (first | (with_reducible first | exact HB.out | apply below_alloc | apply pw_below_drewN | apply below_drew1) | exact HB.out)))); have n1_ := Aside0.mk (below_step (by repeat (first | (with_reducible first | exact HB.out | apply below_alloc | apply pw_below_drewN | apply below_drew1) | exact HB.out)) hb); clear HB; have HO252 := n0_; have HB := n1_; clear n0_ n1_; clear hb ho14))
          go_ret
          exact ⟨_, by first | rfl | (simp [errW_none, errW_some] <;> rfl) | (simp [*, errW_none, errW_some] <;> rfl), by (with_reducible repeat (first | apply Kd.R_alloc | apply Kd.R_drewN | apply Kd.R_drew)); exact HO252.out, by repeat (first | (with_reducible first | exact HB.out | apply below_alloc | apply pw_below_drewN | apply below_drew1) | exact HB.out)⟩
  · replace c3 := Bool.eq_false_iff.mpr c3
    subst c3
    have H1 : (some ([] : List Int)) = some r := by rw [if_neg (show ¬ (false = true) by decide)] at H; exact H
    clear H
    have H := H1
    clear H1
    obtain rfl := Option.some.inj H
    go_enter Try.func17, Try.ntmps17
    go_wp2_with (first | ((with_reducible refine gate_callee (f := 25) rfl ?_); refine goesL_ (some 5) rfl rfl Try.func25 (by kernel_rfl) rfl #[.int .i32 a0] rfl (by (try simp only [List.map_toArray, List.map_cons, List.map_nil]); first | done | rfl | (simp only [List.length_drop, List.length_take]; rfl)) ?_; (with_reducible refine (orthoepyref01_Is.calls a0 false _ A2.out).mono ?_); rintro e w' ⟨rfl, ⟨nd, rfl⟩⟩; refine ⟨_, rfl, ?_⟩))
    go_ret
    exact ⟨_, by first | rfl | (simp [errW_none, errW_some] <;> rfl) | (simp [*, errW_none, errW_some] <;> rfl), by first | exact Kd.R_nil _ _ _ _ _ | exact Kd.N_nil _ _ _ _ _ | exact Kd.V_nil _ _ _ _ _ | exact Kd.Q_nil _ _ _ _ _ | exact Kd.S_nil _ _ _ _ _, by repeat (first | (with_reducible first | exact HB.out | apply below_alloc | apply pw_below_drewN | apply below_drew1) | exact HB.out)⟩

/-! ### orthoepyref02_Text: function 15 -/
def orthoepyref02_Text.l0 : Nat → List Int → List Int → Int → Option (List Int)
  | 0, _, _, _ => none
  | k + 1, x0, x3, x4 => if x4 < (x0.length : Int) then (if 0 ≤ x4 then ((orthoepyref02_Bytes.f (rd x0 x4)).bind fun t254 => (if x3.length + t254.length < 140737488355328 then (orthoepyref02_Text.l0 k x0 (x3 ++ t254) (wrap64 (x4 + 1))) else (none))) else (none)) else (some x3)
def orthoepyref02_Text.f (k : Nat) (l0 : List Int) : Option (List Int) := orthoepyref02_Text.l0 k l0 ([] : List Int) 0
theorem orthoepyref02_Text.mono_l : ∀ k, (∀ y0 y1 y2, LeO (orthoepyref02_Text.l0 k y0 y1 y2) (orthoepyref02_Text.l0 (k + 1) y0 y1 y2))
  | 0 => fun _ _ _ r h => by simp [orthoepyref02_Text.l0] at h
  | k + 1 => by
    have ih0 := orthoepyref02_Text.mono_l k
    · intro y0 y1 y2
      unfold orthoepyref02_Text.l0
      repeat' first
      | (with_reducible exact ih0 _ _ _)
      | (with_reducible exact LeO.refl _)
      | (with_reducible exact LeO.none _)
      | (with_reducible refine LeO.ite ?_ ?_)
      | (with_reducible refine LeO.bind ?_ (fun _ => ?_))
      | exact ih0 _ _ _
      | exact LeO.none _
      | refine LeO.ite ?_ ?_
      | refine LeO.bind ?_ (fun _ => ?_)
theorem orthoepyref02_Text.mono : ∀ a0 k, LeO (orthoepyref02_Text.f k a0) (orthoepyref02_Text.f (k + 1) a0) := by
  intro a0 k
  have ih0 := orthoepyref02_Text.mono_l k
  unfold orthoepyref02_Text.f
  repeat' first
      | (with_reducible exact ih0 _ _ _)
      | (with_reducible exact LeO.refl _)
      | (with_reducible exact LeO.none _)
      | (with_reducible refine LeO.ite ?_ ?_)
      | (with_reducible refine LeO.bind ?_ (fun _ => ?_))
      | exact ih0 _ _ _
      | exact LeO.none _
      | refine LeO.ite ?_ ?_
      | refine LeO.bind ?_ (fun _ => ?_)
set_option maxHeartbeats 8000000 in
set_option maxRecDepth 100000 in
theorem orthoepyref02_Text.calls (k : Nat) (A0 : Option Addr) (c0 : Nat) (l0 : List Int) (r : List Int) (w : World) (hr0 : Kd.C (Kd.int .i32) w A0 l0.length l0) (hc0 : l0.length ≤ c0) (h : orthoepyref02_Text.f k l0 = some r) :
    Calls Try.prog 15 #[.slice A0 l0.length c0] w fun e w' => ∃ v0_ : Value, e = .returned (v0_) ∧ Kd.R (Kd.int .u8) 5 w' w.heap.size (fun _ => True) v0_ r ∧ Below w.heap.size w w' := by
  have HR0 := Aside0.mk hr0
  have HC0 := Aside0.mk hc0
  clear hr0 hc0
  have HB := Aside0.mk (Below.refl w.heap.size w)
  have H : (orthoepyref02_Text.l0 k l0 ([] : List Int) 0) = some r := h
  clear h
  have H' := Aside0.mk H
  clear H
  go_enter Try.func15, Try.ntmps15
  go_wp2
  go_loopg [3, 4] k (fun kq v3 v4 w' => ∃ (x3_1 : List Int) (x4_1 : Int), v4 = .int .i64 x4_1 ∧ Aside0 (orthoepyref02_Text.l0 kq l0 x3_1 x4_1 = some r) ∧ Aside0 (kq ≤ k) ∧ Aside0 (Kd.R (Kd.int .u8) 5 w' w.heap.size (fun _ => True) v3 x3_1) ∧ Aside0 (Below w.heap.size w w'))
  case atStart => exact ⟨(([] : List Int)), (0), (by first | rfl | (simp; done) | (simp [*]; done)), H', ⟨Nat.le_refl _⟩, ⟨by first | exact Kd.R_nil _ _ _ _ _ | exact Kd.N_nil _ _ _ _ _ | exact Kd.V_nil _ _ _ _ _ | exact Kd.Q_nil _ _ _ _ _ | exact Kd.S_nil _ _ _ _ _⟩, ⟨by repeat (first | (with_reducible first | exact HB.out | apply below_alloc | apply pw_below_drewN | apply below_drew1) | exact HB.out)⟩⟩
  case round =>
    clear H'
    try clear c1
    obtain ⟨x3_1, x4_1, rfl, HA, HK1, HO_3, HB⟩ := hrel
    cases gk with
    | zero => exact absurd HA.out (by simp [orthoepyref02_Text.l0])
    | succ k1 =>
      have H := HA.out
      clear HA
      simp only [orthoepyref02_Text.l0] at H
      by_cases c2 : x4_1 < (l0.length : Int)
      · rw [if_pos c2] at H
        have c2b0 : decide (x4_1 < (l0.length : Int)) = true := decide_eq_true c2
        clear c2
        by_cases c3 : 0 ≤ x4_1
        · rw [if_pos c3] at H
          have c3b0 : decide (0 ≤ x4_1) = true := decide_eq_true c3
          clear c3
          replace H := Option.bind_eq_some_iff.mp H
          obtain ⟨t254, A40, H⟩ := H
          replace H : (if x3_1.length + t254.length < 140737488355328 then (orthoepyref02_Text.l0 k1 l0 (x3_1 ++ t254) (wrap64 (x4_1 + 1))) else (none)) = some r := H
          have A4 := Aside0.mk A40
          clear A40
          by_cases c5 : x3_1.length + t254.length < 140737488355328
          · rw [if_pos c5] at H
            have LMc5 := Aside0.mk c5
            clear c5
            obtain ⟨y257, hy257⟩ : ∃ y_ : List Int, y_ = (x3_1 ++ t254) := ⟨_, rfl⟩
            replace H : (orthoepyref02_Text.l0 k1 l0 y257 (wrap64 (x4_1 + 1))) = some r := by first | (rw [hy257]; with_reducible exact H) | (have H2_ := (Option.bind_some _ _).symm.trans H; rw [hy257]; with_reducible exact H2_) | (have H2_ := (Option.bind_some _ _).symm.trans H; with_reducible exact H2_) | with_reducible exact H | (rw [hy257]; exact H) | exact H
            have Ny257 := Aside0.mk hy257
            clear hy257
            have H' := Aside0.mk H
            clear H
            have p253 : 0 ≤ (x4_1 : Int) := of_decide_eq_true (by first | (with_reducible assumption) | assumption)
            have q253 : x4_1 < (l0.length : Int) := of_decide_eq_true (by first | (with_reducible assumption) | assumption)
            obtain ⟨ad253, e253, hx253_0⟩ := Kd.at_int HR0.out x4_1 p253 q253
            cases e253
            replace hx253_0 := (HB.out.cell (World.block_lt_of_cell? w _ hx253_0)).trans hx253_0
            replace p253 := eq_true p253
            replace q253 := eq_true q253
            go_wp2_with (first | ((with_reducible refine gate_callee (f := 17) rfl ?_); refine goesL_ (some 16) rfl rfl Try.func17 (by kernel_rfl) rfl #[.int .i32 (rd l0 x4_1)] rfl (by (try simp only [List.map_toArray, List.map_cons, List.map_nil]); first | done | rfl | (simp only [List.length_drop, List.length_take]; rfl)) ?_; (with_reducible refine (orthoepyref02_Bytes.calls (rd l0 x4_1) t254 _ A4.out).mono ?_); rintro e w6 ⟨v255, rfl, ho0, hb⟩; refine ⟨_, rfl, ?_⟩; have n0_ := Aside0.mk (Kd.R_elder' (by (with_reducible repeat (first | apply Kd.R_alloc | apply Kd.R_drewN | apply Kd.R_drew)); exact HO_3.out) (Kd.R_base ho0) hb); have n1_ := Aside0.mk (Kd.R_lower (Kd.R_new' ho0 (Kd.R_lt (by (with_reducible repeat (first | apply Kd.R_alloc | apply Kd.R_drewN | apply Kd.R_drew)); exact HO_3.out))) (below_size (by repeat (first | (with_reducible first | exact HB.out | apply below_alloc | apply pw_below_drewN | apply below_drew1) | exact HB.out)))); have n2_ := Aside0.mk (below_step (by repeat (first | (with_reducible first | exact HB.out | apply below_alloc | apply pw_below_drewN | apply below_drew1) | exact HB.out)) hb); clear HO_3; clear HB; have HO_3 := n0_; have HO256 := n1_; have HB := n2_; clear n0_ n1_ n2_; (try clear hb); (try clear hb2); (try clear hk); (try clear hi); (try clear ho0); obtain ⟨Ao8, co8, eo8⟩ := Kd.R_slice HO256.out; subst eo8) | ((with_reducible refine gate_builtin (b := .append) (xs := #[.tmp 11, .tmp 16]) rfl ?_); at_builtin; refine Kd.R_append_rows (Kd.int .u8) (w0 := w) w.heap.size rfl (.tmp 11) (.tmp 16) 22 5 (.int .u8 0) 1 rfl Try.underlying22 info5 rfl (by decide) (by omega) u3 x3_1 t254 _ _ _ (fun k_ => some k_ ≠ (.slice Ao8 t254.length co8 : Value).ownBlock) (fun _ => False) rfl rfl ?aO ?aR (fun _ _ h => h) (fun _ h => h.elim) ?aF ?aB ?aS ?aL ?_; (case aR => repeat (first | exact (Kd.R_reads' HO256.out).2.2 | (with_reducible refine Kd.C_alloc ?_ _) | (with_reducible refine Kd.C_drewN ?_ _) | (with_reducible refine Kd.C_drew ?_))); (case aB => exact (by repeat (first | (with_reducible first | exact HB.out | apply below_alloc | apply pw_below_drewN | apply below_drew1) | exact HB.out))); (case aF => exact (fun k_ hk => Kd.fresh' (Kd.R_lt (by (with_reducible repeat (first | apply Kd.R_alloc | apply Kd.R_drewN | apply Kd.R_drew)); exact HO256.out)) k_ hk)); (case aO => exact (by (with_reducible repeat (first | apply Kd.R_alloc | apply Kd.R_drewN | apply Kd.R_drew)); exact Kd.R_mono HO_3.out (fun _ hk => hk.2))); (case aS => exact (below_size (by repeat (first | (with_reducible first | exact HB.out | apply below_alloc | apply pw_below_drewN | apply below_drew1) | exact HB.out)))); (case aL => have := LMc5.out; omega); intro v258 w7 ho hb hg hat; rw [← Ny257.out] at ho; have n0_ := Aside0.mk (Kd.R_after (ok := (fun _ => True)) (by (with_reducible repeat (first | apply Kd.R_alloc | apply Kd.R_drewN | apply Kd.R_drew)); exact HO256.out) hg hat); have n1_ := Aside0.mk (hb); have n2_ := Aside0.mk (ho); clear HO256; clear HB; clear HO_3; have HO256 := n0_; have HB := n1_; have HO259 := n2_; clear n0_ n1_ n2_; clear ho hb hg hat))
            go_roundg k1
            case measure => have := HK1.out; omega
            case rel => exact ⟨(y257), (wrap64 (x4_1 + 1)), (by first | rfl | (simp; done) | (simp [*]; done)), H', ⟨by have := HK1.out; omega⟩, ⟨by (with_reducible repeat (first | apply Kd.R_alloc | apply Kd.R_drewN | apply Kd.R_drew)); exact Kd.R_mono HO259.out (fun _ hk => trivial)⟩, ⟨by repeat (first | (with_reducible first | exact HB.out | apply below_alloc | apply pw_below_drewN | apply below_drew1) | exact HB.out)⟩⟩
          · rw [if_neg c5] at H
            exact absurd H (by simp)
        · rw [if_neg c3] at H
          exact absurd H (by simp)
      · rw [if_neg c2] at H
        have c2b0 : decide (x4_1 < (l0.length : Int)) = false := decide_eq_false c2
        clear c2
        obtain rfl := Option.some.inj H
        go_wp2
        go_ret
        exact ⟨_, by first | rfl | (simp [errW_none, errW_some] <;> rfl) | (simp [*, errW_none, errW_some] <;> rfl), by (with_reducible repeat (first | apply Kd.R_alloc | apply Kd.R_drewN | apply Kd.R_drew)); exact HO_3.out, by repeat (first | (with_reducible first | exact HB.out | apply below_alloc | apply pw_below_drewN | apply below_drew1) | exact HB.out)⟩

end Go.Proofs.Ytoalfgmnikbpaaa.PAll
