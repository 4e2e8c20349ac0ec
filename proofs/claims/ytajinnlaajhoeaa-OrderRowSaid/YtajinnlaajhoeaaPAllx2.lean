-- The machine's side of laws, written by a program of this session (wip/gen/pp.sh). Lean checks it.
import Derived.Test.YtajinnlaajhoeaaPAllx0
import Derived.Test.YtajinnlaajhoeaaPAllx1
namespace Go.Proofs.Ytajinnlaajhoeaa.PAll
open Go.RowKit Go.Proofs.YtajinnlaajhoeaaW.PrintWords Go.Proofs.YtajinnlaajhoeaaW.PrintLast
set_option linter.unusedVariables false
set_option linter.unusedSimpArgs false

/-! ### orthoepyref02_of: function 49 -/
mutual
def orthoepyref02_of.j0 : Nat → List Int → Int → Option (Int)
  | 0, _, _ => none
  | k + 1, x0, x3 => orthoepyref02_of.l0 k x0 x3 1
def orthoepyref02_of.l0 : Nat → List Int → Int → Int → Option (Int)
  | 0, _, _, _ => none
  | k + 1, x0, x3, x4 => if x4 < (x0.length : Int) then (if 0 ≤ x4 then (orthoepyref02_of.l0 k x0 (wrap32 ((wrap32 ((wrap32 (x3 * 64)) + (wrap32 (rd x0 x4)))) - 128)) (wrap64 (x4 + 1))) else (none)) else (some x3)
end
def orthoepyref02_of.f (k : Nat) (l0 : List Int) : Option (Int) := if 0 < (l0.length : Int) then (if (l0.length : Int) = 2 then (orthoepyref02_of.j0 k l0 (wrap32 ((wrap32 (rd l0 0)) - 192))) else (if (l0.length : Int) = 3 then (orthoepyref02_of.j0 k l0 (wrap32 ((wrap32 (rd l0 0)) - 224))) else (if (l0.length : Int) = 4 then (orthoepyref02_of.j0 k l0 (wrap32 ((wrap32 (rd l0 0)) - 240))) else (orthoepyref02_of.j0 k l0 (wrap32 (rd l0 0)))))) else (none)
theorem orthoepyref02_of.mono_l : ∀ k, (∀ y0 y1, LeO (orthoepyref02_of.j0 k y0 y1) (orthoepyref02_of.j0 (k + 1) y0 y1)) ∧ (∀ y0 y1 y2, LeO (orthoepyref02_of.l0 k y0 y1 y2) (orthoepyref02_of.l0 (k + 1) y0 y1 y2))
  | 0 => ⟨fun _ _ r h => by simp [orthoepyref02_of.j0] at h, fun _ _ _ r h => by simp [orthoepyref02_of.l0] at h⟩
  | k + 1 => by
    obtain ⟨ih0, ih1⟩ := orthoepyref02_of.mono_l k
    refine ⟨?_, ?_⟩
    · intro y0 y1
      unfold orthoepyref02_of.j0
      repeat' first
      | (with_reducible exact ih0 _ _)
      | (with_reducible exact ih1 _ _ _)
      | (with_reducible exact LeO.refl _)
      | (with_reducible exact LeO.none _)
      | (with_reducible refine LeO.ite ?_ ?_)
      | (with_reducible refine LeO.bind ?_ (fun _ => ?_))
      | exact ih0 _ _
      | exact ih1 _ _ _
      | exact LeO.none _
      | refine LeO.ite ?_ ?_
      | refine LeO.bind ?_ (fun _ => ?_)
    · intro y0 y1 y2
      unfold orthoepyref02_of.l0
      repeat' first
      | (with_reducible exact ih0 _ _)
      | (with_reducible exact ih1 _ _ _)
      | (with_reducible exact LeO.refl _)
      | (with_reducible exact LeO.none _)
      | (with_reducible refine LeO.ite ?_ ?_)
      | (with_reducible refine LeO.bind ?_ (fun _ => ?_))
      | exact ih0 _ _
      | exact ih1 _ _ _
      | exact LeO.none _
      | refine LeO.ite ?_ ?_
      | refine LeO.bind ?_ (fun _ => ?_)
theorem orthoepyref02_of.mono : ∀ a0 k, LeO (orthoepyref02_of.f k a0) (orthoepyref02_of.f (k + 1) a0) := by
  intro a0 k
  obtain ⟨ih0, ih1⟩ := orthoepyref02_of.mono_l k
  unfold orthoepyref02_of.f
  repeat' first
      | (with_reducible exact ih0 _ _)
      | (with_reducible exact ih1 _ _ _)
      | (with_reducible exact LeO.refl _)
      | (with_reducible exact LeO.none _)
      | (with_reducible refine LeO.ite ?_ ?_)
      | (with_reducible refine LeO.bind ?_ (fun _ => ?_))
      | exact ih0 _ _
      | exact ih1 _ _ _
      | exact LeO.none _
      | refine LeO.ite ?_ ?_
      | refine LeO.bind ?_ (fun _ => ?_)
set_option maxHeartbeats 8000000 in
set_option maxRecDepth 100000 in
theorem orthoepyref02_of.calls (k : Nat) (A0 : Option Addr) (c0 : Nat) (l0 : List Int) (r : Int) (w : World) (hr0 : Kd.C (Kd.int .u8) w A0 l0.length l0) (hc0 : l0.length ≤ c0) (h : orthoepyref02_of.f k l0 = some r) :
    Calls Try.prog 49 #[.slice A0 l0.length c0] w fun e w' => e = .returned (.int .i32 r) ∧ Drawn0 w w' := by
  have HR0 := Aside0.mk hr0
  have HC0 := Aside0.mk hc0
  clear hr0 hc0
  have H : (if 0 < (l0.length : Int) then (if (l0.length : Int) = 2 then (orthoepyref02_of.j0 k l0 (wrap32 ((wrap32 (rd l0 0)) - 192))) else (if (l0.length : Int) = 3 then (orthoepyref02_of.j0 k l0 (wrap32 ((wrap32 (rd l0 0)) - 224))) else (if (l0.length : Int) = 4 then (orthoepyref02_of.j0 k l0 (wrap32 ((wrap32 (rd l0 0)) - 240))) else (orthoepyref02_of.j0 k l0 (wrap32 (rd l0 0)))))) else (none)) = some r := h
  clear h
  by_cases c2 : 0 < (l0.length : Int)
  · rw [if_pos c2] at H
    have c2b0 : decide (0 < (l0.length : Int)) = true := decide_eq_true c2
    have c2b1 : decide (0 < l0.length) = true := decide_eq_true (by omega)
    clear c2
    have HC3 := Aside0.mk H
    clear H
    have p110 : 0 ≤ (0 : Int) := (by omega)
    have q110 : 0 < (l0.length : Int) := of_decide_eq_true (by first | (with_reducible assumption) | assumption)
    obtain ⟨ad110, e110, hx110_0⟩ := Kd.at_int HR0.out 0 p110 q110
    cases e110
    have qi110 : (0 < l0.length) = True := eq_true (by omega)
    (try rw [show ((0 : Int)).toNat = 0 from rfl] at hx110_0)
    (try rw [Addr.add_zero'] at hx110_0)
    replace p110 := eq_true p110
    replace q110 := eq_true q110
    go_enter Try.func49, Try.ntmps49
    go_upto_block 0 with (fail)
    go_cut [3] (fun v3 wc => ∃ (kq : Nat) (x3_2 : Int), v3 = .int .i32 x3_2 ∧ Aside0 (orthoepyref02_of.j0 kq l0 x3_2 = some r) ∧ Aside0 (kq ≤ k) ∧ Drawn0 w wc)
    case first =>
      have H := HC3.out
      clear HC3
      by_cases c4 : (l0.length : Int) = 2
      · rw [if_pos c4] at H
        have c4b0 : ((l0.length : Int) == 2) = true := beq_iff_eq.mpr c4
        have c4b1 : ((l0.length : Int) != 2) = false := bne_eq_false_iff_eq.mpr c4
        clear c4
        (first | rw [c4b0] | (simp only [i64_w, i32_w]; rw [c4b0]) | skip)
        have H' := Aside0.mk H
        clear H
        go_wp2
        go_meet
        case rel => exact ⟨_, (wrap32 ((wrap32 (rd l0 0)) - 192)), (by first | rfl | (simp; done) | (simp [*]; done)), H', ⟨by first | omega | exact Nat.le_refl _⟩, by repeat (first | exact Drawn0.refl _ | apply Drawn0.step)⟩
      · rw [if_neg c4] at H
        have c4b0 : ((l0.length : Int) == 2) = false := beq_eq_false_iff_ne.mpr c4
        have c4b1 : ((l0.length : Int) != 2) = true := bne_iff_ne.mpr c4
        (first | rw [c4b0] | (simp only [i64_w, i32_w]; rw [c4b0]) | skip)
        by_cases c5 : (l0.length : Int) = 3
        · rw [if_pos c5] at H
          have c5b0 : ((l0.length : Int) == 3) = true := beq_iff_eq.mpr c5
          have c5b1 : ((l0.length : Int) != 3) = false := bne_eq_false_iff_eq.mpr c5
          clear c5
          have H' := Aside0.mk H
          clear H
          go_wp2
          go_meet
          case rel => exact ⟨_, (wrap32 ((wrap32 (rd l0 0)) - 224)), (by first | rfl | (simp; done) | (simp [*]; done)), H', ⟨by first | omega | exact Nat.le_refl _⟩, by repeat (first | exact Drawn0.refl _ | apply Drawn0.step)⟩
        · rw [if_neg c5] at H
          have c5b0 : ((l0.length : Int) == 3) = false := beq_eq_false_iff_ne.mpr c5
          have c5b1 : ((l0.length : Int) != 3) = true := bne_iff_ne.mpr c5
          by_cases c6 : (l0.length : Int) = 4
          · rw [if_pos c6] at H
            have c6b0 : ((l0.length : Int) == 4) = true := beq_iff_eq.mpr c6
            have c6b1 : ((l0.length : Int) != 4) = false := bne_eq_false_iff_eq.mpr c6
            clear c6
            have H' := Aside0.mk H
            clear H
            go_wp2
            go_meet
            case rel => exact ⟨_, (wrap32 ((wrap32 (rd l0 0)) - 240)), (by first | rfl | (simp; done) | (simp [*]; done)), H', ⟨by first | omega | exact Nat.le_refl _⟩, by repeat (first | exact Drawn0.refl _ | apply Drawn0.step)⟩
          · rw [if_neg c6] at H
            have c6b0 : ((l0.length : Int) == 4) = false := beq_eq_false_iff_ne.mpr c6
            have c6b1 : ((l0.length : Int) != 4) = true := bne_iff_ne.mpr c6
            have H' := Aside0.mk H
            clear H
            go_wp2
            go_meet
            case rel => exact ⟨_, (wrap32 (rd l0 0)), (by first | rfl | (simp; done) | (simp [*]; done)), H', ⟨by first | omega | exact Nat.le_refl _⟩, by repeat (first | exact Drawn0.refl _ | apply Drawn0.step)⟩
    case rest =>
      clear HC3
      try clear p1
      try clear q1
      try clear hx1
      try clear qi1
      try clear c2
      try clear c2b0
      try clear c2b1
      try clear p2
      try clear p3
      try clear c4
      try clear c4b0
      try clear c4b1
      try clear c5
      try clear c5b0
      try clear c5b1
      try clear c6
      try clear c6b0
      try clear c6b1
      try clear hx110_0
      try clear p110
      try clear q110
      obtain ⟨kq, x3_2, rfl, HA, HJ2, ⟨mc2, rfl⟩⟩ := hcut
      cases kq with
      | zero => exact absurd HA.out (by simp [orthoepyref02_of.j0])
      | succ kj2 =>
        have H := HA.out
        clear HA
        simp only [orthoepyref02_of.j0] at H
        have H' := Aside0.mk H
        clear H
        go_wp2
        go_loopg [3, 4] kj2 (fun kq v3 v4 w' => ∃ (x3_2 : Int) (x4_2 : Int), v3 = .int .i32 x3_2 ∧ v4 = .int .i64 x4_2 ∧ Aside0 (orthoepyref02_of.l0 kq l0 x3_2 x4_2 = some r) ∧ Aside0 (kq ≤ kj2) ∧ Drawn0 w w')
        case atStart => exact ⟨(x3_2), (1), (by first | rfl | (simp; done) | (simp [*]; done)), (by first | rfl | (simp; done) | (simp [*]; done)), H', ⟨Nat.le_refl _⟩, by repeat (first | exact Drawn0.refl _ | apply Drawn0.step)⟩
        case round =>
          clear H'
          try clear p1
          try clear q1
          try clear hx1
          try clear qi1
          try clear c2
          try clear c2b0
          try clear c2b1
          try clear p2
          try clear p3
          try clear c4
          try clear c4b0
          try clear c4b1
          try clear c5
          try clear c5b0
          try clear c5b1
          try clear c6
          try clear c6b0
          try clear c6b1
          try clear hx110_0
          try clear p1
          try clear p110
          try clear p2
          try clear p3
          try clear q1
          try clear q110
          obtain ⟨x3_2, x4_2, rfl, rfl, HA, HK2, ⟨m2, rfl⟩⟩ := hrel
          cases gk with
          | zero => exact absurd HA.out (by simp [orthoepyref02_of.l0])
          | succ k2 =>
            have H := HA.out
            clear HA
            simp only [orthoepyref02_of.l0] at H
            by_cases c7 : x4_2 < (l0.length : Int)
            · rw [if_pos c7] at H
              have c7b0 : decide (x4_2 < (l0.length : Int)) = true := decide_eq_true c7
              clear c7
              by_cases c8 : 0 ≤ x4_2
              · rw [if_pos c8] at H
                have c8b0 : decide (0 ≤ x4_2) = true := decide_eq_true c8
                clear c8
                have H' := Aside0.mk H
                clear H
                have p111 : 0 ≤ (x4_2 : Int) := of_decide_eq_true (by first | (with_reducible assumption) | assumption)
                have q111 : x4_2 < (l0.length : Int) := of_decide_eq_true (by first | (with_reducible assumption) | assumption)
                obtain ⟨ad111, e111, hx111_0⟩ := Kd.at_int HR0.out x4_2 p111 q111
                obtain rfl : ad110 = ad111 := (by injection e111)
                replace p111 := eq_true p111
                replace q111 := eq_true q111
                go_wp2
                go_roundg k2
                case measure => have := HJ2.out; have := HK2.out; omega
                case rel => exact ⟨(wrap32 ((wrap32 ((wrap32 (x3_2 * 64)) + (wrap32 (rd l0 x4_2)))) - 128)), (wrap64 (x4_2 + 1)), (by first | rfl | (simp; done) | (simp [*]; done)), (by first | rfl | (simp; done) | (simp [*]; done)), H', ⟨by have := HJ2.out; have := HK2.out; omega⟩, by repeat (first | exact Drawn0.refl _ | apply Drawn0.step)⟩
              · rw [if_neg c8] at H
                exact absurd H (by simp)
            · rw [if_neg c7] at H
              have c7b0 : decide (x4_2 < (l0.length : Int)) = false := decide_eq_false c7
              clear c7
              obtain rfl := Option.some.inj H
              go_wp2
              go_ret
              exact ⟨by first | rfl | (simp; done) | (simp [*]; done), by repeat (first | exact Drawn0.refl _ | apply Drawn0.step)⟩
  · rw [if_neg c2] at H
    exact absurd H (by simp)

/-! ### orthoepyref02_First: function 40 -/
mutual
def orthoepyref02_First.j1 : Nat → List Int → Int → Option (Int × Int × Bool)
  | 0, _, _ => none
  | k + 1, x0, x5 => if x5 < (x0.length : Int) then (if 0 ≤ (wrap64 (x5 + 1)) then (if (wrap64 (x5 + 1)) ≤ (x0.length : Int) then ((orthoepyref02_How.f k (x0.take ((wrap64 (x5 + 1)) : Int).toNat)).bind fun t115 => (if t115 = 2 then ((orthoepyref02_of.f k (x0.take ((wrap64 (x5 + 1)) : Int).toNat)).bind fun t117 => (some (t117, wrap64 (x5 + 1), true))) else (some (0, x5, false)))) else (none)) else (none)) else (some (0, x5, false))
def orthoepyref02_First.l0 : Nat → List Int → Int → Option (Int × Int × Bool)
  | 0, _, _ => none
  | k + 1, x0, x5 => if x5 < (x0.length : Int) then (if 0 ≤ (wrap64 (x5 + 1)) then (if (wrap64 (x5 + 1)) ≤ (x0.length : Int) then ((orthoepyref02_How.f k (x0.take ((wrap64 (x5 + 1)) : Int).toNat)).bind fun t113 => (if t113 = 1 then (orthoepyref02_First.l0 k x0 (wrap64 (x5 + 1))) else (orthoepyref02_First.j1 k x0 x5))) else (none)) else (none)) else (orthoepyref02_First.j1 k x0 x5)
end
def orthoepyref02_First.f (k : Nat) (l0 : List Int) : Option (Int × Int × Bool) := orthoepyref02_First.l0 k l0 0
theorem orthoepyref02_First.mono_l : ∀ k, (∀ y0 y1, LeO (orthoepyref02_First.j1 k y0 y1) (orthoepyref02_First.j1 (k + 1) y0 y1)) ∧ (∀ y0 y1, LeO (orthoepyref02_First.l0 k y0 y1) (orthoepyref02_First.l0 (k + 1) y0 y1))
  | 0 => ⟨fun _ _ r h => by simp [orthoepyref02_First.j1] at h, fun _ _ r h => by simp [orthoepyref02_First.l0] at h⟩
  | k + 1 => by
    obtain ⟨ih0, ih1⟩ := orthoepyref02_First.mono_l k
    refine ⟨?_, ?_⟩
    · intro y0 y1
      unfold orthoepyref02_First.j1
      repeat' first
      | (with_reducible exact ih0 _ _)
      | (with_reducible exact ih1 _ _)
      | (with_reducible exact orthoepyref02_How.mono _ _)
      | (with_reducible exact orthoepyref02_of.mono _ _)
      | (with_reducible exact LeO.refl _)
      | (with_reducible exact LeO.none _)
      | (with_reducible refine LeO.ite ?_ ?_)
      | (with_reducible refine LeO.bind ?_ (fun _ => ?_))
      | exact ih0 _ _
      | exact ih1 _ _
      | exact orthoepyref02_How.mono _ _
      | exact orthoepyref02_of.mono _ _
      | exact LeO.none _
      | refine LeO.ite ?_ ?_
      | refine LeO.bind ?_ (fun _ => ?_)
    · intro y0 y1
      unfold orthoepyref02_First.l0
      repeat' first
      | (with_reducible exact ih0 _ _)
      | (with_reducible exact ih1 _ _)
      | (with_reducible exact orthoepyref02_How.mono _ _)
      | (with_reducible exact orthoepyref02_of.mono _ _)
      | (with_reducible exact LeO.refl _)
      | (with_reducible exact LeO.none _)
      | (with_reducible refine LeO.ite ?_ ?_)
      | (with_reducible refine LeO.bind ?_ (fun _ => ?_))
      | exact ih0 _ _
      | exact ih1 _ _
      | exact orthoepyref02_How.mono _ _
      | exact orthoepyref02_of.mono _ _
      | exact LeO.none _
      | refine LeO.ite ?_ ?_
      | refine LeO.bind ?_ (fun _ => ?_)
theorem orthoepyref02_First.mono : ∀ a0 k, LeO (orthoepyref02_First.f k a0) (orthoepyref02_First.f (k + 1) a0) := by
  intro a0 k
  obtain ⟨ih0, ih1⟩ := orthoepyref02_First.mono_l k
  unfold orthoepyref02_First.f
  repeat' first
      | (with_reducible exact ih0 _ _)
      | (with_reducible exact ih1 _ _)
      | (with_reducible exact orthoepyref02_How.mono _ _)
      | (with_reducible exact orthoepyref02_of.mono _ _)
      | (with_reducible exact LeO.refl _)
      | (with_reducible exact LeO.none _)
      | (with_reducible refine LeO.ite ?_ ?_)
      | (with_reducible refine LeO.bind ?_ (fun _ => ?_))
      | exact ih0 _ _
      | exact ih1 _ _
      | exact orthoepyref02_How.mono _ _
      | exact orthoepyref02_of.mono _ _
      | exact LeO.none _
      | refine LeO.ite ?_ ?_
      | refine LeO.bind ?_ (fun _ => ?_)
set_option maxHeartbeats 8000000 in
set_option maxRecDepth 100000 in
theorem orthoepyref02_First.calls (k : Nat) (A0 : Option Addr) (c0 : Nat) (l0 : List Int) (r1 : Int) (r2 : Int) (r3 : Bool) (w : World) (hr0 : Kd.C (Kd.int .u8) w A0 l0.length l0) (hc0 : l0.length ≤ c0) (h : orthoepyref02_First.f k l0 = some (r1, r2, r3)) :
    Calls Try.prog 40 #[.slice A0 l0.length c0] w fun e w' => e = .returned (.tuple #[.int .i32 r1, .int .i64 r2, .bool r3]) ∧ Drawn0 w w' := by
  have HR0 := Aside0.mk hr0
  have HC0 := Aside0.mk hc0
  clear hr0 hc0
  have H : (orthoepyref02_First.l0 k l0 0) = some (r1, r2, r3) := h
  clear h
  have HC2 := Aside0.mk H
  clear H
  go_enter Try.func40, Try.ntmps40
  go_upto_block 0 with (fail)
  go_cut [5] (fun v5 wc => ∃ (kq : Nat) (x5_1 : Int), v5 = .int .i64 x5_1 ∧ Aside0 (orthoepyref02_First.j1 kq l0 x5_1 = some (r1, r2, r3)) ∧ Aside0 (kq ≤ k) ∧ Drawn0 w wc)
  case first =>
    have H := HC2.out
    clear HC2
    have H' := Aside0.mk H
    clear H
    go_wp2
    go_loopg [5] k (fun kq v5 w' => ∃ (x5_1 : Int), v5 = .int .i64 x5_1 ∧ Aside0 (orthoepyref02_First.l0 kq l0 x5_1 = some (r1, r2, r3)) ∧ Aside0 (kq ≤ k) ∧ Drawn0 w w')
    case atStart => exact ⟨(0), (by first | rfl | (simp; done) | (simp [*]; done)), H', ⟨Nat.le_refl _⟩, by repeat (first | exact Drawn0.refl _ | apply Drawn0.step)⟩
    case round =>
      clear H'
      try clear p2
      obtain ⟨x5_1, rfl, HA, HK1, ⟨m1, rfl⟩⟩ := hrel
      cases gk with
      | zero => exact absurd HA.out (by simp [orthoepyref02_First.l0])
      | succ k1 =>
        have H := HA.out
        clear HA
        simp only [orthoepyref02_First.l0] at H
        by_cases c3 : x5_1 < (l0.length : Int)
        · rw [if_pos c3] at H
          have c3b0 : decide (x5_1 < (l0.length : Int)) = true := decide_eq_true c3
          clear c3
          (first | rw [c3b0] | (simp only [i64_w, i32_w]; rw [c3b0]) | skip)
          obtain ⟨ji4, hji4⟩ : ∃ j_ : Int, (wrap64 (x5_1 + 1)) = j_ := ⟨_, rfl⟩
          replace H : (if 0 ≤ (ji4) then (if (ji4) ≤ (l0.length : Int) then ((orthoepyref02_How.f k1 (l0.take ((ji4) : Int).toNat)).bind fun t113 => (if t113 = 1 then (orthoepyref02_First.l0 k1 l0 ji4) else (orthoepyref02_First.j1 k1 l0 x5_1))) else (none)) else (none)) = some (r1, r2, r3) := by first | (rw [hji4] at H; exact H) | (simp only [hji4] at H ⊢; exact H)
          have hji4w : (IntKind.i64.wrap (x5_1 + 1)) = ji4 := (i64_w _).trans hji4
          by_cases c5 : 0 ≤ (ji4)
          · rw [if_pos c5] at H
            have c5b0 := eq_true c5
            have c5b1 : decide (0 ≤ (ji4)) = true := decide_eq_true c5
            clear c5
            by_cases c6 : (ji4) ≤ (l0.length : Int)
            · rw [if_pos c6] at H
              have c6b0 := eq_true c6
              have c6b1 : decide ((ji4) ≤ (l0.length : Int)) = true := decide_eq_true c6
              clear c6
              replace H := Option.bind_eq_some_iff.mp H
              obtain ⟨t113, A70, H⟩ := H
              replace H : (if t113 = 1 then (orthoepyref02_First.l0 k1 l0 ji4) else (orthoepyref02_First.j1 k1 l0 x5_1)) = some (r1, r2, r3) := H
              have A7 := Aside0.mk A70
              clear A70
              by_cases c8 : t113 = 1
              · rw [if_pos c8] at H
                have c8b0 : (t113 == 1) = true := beq_iff_eq.mpr c8
                have c8b1 : (t113 != 1) = false := bne_eq_false_iff_eq.mpr c8
                clear c8
                have H' := Aside0.mk H
                clear H
                obtain ⟨i09, hi09, _, hsz9, _⟩ := info_parts info5
                obtain ⟨hcut9, hA9, hC9⟩ := print_take_of (P := Try.prog) (Value.int .u8) 0 34 5 .i64 Try.underlying34 hi09 hsz9 A0 c0 l0 (ji4) (of_decide_eq_true (by first | (with_reducible assumption) | assumption)) (of_decide_eq_true (by first | (with_reducible assumption) | assumption)) HC0.out
                have HR112 := Aside0.mk (Kd.C_of_reads (h1 := fun _ => rfl) (hA9 _ (Kd.reads_of_C HR0.out)))
                have HC112 := Aside0.mk hC9
                clear hA9 hC9 hi09 hsz9
                go_wp2_with (first | (go_at_call 48; refine calls_of_args (args' := #[.slice A0 (l0.take ((ji4) : Int).toNat).length c0]) (by first | (rw [show (l0.take ((ji4) : Int).toNat).length = (ji4).toNat from (by rw [List.length_take]; have h_ : ((ji4) : Int) ≤ (l0.length : Int) := of_decide_eq_true (by first | (with_reducible assumption) | assumption); omega)] <;> rfl) | rfl) ?_; (with_reducible refine (orthoepyref02_How.calls k1 _ _ (l0.take ((ji4) : Int).toNat) t113 _ ?side1 ?side2 A7.out).mono ?_); (case side1 => repeat (first | exact HR112.out | (with_reducible refine Kd.C_alloc ?_ _) | (with_reducible refine Kd.C_drewN ?_ _) | (with_reducible refine Kd.C_drew ?_))); (case side2 => exact HC112.out); rintro e w' ⟨rfl, ⟨nd, rfl⟩⟩))
                go_roundg k1
                case measure => have := HK1.out; omega
                case rel => exact ⟨(ji4), (by first | rfl | (simp; done) | (simp only [← hji4] <;> (first | rfl | simp)) | (simp [*]; done)), H', ⟨by have := HK1.out; omega⟩, by repeat (first | exact Drawn0.refl _ | apply Drawn0.step)⟩
              · rw [if_neg c8] at H
                have c8b0 : (t113 == 1) = false := beq_eq_false_iff_ne.mpr c8
                have c8b1 : (t113 != 1) = true := bne_iff_ne.mpr c8
                have H' := Aside0.mk H
                clear H
                obtain ⟨i010, hi010, _, hsz10, _⟩ := info_parts info5
                obtain ⟨hcut10, hA10, hC10⟩ := print_take_of (P := Try.prog) (Value.int .u8) 0 34 5 .i64 Try.underlying34 hi010 hsz10 A0 c0 l0 (ji4) (of_decide_eq_true (by first | (with_reducible assumption) | assumption)) (of_decide_eq_true (by first | (with_reducible assumption) | assumption)) HC0.out
                have HR112 := Aside0.mk (Kd.C_of_reads (h1 := fun _ => rfl) (hA10 _ (Kd.reads_of_C HR0.out)))
                have HC112 := Aside0.mk hC10
                clear hA10 hC10 hi010 hsz10
                go_wp2_with (first | (go_at_call 48; refine calls_of_args (args' := #[.slice A0 (l0.take ((ji4) : Int).toNat).length c0]) (by first | (rw [show (l0.take ((ji4) : Int).toNat).length = (ji4).toNat from (by rw [List.length_take]; have h_ : ((ji4) : Int) ≤ (l0.length : Int) := of_decide_eq_true (by first | (with_reducible assumption) | assumption); omega)] <;> rfl) | rfl) ?_; (with_reducible refine (orthoepyref02_How.calls k1 _ _ (l0.take ((ji4) : Int).toNat) t113 _ ?side1 ?side2 A7.out).mono ?_); (case side1 => repeat (first | exact HR112.out | (with_reducible refine Kd.C_alloc ?_ _) | (with_reducible refine Kd.C_drewN ?_ _) | (with_reducible refine Kd.C_drew ?_))); (case side2 => exact HC112.out); rintro e w' ⟨rfl, ⟨nd, rfl⟩⟩))
                go_meet
                case rel => exact ⟨_, (x5_1), (by first | rfl | (simp; done) | (simp [*]; done)), H', ⟨by have := HK1.out; first | omega | exact Nat.le_refl _⟩, by repeat (first | exact Drawn0.refl _ | apply Drawn0.step)⟩
            · rw [if_neg c6] at H
              exact absurd H (by simp)
          · rw [if_neg c5] at H
            exact absurd H (by simp)
        · rw [if_neg c3] at H
          have c3b0 : decide (x5_1 < (l0.length : Int)) = false := decide_eq_false c3
          clear c3
          (first | rw [c3b0] | (simp only [i64_w, i32_w]; rw [c3b0]) | skip)
          have H' := Aside0.mk H
          clear H
          go_wp2
          go_meet
          case rel => exact ⟨_, (x5_1), (by first | rfl | (simp; done) | (simp [*]; done)), H', ⟨by have := HK1.out; first | omega | exact Nat.le_refl _⟩, by repeat (first | exact Drawn0.refl _ | apply Drawn0.step)⟩
  case rest =>
    clear HC2
    try clear p2
    try clear c3
    try clear c3b0
    try clear c4
    try clear c5
    try clear c5b0
    try clear c5b1
    try clear c6
    try clear c6b0
    try clear c6b1
    try clear p6
    try clear c8
    try clear c8b0
    try clear c8b1
    try clear p2
    obtain ⟨kq, x5_1, rfl, HA, HJ1, ⟨mc1, rfl⟩⟩ := hcut
    cases kq with
    | zero => exact absurd HA.out (by simp [orthoepyref02_First.j1])
    | succ kj1 =>
      have H := HA.out
      clear HA
      simp only [orthoepyref02_First.j1] at H
      by_cases c11 : x5_1 < (l0.length : Int)
      · rw [if_pos c11] at H
        have c11b0 : decide (x5_1 < (l0.length : Int)) = true := decide_eq_true c11
        clear c11
        obtain ⟨ji12, hji12⟩ : ∃ j_ : Int, (wrap64 (x5_1 + 1)) = j_ := ⟨_, rfl⟩
        replace H : (if 0 ≤ (ji12) then (if (ji12) ≤ (l0.length : Int) then ((orthoepyref02_How.f kj1 (l0.take ((ji12) : Int).toNat)).bind fun t115 => (if t115 = 2 then ((orthoepyref02_of.f kj1 (l0.take ((ji12) : Int).toNat)).bind fun t117 => (some (t117, ji12, true))) else (some (0, x5_1, false)))) else (none)) else (none)) = some (r1, r2, r3) := by first | (rw [hji12] at H; exact H) | (simp only [hji12] at H ⊢; exact H)
        have hji12w : (IntKind.i64.wrap (x5_1 + 1)) = ji12 := (i64_w _).trans hji12
        by_cases c13 : 0 ≤ (ji12)
        · rw [if_pos c13] at H
          have c13b0 := eq_true c13
          have c13b1 : decide (0 ≤ (ji12)) = true := decide_eq_true c13
          clear c13
          by_cases c14 : (ji12) ≤ (l0.length : Int)
          · rw [if_pos c14] at H
            have c14b0 := eq_true c14
            have c14b1 : decide ((ji12) ≤ (l0.length : Int)) = true := decide_eq_true c14
            clear c14
            replace H := Option.bind_eq_some_iff.mp H
            obtain ⟨t115, A150, H⟩ := H
            replace H : (if t115 = 2 then ((orthoepyref02_of.f kj1 (l0.take ((ji12) : Int).toNat)).bind fun t117 => (some (t117, ji12, true))) else (some (0, x5_1, false))) = some (r1, r2, r3) := H
            have A15 := Aside0.mk A150
            clear A150
            by_cases c16 : t115 = 2
            · rw [if_pos c16] at H
              have c16b0 : (t115 == 2) = true := beq_iff_eq.mpr c16
              have c16b1 : (t115 != 2) = false := bne_eq_false_iff_eq.mpr c16
              clear c16
              have c17b0 := eq_true (of_decide_eq_true (by first | (with_reducible assumption) | assumption) : 0 ≤ (ji12))
              have c18b0 := eq_true (of_decide_eq_true (by first | (with_reducible assumption) | assumption) : (ji12) ≤ (l0.length : Int))
              replace H := Option.bind_eq_some_iff.mp H
              obtain ⟨t117, A190, H⟩ := H
              replace H : (some (t117, ji12, true)) = some (r1, r2, r3) := H
              have A19 := Aside0.mk A190
              clear A190
              simp only [Option.some.injEq, Prod.mk.injEq] at H
              obtain ⟨rfl, rfl, rfl⟩ := H
              obtain ⟨i020, hi020, _, hsz20, _⟩ := info_parts info5
              obtain ⟨hcut20, hA20, hC20⟩ := print_take_of (P := Try.prog) (Value.int .u8) 0 34 5 .i64 Try.underlying34 hi020 hsz20 A0 c0 l0 (ji12) (of_decide_eq_true (by first | (with_reducible assumption) | assumption)) (of_decide_eq_true (by first | (with_reducible assumption) | assumption)) HC0.out
              have HR114 := Aside0.mk (Kd.C_of_reads (h1 := fun _ => rfl) (hA20 _ (Kd.reads_of_C HR0.out)))
              have HC114 := Aside0.mk hC20
              clear hA20 hC20 hi020 hsz20
              go_wp2_with (first | (go_at_call 48; refine calls_of_args (args' := #[.slice A0 (l0.take ((ji12) : Int).toNat).length c0]) (by first | (rw [show (l0.take ((ji12) : Int).toNat).length = (ji12).toNat from (by rw [List.length_take]; have h_ : ((ji12) : Int) ≤ (l0.length : Int) := of_decide_eq_true (by first | (with_reducible assumption) | assumption); omega)] <;> rfl) | rfl) ?_; (with_reducible refine (orthoepyref02_How.calls kj1 _ _ (l0.take ((ji12) : Int).toNat) t115 _ ?side1 ?side2 A15.out).mono ?_); (case side1 => repeat (first | exact HR114.out | (with_reducible refine Kd.C_alloc ?_ _) | (with_reducible refine Kd.C_drewN ?_ _) | (with_reducible refine Kd.C_drew ?_))); (case side2 => exact HC114.out); rintro e w' ⟨rfl, ⟨nd, rfl⟩⟩; obtain ⟨i021, hi021, _, hsz21, _⟩ := info_parts info5; obtain ⟨hcut21, hA21, hC21⟩ := print_take_of (P := Try.prog) (Value.int .u8) 0 34 5 .i64 Try.underlying34 hi021 hsz21 A0 c0 l0 (ji12) (of_decide_eq_true (by first | (with_reducible assumption) | assumption)) (of_decide_eq_true (by first | (with_reducible assumption) | assumption)) HC0.out; have HR116 := Aside0.mk (Kd.C_of_reads (h1 := fun _ => rfl) (hA21 _ (Kd.reads_of_C HR0.out))); have HC116 := Aside0.mk hC21; clear hA21 hC21 hi021 hsz21) | ((with_reducible refine gate_callee (f := 49) rfl ?_); refine goesL_ (some 36) rfl rfl Try.func49 (by kernel_rfl) rfl #[.slice A0 (l0.take ((ji12) : Int).toNat).length c0] rfl (by (try simp only [List.map_toArray, List.map_cons, List.map_nil]); first | done | (rw [show (l0.take ((ji12) : Int).toNat).length = (ji12).toNat from (by rw [List.length_take]; have h_ : ((ji12) : Int) ≤ (l0.length : Int) := of_decide_eq_true (by first | (with_reducible assumption) | assumption); omega)] <;> rfl) | (simp only [hji12]; rfl) | rfl | (simp only [List.length_drop, List.length_take]; rfl)) ?_; (with_reducible refine (orthoepyref02_of.calls kj1 _ _ (l0.take ((ji12) : Int).toNat) t117 _ ?side1 ?side2 A19.out).mono ?_); (case side1 => repeat (first | exact HR116.out | (with_reducible refine Kd.C_alloc ?_ _) | (with_reducible refine Kd.C_drewN ?_ _) | (with_reducible refine Kd.C_drew ?_))); (case side2 => exact HC116.out); rintro e w' ⟨rfl, ⟨nd, rfl⟩⟩; refine ⟨_, rfl, ?_⟩))
              go_ret3
              exact ⟨by first | rfl | (simp; done) | (simp only [← hji12] <;> (first | rfl | simp)) | (simp [*]; done), by repeat (first | exact Drawn0.refl _ | apply Drawn0.step)⟩
            · rw [if_neg c16] at H
              have c16b0 : (t115 == 2) = false := beq_eq_false_iff_ne.mpr c16
              have c16b1 : (t115 != 2) = true := bne_iff_ne.mpr c16
              simp only [Option.some.injEq, Prod.mk.injEq] at H
              obtain ⟨rfl, rfl, rfl⟩ := H
              obtain ⟨i022, hi022, _, hsz22, _⟩ := info_parts info5
              obtain ⟨hcut22, hA22, hC22⟩ := print_take_of (P := Try.prog) (Value.int .u8) 0 34 5 .i64 Try.underlying34 hi022 hsz22 A0 c0 l0 (ji12) (of_decide_eq_true (by first | (with_reducible assumption) | assumption)) (of_decide_eq_true (by first | (with_reducible assumption) | assumption)) HC0.out
              have HR114 := Aside0.mk (Kd.C_of_reads (h1 := fun _ => rfl) (hA22 _ (Kd.reads_of_C HR0.out)))
              have HC114 := Aside0.mk hC22
              clear hA22 hC22 hi022 hsz22
              go_wp2_with (first | (go_at_call 48; refine calls_of_args (args' := #[.slice A0 (l0.take ((ji12) : Int).toNat).length c0]) (by first | (rw [show (l0.take ((ji12) : Int).toNat).length = (ji12).toNat from (by rw [List.length_take]; have h_ : ((ji12) : Int) ≤ (l0.length : Int) := of_decide_eq_true (by first | (with_reducible assumption) | assumption); omega)] <;> rfl) | rfl) ?_; (with_reducible refine (orthoepyref02_How.calls kj1 _ _ (l0.take ((ji12) : Int).toNat) t115 _ ?side1 ?side2 A15.out).mono ?_); (case side1 => repeat (first | exact HR114.out | (with_reducible refine Kd.C_alloc ?_ _) | (with_reducible refine Kd.C_drewN ?_ _) | (with_reducible refine Kd.C_drew ?_))); (case side2 => exact HC114.out); rintro e w' ⟨rfl, ⟨nd, rfl⟩⟩))
              go_ret3
              exact ⟨by first | rfl | (simp; done) | (simp only [← hji12] <;> (first | rfl | simp)) | (simp [*]; done), by repeat (first | exact Drawn0.refl _ | apply Drawn0.step)⟩
          · rw [if_neg c14] at H
            exact absurd H (by simp)
        · rw [if_neg c13] at H
          exact absurd H (by simp)
      · rw [if_neg c11] at H
        have c11b0 : decide (x5_1 < (l0.length : Int)) = false := decide_eq_false c11
        clear c11
        simp only [Option.some.injEq, Prod.mk.injEq] at H
        obtain ⟨rfl, rfl, rfl⟩ := H
        go_wp2
        go_ret3
        exact ⟨by first | rfl | (simp; done) | (simp [*]; done), by repeat (first | exact Drawn0.refl _ | apply Drawn0.step)⟩

/-! ### orthoepyref02_All: function 34 -/
def orthoepyref02_All.l0 : Nat → List Int → List Int → Int → Option (List Int × Int × Bool)
  | 0, _, _, _ => none
  | k + 1, x0, x5, x6 => if x6 < (x0.length : Int) then (if 0 ≤ x6 then (if x6 ≤ (x0.length : Int) then ((orthoepyref02_First.f k (x0.drop (x6 : Int).toNat)).bind fun bt119 => (if bt119.2.2 = true then (if x5.length < 35184372088832 then (orthoepyref02_All.l0 k x0 (x5 ++ [bt119.1]) (wrap64 (x6 + bt119.2.1))) else (none)) else (some (([] : List Int), wrap64 (x6 + bt119.2.1), false)))) else (none)) else (none)) else (some (x5, x6, true))
def orthoepyref02_All.f (k : Nat) (l0 : List Int) : Option (List Int × Int × Bool) := orthoepyref02_All.l0 k l0 ([] : List Int) 0
theorem orthoepyref02_All.mono_l : ∀ k, (∀ y0 y1 y2, LeO (orthoepyref02_All.l0 k y0 y1 y2) (orthoepyref02_All.l0 (k + 1) y0 y1 y2))
  | 0 => fun _ _ _ r h => by simp [orthoepyref02_All.l0] at h
  | k + 1 => by
    have ih0 := orthoepyref02_All.mono_l k
    · intro y0 y1 y2
      unfold orthoepyref02_All.l0
      repeat' first
      | (with_reducible exact ih0 _ _ _)
      | (with_reducible exact orthoepyref02_First.mono _ _)
      | (with_reducible exact LeO.refl _)
      | (with_reducible exact LeO.none _)
      | (with_reducible refine LeO.ite ?_ ?_)
      | (with_reducible refine LeO.bind ?_ (fun _ => ?_))
      | exact ih0 _ _ _
      | exact orthoepyref02_First.mono _ _
      | exact LeO.none _
      | refine LeO.ite ?_ ?_
      | refine LeO.bind ?_ (fun _ => ?_)
theorem orthoepyref02_All.mono : ∀ a0 k, LeO (orthoepyref02_All.f k a0) (orthoepyref02_All.f (k + 1) a0) := by
  intro a0 k
  have ih0 := orthoepyref02_All.mono_l k
  unfold orthoepyref02_All.f
  repeat' first
      | (with_reducible exact ih0 _ _ _)
      | (with_reducible exact orthoepyref02_First.mono _ _)
      | (with_reducible exact LeO.refl _)
      | (with_reducible exact LeO.none _)
      | (with_reducible refine LeO.ite ?_ ?_)
      | (with_reducible refine LeO.bind ?_ (fun _ => ?_))
      | exact ih0 _ _ _
      | exact orthoepyref02_First.mono _ _
      | exact LeO.none _
      | refine LeO.ite ?_ ?_
      | refine LeO.bind ?_ (fun _ => ?_)
set_option maxHeartbeats 8000000 in
set_option maxRecDepth 100000 in
theorem orthoepyref02_All.calls (k : Nat) (A0 : Option Addr) (c0 : Nat) (l0 : List Int) (r1 : List Int) (r2 : Int) (r3 : Bool) (w : World) (hr0 : Kd.C (Kd.int .u8) w A0 l0.length l0) (hc0 : l0.length ≤ c0) (h : orthoepyref02_All.f k l0 = some (r1, r2, r3)) :
    Calls Try.prog 34 #[.slice A0 l0.length c0] w fun e w' => ∃ v0_ : Value, e = .returned (.tuple #[v0_, .int .i64 r2, .bool r3]) ∧ Kd.R (Kd.int .i32) 21 w' w.heap.size (fun _ => True) v0_ r1 ∧ Below w.heap.size w w' := by
  have HR0 := Aside0.mk hr0
  have HC0 := Aside0.mk hc0
  clear hr0 hc0
  have HB := Aside0.mk (Below.refl w.heap.size w)
  have H : (orthoepyref02_All.l0 k l0 ([] : List Int) 0) = some (r1, r2, r3) := h
  clear h
  have H' := Aside0.mk H
  clear H
  go_enter Try.func34, Try.ntmps34
  go_wp2
  go_loopg [5, 6] k (fun kq v5 v6 w' => ∃ (x5_1 : List Int) (x6_1 : Int), v6 = .int .i64 x6_1 ∧ Aside0 (orthoepyref02_All.l0 kq l0 x5_1 x6_1 = some (r1, r2, r3)) ∧ Aside0 (kq ≤ k) ∧ Aside0 (Kd.R (Kd.int .i32) 21 w' w.heap.size (fun _ => True) v5 x5_1) ∧ Aside0 (Below w.heap.size w w'))
  case atStart => exact ⟨(([] : List Int)), (0), (by first | rfl | (simp; done) | (simp [*]; done)), H', ⟨Nat.le_refl _⟩, ⟨by first | exact Kd.R_nil _ _ _ _ _ | exact Kd.N_nil _ _ _ _ _ | exact Kd.V_nil _ _ _ _ _ | exact Kd.Q_nil _ _ _ _ _ | exact Kd.S_nil _ _ _ _ _⟩, ⟨by repeat (first | (with_reducible first | exact HB.out | apply below_alloc | apply pw_below_drewN | apply below_drew1) | exact HB.out)⟩⟩
  case round =>
    clear H'
    obtain ⟨x5_1, x6_1, rfl, HA, HK1, HO_5, HB⟩ := hrel
    cases gk with
    | zero => exact absurd HA.out (by simp [orthoepyref02_All.l0])
    | succ k1 =>
      have H := HA.out
      clear HA
      simp only [orthoepyref02_All.l0] at H
      by_cases c2 : x6_1 < (l0.length : Int)
      · rw [if_pos c2] at H
        have c2b0 : decide (x6_1 < (l0.length : Int)) = true := decide_eq_true c2
        clear c2
        by_cases c3 : 0 ≤ x6_1
        · rw [if_pos c3] at H
          have c3b0 := eq_true c3
          have c3b1 : decide (0 ≤ x6_1) = true := decide_eq_true c3
          clear c3
          by_cases c4 : x6_1 ≤ (l0.length : Int)
          · rw [if_pos c4] at H
            have c4b0 := eq_true c4
            have c4b1 : decide (x6_1 ≤ (l0.length : Int)) = true := decide_eq_true c4
            clear c4
            replace H := Option.bind_eq_some_iff.mp H
            obtain ⟨⟨t119, t120, t121⟩, A50, H⟩ := H
            replace H : (if t121 = true then (if x5_1.length < 35184372088832 then (orthoepyref02_All.l0 k1 l0 (x5_1 ++ [t119]) (wrap64 (x6_1 + t120))) else (none)) else (some (([] : List Int), wrap64 (x6_1 + t120), false))) = some (r1, r2, r3) := H
            have A5 := Aside0.mk A50
            clear A50
            by_cases c6 : t121 = true
            · subst c6
              have H1 : (if x5_1.length < 35184372088832 then (orthoepyref02_All.l0 k1 l0 (x5_1 ++ [t119]) (wrap64 (x6_1 + t120))) else (none)) = some (r1, r2, r3) := by rw [if_pos rfl] at H; exact H
              clear H
              have H := H1
              clear H1
              by_cases c7 : x5_1.length < 35184372088832
              · rw [if_pos c7] at H
                have LMc7 := Aside0.mk c7
                clear c7
                obtain ⟨y122, hy122⟩ : ∃ y_ : List Int, y_ = (x5_1 ++ [t119]) := ⟨_, rfl⟩
                replace H : (orthoepyref02_All.l0 k1 l0 y122 (wrap64 (x6_1 + t120))) = some (r1, r2, r3) := by first | (rw [hy122]; with_reducible exact H) | (have H2_ := (Option.bind_some _ _).symm.trans H; rw [hy122]; with_reducible exact H2_) | (have H2_ := (Option.bind_some _ _).symm.trans H; with_reducible exact H2_) | with_reducible exact H | (rw [hy122]; exact H) | exact H
                have Ny122 := Aside0.mk hy122
                clear hy122
                have H' := Aside0.mk H
                clear H
                obtain ⟨i08, hi08, _, hsz8, _⟩ := info_parts info5
                obtain ⟨A8, hcut8, hA8, hC8⟩ := print_drop_of (P := Try.prog) (Value.int .u8) 0 34 5 .i64 Try.underlying34 hi08 hsz8 A0 c0 l0 x6_1 (of_decide_eq_true (by first | (with_reducible assumption) | assumption)) (of_decide_eq_true (by first | (with_reducible assumption) | assumption)) HC0.out
                have HR118 := Aside0.mk (Kd.C_of_reads (h1 := fun _ => rfl) (hA8 _ (Kd.reads_of_C HR0.out)))
                have HC118 := Aside0.mk hC8
                clear hA8 hC8 hi08 hsz8
                go_wp2_with (first | ((with_reducible refine gate_callee (f := 40) rfl ?_); refine goesL_ (some 18) rfl rfl Try.func40 (by kernel_rfl) rfl #[.slice A8 (l0.drop (x6_1 : Int).toNat).length (c0 - x6_1.toNat)] rfl (by (try simp only [List.map_toArray, List.map_cons, List.map_nil]); first | done | (rw [show (l0.drop (x6_1 : Int).toNat).length = (l0.length - x6_1.toNat) from List.length_drop] <;> rfl) | rfl | (simp only [List.length_drop, List.length_take]; rfl)) ?_; (with_reducible refine (orthoepyref02_First.calls k1 _ _ (l0.drop (x6_1 : Int).toNat) t119 t120 true _ ?side1 ?side2 A5.out).mono ?_); (case side1 => repeat (first | exact (Kd.C_below HR118.out HB.out) | (with_reducible refine Kd.C_alloc ?_ _) | (with_reducible refine Kd.C_drewN ?_ _) | (with_reducible refine Kd.C_drew ?_))); (case side2 => exact HC118.out); rintro e w' ⟨rfl, ⟨nd, rfl⟩⟩; refine ⟨_, rfl, ?_⟩) | ((with_reducible refine gate_builtin (b := .append) (xs := #[.tmp 27, .tmp 29]) rfl ?_); at_builtin; refine Kd.R_append (Kd.int .i32) (w0 := w) w.heap.size rfl (.tmp 27) (.tmp 29) 39 21 (.int .i32 0) 4 rfl Try.underlying39 info21 rfl (by decide) (by omega) u5 x5_1 t119 [.int .i32 t119] (fun _ => True) (fun _ => False) rfl rfl ?aP (fun _ hk => hk.elim) ?aF ?aO ?aB ?aS ?aL ?_; (case aP => exact rfl); (case aB => exact (by repeat (first | (with_reducible first | exact HB.out | apply below_alloc | apply pw_below_drewN | apply below_drew1) | exact HB.out))); (case aF => exact (fun _ _ => trivial)); (case aO => exact (by (with_reducible repeat (first | apply Kd.R_alloc | apply Kd.R_drewN | apply Kd.R_drew)); exact HO_5.out)); (case aS => exact (below_size (by repeat (first | (with_reducible first | exact HB.out | apply below_alloc | apply pw_below_drewN | apply below_drew1) | exact HB.out)))); (case aL => have := LMc7.out; omega); intro v123 w9 ho hb hg hat; rw [← Ny122.out] at ho; have n0_ := Aside0.mk (hb); have n1_ := Aside0.mk (ho); clear HB; clear HO_5; have HB := n0_; have HO124 := n1_; clear n0_ n1_; clear ho hb hg hat))
                go_roundg k1
                case measure => have := HK1.out; omega
                case rel => exact ⟨(y122), (wrap64 (x6_1 + t120)), (by first | rfl | (simp; done) | (simp [*]; done)), H', ⟨by have := HK1.out; omega⟩, ⟨by (with_reducible repeat (first | apply Kd.R_alloc | apply Kd.R_drewN | apply Kd.R_drew)); exact HO124.out⟩, ⟨by repeat (first | (with_reducible first | exact HB.out | apply below_alloc | apply pw_below_drewN | apply below_drew1) | exact HB.out)⟩⟩
              · rw [if_neg c7] at H
                exact absurd H (by simp)
            · replace c6 := Bool.eq_false_iff.mpr c6
              subst c6
              have H1 : (some (([] : List Int), wrap64 (x6_1 + t120), false)) = some (r1, r2, r3) := by rw [if_neg (show ¬ (false = true) by decide)] at H; exact H
              clear H
              have H := H1
              clear H1
              simp only [Option.some.injEq, Prod.mk.injEq] at H
              obtain ⟨rfl, rfl, rfl⟩ := H
              obtain ⟨i010, hi010, _, hsz10, _⟩ := info_parts info5
              obtain ⟨A10, hcut10, hA10, hC10⟩ := print_drop_of (P := Try.prog) (Value.int .u8) 0 34 5 .i64 Try.underlying34 hi010 hsz10 A0 c0 l0 x6_1 (of_decide_eq_true (by first | (with_reducible assumption) | assumption)) (of_decide_eq_true (by first | (with_reducible assumption) | assumption)) HC0.out
              have HR118 := Aside0.mk (Kd.C_of_reads (h1 := fun _ => rfl) (hA10 _ (Kd.reads_of_C HR0.out)))
              have HC118 := Aside0.mk hC10
              clear hA10 hC10 hi010 hsz10
              go_wp2_with (first | ((with_reducible refine gate_callee (f := 40) rfl ?_); refine goesL_ (some 18) rfl rfl Try.func40 (by kernel_rfl) rfl #[.slice A10 (l0.drop (x6_1 : Int).toNat).length (c0 - x6_1.toNat)] rfl (by (try simp only [List.map_toArray, List.map_cons, List.map_nil]); first | done | (rw [show (l0.drop (x6_1 : Int).toNat).length = (l0.length - x6_1.toNat) from List.length_drop] <;> rfl) | rfl | (simp only [List.length_drop, List.length_take]; rfl)) ?_; (with_reducible refine (orthoepyref02_First.calls k1 _ _ (l0.drop (x6_1 : Int).toNat) t119 t120 false _ ?side1 ?side2 A5.out).mono ?_); (case side1 => repeat (first | exact (Kd.C_below HR118.out HB.out) | (with_reducible refine Kd.C_alloc ?_ _) | (with_reducible refine Kd.C_drewN ?_ _) | (with_reducible refine Kd.C_drew ?_))); (case side2 => exact HC118.out); rintro e w' ⟨rfl, ⟨nd, rfl⟩⟩; refine ⟨_, rfl, ?_⟩))
              go_ret3
              exact ⟨_, by first | rfl | (simp [errW_none, errW_some] <;> rfl) | (simp [*, errW_none, errW_some] <;> rfl), by first | exact Kd.R_nil _ _ _ _ _ | exact Kd.N_nil _ _ _ _ _ | exact Kd.V_nil _ _ _ _ _ | exact Kd.Q_nil _ _ _ _ _ | exact Kd.S_nil _ _ _ _ _, by repeat (first | (with_reducible first | exact HB.out | apply below_alloc | apply pw_below_drewN | apply below_drew1) | exact HB.out)⟩
          · rw [if_neg c4] at H
            exact absurd H (by simp)
        · rw [if_neg c3] at H
          exact absurd H (by simp)
      · rw [if_neg c2] at H
        have c2b0 : decide (x6_1 < (l0.length : Int)) = false := decide_eq_false c2
        clear c2
        simp only [Option.some.injEq, Prod.mk.injEq] at H
        obtain ⟨rfl, rfl, rfl⟩ := H
        go_wp2
        go_ret3
        exact ⟨_, by first | rfl | (simp [errW_none, errW_some] <;> rfl) | (simp [*, errW_none, errW_some] <;> rfl), by (with_reducible repeat (first | apply Kd.R_alloc | apply Kd.R_drewN | apply Kd.R_drew)); exact HO_5.out, by repeat (first | (with_reducible first | exact HB.out | apply below_alloc | apply pw_below_drewN | apply below_drew1) | exact HB.out)⟩

-- NOT PRINTED: function 23 (orthoepyref22_Right)

-- NOT PRINTED: function 10 (orthoepylaw21_right)

/-! ### cmp_isNaN_uint16: function 56 -/
def cmp_isNaN_uint16.f (a0 : Int) : Option (Bool) := some (a0 != a0)
set_option maxHeartbeats 8000000 in
set_option maxRecDepth 100000 in
theorem cmp_isNaN_uint16.calls (a0 : Int) (r : Bool) (w : World) (h : cmp_isNaN_uint16.f a0 = some r) :
    Calls Try.prog 56 #[.int .u16 a0] w fun e w' => e = .returned (.bool r) ∧ Drawn0 w w' := by
  have H : (some (a0 != a0)) = some r := h
  clear h
  obtain rfl := Option.some.inj H
  go_enter Try.func56, Try.ntmps56
  go_wp2
  go_ret
  exact ⟨by first | rfl | (simp; done) | (simp [*]; done), by repeat (first | exact Drawn0.refl _ | apply Drawn0.step)⟩

/-! ### cmp_Compare_uint16: function 50 -/
def cmp_Compare_uint16.f (a0 : Int) (a1 : Int) : Option (Int) := (cmp_isNaN_uint16.f a0).bind fun t127 => ((cmp_isNaN_uint16.f a1).bind fun t128 => (if t127 = true then (if t128 = true then (some 0) else (some (-1))) else (if t128 = true then (some 1) else (if a0 < a1 then (some (-1)) else (if a0 > a1 then (some 1) else (some 0))))))
set_option maxHeartbeats 8000000 in
set_option maxRecDepth 100000 in
theorem cmp_Compare_uint16.calls (a0 : Int) (a1 : Int) (r : Int) (w : World) (h : cmp_Compare_uint16.f a0 a1 = some r) :
    Calls Try.prog 50 #[.int .u16 a0, .int .u16 a1] w fun e w' => e = .returned (.int .i64 r) ∧ Drawn0 w w' := by
  have H : ((cmp_isNaN_uint16.f a0).bind fun t127 => ((cmp_isNaN_uint16.f a1).bind fun t128 => (if t127 = true then (if t128 = true then (some 0) else (some (-1))) else (if t128 = true then (some 1) else (if a0 < a1 then (some (-1)) else (if a0 > a1 then (some 1) else (some 0))))))) = some r := h
  clear h
  replace H := Option.bind_eq_some_iff.mp H
  obtain ⟨t127, A30, H⟩ := H
  replace H : ((cmp_isNaN_uint16.f a1).bind fun t128 => (if t127 = true then (if t128 = true then (some 0) else (some (-1))) else (if t128 = true then (some 1) else (if a0 < a1 then (some (-1)) else (if a0 > a1 then (some 1) else (some 0)))))) = some r := H
  have A3 := Aside0.mk A30
  clear A30
  replace H := Option.bind_eq_some_iff.mp H
  obtain ⟨t128, A40, H⟩ := H
  replace H : (if t127 = true then (if t128 = true then (some 0) else (some (-1))) else (if t128 = true then (some 1) else (if a0 < a1 then (some (-1)) else (if a0 > a1 then (some 1) else (some 0))))) = some r := H
  have A4 := Aside0.mk A40
  clear A40
  by_cases c5 : t127 = true
  · subst c5
    have H1 : (if t128 = true then (some 0) else (some (-1))) = some r := by rw [if_pos rfl] at H; exact H
    clear H
    have H := H1
    clear H1
    by_cases c6 : t128 = true
    · subst c6
      have H1 : (some 0) = some r := by rw [if_pos rfl] at H; exact H
      clear H
      have H := H1
      clear H1
      obtain rfl := Option.some.inj H
      go_enter Try.func50, Try.ntmps50
      go_wp2_with (first | ((with_reducible refine gate_callee (f := 56) rfl ?_); refine goesL_ (some 8) rfl rfl Try.func56 (by kernel_rfl) rfl #[.int .u16 a0] rfl (by (try simp only [List.map_toArray, List.map_cons, List.map_nil]); first | done | rfl | (simp only [List.length_drop, List.length_take]; rfl)) ?_; (with_reducible refine (cmp_isNaN_uint16.calls a0 true _ A3.out).mono ?_); rintro e w' ⟨rfl, ⟨nd, rfl⟩⟩; refine ⟨_, rfl, ?_⟩) | ((with_reducible refine gate_callee (f := 56) rfl ?_); refine goesL_ (some 10) rfl rfl Try.func56 (by kernel_rfl) rfl #[.int .u16 a1] rfl (by (try simp only [List.map_toArray, List.map_cons, List.map_nil]); first | done | rfl | (simp only [List.length_drop, List.length_take]; rfl)) ?_; (with_reducible refine (cmp_isNaN_uint16.calls a1 true _ A4.out).mono ?_); rintro e w' ⟨rfl, ⟨nd, rfl⟩⟩; refine ⟨_, rfl, ?_⟩))
      go_ret
      exact ⟨by first | rfl | (simp; done) | (simp [*]; done), by repeat (first | exact Drawn0.refl _ | apply Drawn0.step)⟩
    · replace c6 := Bool.eq_false_iff.mpr c6
      subst c6
      have H1 : (some (-1)) = some r := by rw [if_neg (show ¬ (false = true) by decide)] at H; exact H
      clear H
      have H := H1
      clear H1
      obtain rfl := Option.some.inj H
      go_enter Try.func50, Try.ntmps50
      go_wp2_with (first | ((with_reducible refine gate_callee (f := 56) rfl ?_); refine goesL_ (some 8) rfl rfl Try.func56 (by kernel_rfl) rfl #[.int .u16 a0] rfl (by (try simp only [List.map_toArray, List.map_cons, List.map_nil]); first | done | rfl | (simp only [List.length_drop, List.length_take]; rfl)) ?_; (with_reducible refine (cmp_isNaN_uint16.calls a0 true _ A3.out).mono ?_); rintro e w' ⟨rfl, ⟨nd, rfl⟩⟩; refine ⟨_, rfl, ?_⟩) | ((with_reducible refine gate_callee (f := 56) rfl ?_); refine goesL_ (some 10) rfl rfl Try.func56 (by kernel_rfl) rfl #[.int .u16 a1] rfl (by (try simp only [List.map_toArray, List.map_cons, List.map_nil]); first | done | rfl | (simp only [List.length_drop, List.length_take]; rfl)) ?_; (with_reducible refine (cmp_isNaN_uint16.calls a1 false _ A4.out).mono ?_); rintro e w' ⟨rfl, ⟨nd, rfl⟩⟩; refine ⟨_, rfl, ?_⟩))
      go_ret
      exact ⟨by first | rfl | (simp; done) | (simp [*]; done), by repeat (first | exact Drawn0.refl _ | apply Drawn0.step)⟩
  · replace c5 := Bool.eq_false_iff.mpr c5
    subst c5
    have H1 : (if t128 = true then (some 1) else (if a0 < a1 then (some (-1)) else (if a0 > a1 then (some 1) else (some 0)))) = some r := by rw [if_neg (show ¬ (false = true) by decide)] at H; exact H
    clear H
    have H := H1
    clear H1
    by_cases c7 : t128 = true
    · subst c7
      have H1 : (some 1) = some r := by rw [if_pos rfl] at H; exact H
      clear H
      have H := H1
      clear H1
      obtain rfl := Option.some.inj H
      go_enter Try.func50, Try.ntmps50
      go_wp2_with (first | ((with_reducible refine gate_callee (f := 56) rfl ?_); refine goesL_ (some 8) rfl rfl Try.func56 (by kernel_rfl) rfl #[.int .u16 a0] rfl (by (try simp only [List.map_toArray, List.map_cons, List.map_nil]); first | done | rfl | (simp only [List.length_drop, List.length_take]; rfl)) ?_; (with_reducible refine (cmp_isNaN_uint16.calls a0 false _ A3.out).mono ?_); rintro e w' ⟨rfl, ⟨nd, rfl⟩⟩; refine ⟨_, rfl, ?_⟩) | ((with_reducible refine gate_callee (f := 56) rfl ?_); refine goesL_ (some 10) rfl rfl Try.func56 (by kernel_rfl) rfl #[.int .u16 a1] rfl (by (try simp only [List.map_toArray, List.map_cons, List.map_nil]); first | done | rfl | (simp only [List.length_drop, List.length_take]; rfl)) ?_; (with_reducible refine (cmp_isNaN_uint16.calls a1 true _ A4.out).mono ?_); rintro e w' ⟨rfl, ⟨nd, rfl⟩⟩; refine ⟨_, rfl, ?_⟩))
      go_ret
      exact ⟨by first | rfl | (simp; done) | (simp [*]; done), by repeat (first | exact Drawn0.refl _ | apply Drawn0.step)⟩
    · replace c7 := Bool.eq_false_iff.mpr c7
      subst c7
      have H1 : (if a0 < a1 then (some (-1)) else (if a0 > a1 then (some 1) else (some 0))) = some r := by rw [if_neg (show ¬ (false = true) by decide)] at H; exact H
      clear H
      have H := H1
      clear H1
      by_cases c8 : a0 < a1
      · rw [if_pos c8] at H
        have c8b0 : decide (a0 < a1) = true := decide_eq_true c8
        clear c8
        obtain rfl := Option.some.inj H
        go_enter Try.func50, Try.ntmps50
        go_wp2_with (first | ((with_reducible refine gate_callee (f := 56) rfl ?_); refine goesL_ (some 8) rfl rfl Try.func56 (by kernel_rfl) rfl #[.int .u16 a0] rfl (by (try simp only [List.map_toArray, List.map_cons, List.map_nil]); first | done | rfl | (simp only [List.length_drop, List.length_take]; rfl)) ?_; (with_reducible refine (cmp_isNaN_uint16.calls a0 false _ A3.out).mono ?_); rintro e w' ⟨rfl, ⟨nd, rfl⟩⟩; refine ⟨_, rfl, ?_⟩) | ((with_reducible refine gate_callee (f := 56) rfl ?_); refine goesL_ (some 10) rfl rfl Try.func56 (by kernel_rfl) rfl #[.int .u16 a1] rfl (by (try simp only [List.map_toArray, List.map_cons, List.map_nil]); first | done | rfl | (simp only [List.length_drop, List.length_take]; rfl)) ?_; (with_reducible refine (cmp_isNaN_uint16.calls a1 false _ A4.out).mono ?_); rintro e w' ⟨rfl, ⟨nd, rfl⟩⟩; refine ⟨_, rfl, ?_⟩))
        go_ret
        exact ⟨by first | rfl | (simp; done) | (simp [*]; done), by repeat (first | exact Drawn0.refl _ | apply Drawn0.step)⟩
      · rw [if_neg c8] at H
        have c8b0 : decide (a0 < a1) = false := decide_eq_false c8
        clear c8
        by_cases c9 : a0 > a1
        · rw [if_pos c9] at H
          have c9b0 : decide (a1 < a0) = true := decide_eq_true c9
          clear c9
          obtain rfl := Option.some.inj H
          go_enter Try.func50, Try.ntmps50
          go_wp2_with (first | ((with_reducible refine gate_callee (f := 56) rfl ?_); refine goesL_ (some 8) rfl rfl Try.func56 (by kernel_rfl) rfl #[.int .u16 a0] rfl (by (try simp only [List.map_toArray, List.map_cons, List.map_nil]); first | done | rfl | (simp only [List.length_drop, List.length_take]; rfl)) ?_; (with_reducible refine (cmp_isNaN_uint16.calls a0 false _ A3.out).mono ?_); rintro e w' ⟨rfl, ⟨nd, rfl⟩⟩; refine ⟨_, rfl, ?_⟩) | ((with_reducible refine gate_callee (f := 56) rfl ?_); refine goesL_ (some 10) rfl rfl Try.func56 (by kernel_rfl) rfl #[.int .u16 a1] rfl (by (try simp only [List.map_toArray, List.map_cons, List.map_nil]); first | done | rfl | (simp only [List.length_drop, List.length_take]; rfl)) ?_; (with_reducible refine (cmp_isNaN_uint16.calls a1 false _ A4.out).mono ?_); rintro e w' ⟨rfl, ⟨nd, rfl⟩⟩; refine ⟨_, rfl, ?_⟩))
          go_ret
          exact ⟨by first | rfl | (simp; done) | (simp [*]; done), by repeat (first | exact Drawn0.refl _ | apply Drawn0.step)⟩
        · rw [if_neg c9] at H
          have c9b0 : decide (a1 < a0) = false := decide_eq_false c9
          clear c9
          obtain rfl := Option.some.inj H
          go_enter Try.func50, Try.ntmps50
          go_wp2_with (first | ((with_reducible refine gate_callee (f := 56) rfl ?_); refine goesL_ (some 8) rfl rfl Try.func56 (by kernel_rfl) rfl #[.int .u16 a0] rfl (by (try simp only [List.map_toArray, List.map_cons, List.map_nil]); first | done | rfl | (simp only [List.length_drop, List.length_take]; rfl)) ?_; (with_reducible refine (cmp_isNaN_uint16.calls a0 false _ A3.out).mono ?_); rintro e w' ⟨rfl, ⟨nd, rfl⟩⟩; refine ⟨_, rfl, ?_⟩) | ((with_reducible refine gate_callee (f := 56) rfl ?_); refine goesL_ (some 10) rfl rfl Try.func56 (by kernel_rfl) rfl #[.int .u16 a1] rfl (by (try simp only [List.map_toArray, List.map_cons, List.map_nil]); first | done | rfl | (simp only [List.length_drop, List.length_take]; rfl)) ?_; (with_reducible refine (cmp_isNaN_uint16.calls a1 false _ A4.out).mono ?_); rintro e w' ⟨rfl, ⟨nd, rfl⟩⟩; refine ⟨_, rfl, ?_⟩))
          go_ret
          exact ⟨by first | rfl | (simp; done) | (simp [*]; done), by repeat (first | exact Drawn0.refl _ | apply Drawn0.step)⟩

end Go.Proofs.Ytajinnlaajhoeaa.PAll
