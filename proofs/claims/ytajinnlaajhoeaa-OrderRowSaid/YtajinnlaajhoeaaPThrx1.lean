-- The machine's side of laws, written by a program of this session (wip/gen/pp.sh). Lean checks it.
import Derived.Test.YtajinnlaajhoeaaPThrx0
namespace Go.Proofs.Ytajinnlaajhoeaa.PThr
open Go.RowKit Go.Proofs.YtajinnlaajhoeaaW.PrintWords Go.Proofs.YtajinnlaajhoeaaW.PrintLast
set_option linter.unusedVariables false
set_option linter.unusedSimpArgs false

-- NOT PRINTED: function 54 (orthoepyref02_long)

-- NOT PRINTED: function 55 (orthoepyref02_second)

-- NOT PRINTED: function 48 (orthoepyref02_How)

-- NOT PRINTED: function 49 (orthoepyref02_of)

-- NOT PRINTED: function 40 (orthoepyref02_First)

-- NOT PRINTED: function 34 (orthoepyref02_All)

/-! ### orthoepyref22_Right: function 23 -/
def orthoepyref22_Right.f (a0 : ByteArray) : Option (Bool) := if a0.size ≤ 1000000 then some (Go.Proofs.Ytajinnlaajhoeaa.Pure.okS a0) else none
theorem orthoepyref22_Right.calls (a0 : ByteArray) (r : Bool) (w : World) (h : orthoepyref22_Right.f a0 = some r) :
    Calls Try.prog 23 #[.string a0] w fun e w' => e = .returned (.bool r) ∧ Below w.heap.size w w' := by
  unfold orthoepyref22_Right.f at h
  split at h
  · rename_i hs
    obtain rfl := Option.some.inj h
    exact Go.Proofs.Ytajinnlaajhoeaa.Pure.right_tot a0 w hs
  · cases h

/-! ### orthoepylaw21_right: function 10 -/
def orthoepylaw21_right.l0 : Nat → List ByteArray → Int → Option (Bool)
  | 0, _, _ => none
  | k + 1, x0, x3 => if x3 < (x0.length : Int) then (if 0 ≤ x3 then (if ((rdOf ByteArray.empty x0 x3).size : Int) > 60 then (some false) else ((orthoepyref22_Right.f (rdOf ByteArray.empty x0 x3)).bind fun t103 => (if t103 = true then (orthoepylaw21_right.l0 k x0 (wrap64 (x3 + 1))) else (some false)))) else (none)) else (some true)
def orthoepylaw21_right.f (k : Nat) (l0 : List ByteArray) : Option (Bool) := if (l0.length : Int) > 40 then (some false) else (orthoepylaw21_right.l0 k l0 0)
theorem orthoepylaw21_right.mono_l : ∀ k, (∀ y0 y1, LeO (orthoepylaw21_right.l0 k y0 y1) (orthoepylaw21_right.l0 (k + 1) y0 y1))
  | 0 => fun _ _ r h => by simp [orthoepylaw21_right.l0] at h
  | k + 1 => by
    have ih0 := orthoepylaw21_right.mono_l k
    · intro y0 y1
      unfold orthoepylaw21_right.l0
      repeat' first
      | (with_reducible exact ih0 _ _)
      | (with_reducible exact LeO.refl _)
      | (with_reducible exact LeO.none _)
      | (with_reducible refine LeO.ite ?_ ?_)
      | (with_reducible refine LeO.bind ?_ (fun _ => ?_))
      | exact ih0 _ _
      | exact LeO.none _
      | refine LeO.ite ?_ ?_
      | refine LeO.bind ?_ (fun _ => ?_)
theorem orthoepylaw21_right.mono : ∀ a0 k, LeO (orthoepylaw21_right.f k a0) (orthoepylaw21_right.f (k + 1) a0) := by
  intro a0 k
  have ih0 := orthoepylaw21_right.mono_l k
  unfold orthoepylaw21_right.f
  repeat' first
      | (with_reducible exact ih0 _ _)
      | (with_reducible exact LeO.refl _)
      | (with_reducible exact LeO.none _)
      | (with_reducible refine LeO.ite ?_ ?_)
      | (with_reducible refine LeO.bind ?_ (fun _ => ?_))
      | exact ih0 _ _
      | exact LeO.none _
      | refine LeO.ite ?_ ?_
      | refine LeO.bind ?_ (fun _ => ?_)
set_option maxHeartbeats 8000000 in
set_option maxRecDepth 100000 in
theorem orthoepylaw21_right.calls (k : Nat) (A0 : Option Addr) (c0 : Nat) (l0 : List ByteArray) (r : Bool) (w : World) (hr0 : Kd.C Kd.string w A0 l0.length l0) (hc0 : l0.length ≤ c0) (h : orthoepylaw21_right.f k l0 = some r) :
    Calls Try.prog 10 #[.slice A0 l0.length c0] w fun e w' => e = .returned (.bool r) ∧ Below w.heap.size w w' := by
  have HR0 := Aside0.mk hr0
  have HC0 := Aside0.mk hc0
  clear hr0 hc0
  have HB := Aside0.mk (Below.refl w.heap.size w)
  have H : (if (l0.length : Int) > 40 then (some false) else (orthoepylaw21_right.l0 k l0 0)) = some r := h
  clear h
  by_cases c2 : (l0.length : Int) > 40
  · rw [if_pos c2] at H
    have c2b0 : decide (40 < (l0.length : Int)) = true := decide_eq_true c2
    have c2b1 : decide (40 < l0.length) = true := decide_eq_true (by omega)
    clear c2
    obtain rfl := Option.some.inj H
    go_enter Try.func10, Try.ntmps10
    go_wp2
    go_ret
    exact ⟨by first | rfl | (simp [errW_none, errW_some] <;> rfl) | (simp [*, errW_none, errW_some] <;> rfl), by repeat (first | (with_reducible first | exact HB.out | apply below_alloc | apply pw_below_drewN | apply below_drew1) | exact HB.out)⟩
  · rw [if_neg c2] at H
    have c2b0 : decide (40 < (l0.length : Int)) = false := decide_eq_false c2
    have c2b1 : decide (40 < l0.length) = false := decide_eq_false (by omega)
    clear c2
    have H' := Aside0.mk H
    clear H
    go_enter Try.func10, Try.ntmps10
    go_wp2
    go_loopg [3] k (fun kq v3 w' => ∃ (x3_1 : Int), v3 = .int .i64 x3_1 ∧ Aside0 (orthoepylaw21_right.l0 kq l0 x3_1 = some r) ∧ Aside0 (kq ≤ k) ∧ Aside0 (Below w.heap.size w w'))
    case atStart => exact ⟨(0), (by first | rfl | (simp; done) | (simp [*]; done)), H', ⟨Nat.le_refl _⟩, ⟨by repeat (first | (with_reducible first | exact HB.out | apply below_alloc | apply pw_below_drewN | apply below_drew1) | exact HB.out)⟩⟩
    case round =>
      clear H'
      try clear c1
      try clear c2
      try clear c2b0
      try clear c2b1
      try clear p2
      obtain ⟨x3_1, rfl, HA, HK1, HB⟩ := hrel
      cases gk with
      | zero => exact absurd HA.out (by simp [orthoepylaw21_right.l0])
      | succ k1 =>
        have H := HA.out
        clear HA
        simp only [orthoepylaw21_right.l0] at H
        by_cases c3 : x3_1 < (l0.length : Int)
        · rw [if_pos c3] at H
          have c3b0 : decide (x3_1 < (l0.length : Int)) = true := decide_eq_true c3
          clear c3
          by_cases c4 : 0 ≤ x3_1
          · rw [if_pos c4] at H
            have c4b0 : decide (0 ≤ x3_1) = true := decide_eq_true c4
            clear c4
            by_cases c5 : ((rdOf ByteArray.empty l0 x3_1).size : Int) > 60
            · rw [if_pos c5] at H
              have c5b0 : decide (60 < ((rdOf ByteArray.empty l0 x3_1).size : Int)) = true := decide_eq_true c5
              have c5b1 : decide (60 < (rdOf ByteArray.empty l0 x3_1).size) = true := decide_eq_true (by omega)
              clear c5
              obtain rfl := Option.some.inj H
              have p101 : 0 ≤ (x3_1 : Int) := of_decide_eq_true (by first | (with_reducible assumption) | assumption)
              have q101 : x3_1 < (l0.length : Int) := of_decide_eq_true (by first | (with_reducible assumption) | assumption)
              obtain ⟨ad101, e101, hx101_0⟩ := Kd.at_string HR0.out x3_1 p101 q101
              cases e101
              replace hx101_0 := (HB.out.cell (World.block_lt_of_cell? w _ hx101_0)).trans hx101_0
              replace p101 := eq_true p101
              replace q101 := eq_true q101
              go_wp2
              go_ret
              exact ⟨by first | rfl | (simp [errW_none, errW_some] <;> rfl) | (simp [*, errW_none, errW_some] <;> rfl), by repeat (first | (with_reducible first | exact HB.out | apply below_alloc | apply pw_below_drewN | apply below_drew1) | exact HB.out)⟩
            · rw [if_neg c5] at H
              have c5b0 : decide (60 < ((rdOf ByteArray.empty l0 x3_1).size : Int)) = false := decide_eq_false c5
              have c5b1 : decide (60 < (rdOf ByteArray.empty l0 x3_1).size) = false := decide_eq_false (by omega)
              clear c5
              replace H := Option.bind_eq_some_iff.mp H
              obtain ⟨t103, A60, H⟩ := H
              replace H : (if t103 = true then (orthoepylaw21_right.l0 k1 l0 (wrap64 (x3_1 + 1))) else (some false)) = some r := H
              have A6 := Aside0.mk A60
              clear A60
              by_cases c7 : t103 = true
              · subst c7
                have H1 : (orthoepylaw21_right.l0 k1 l0 (wrap64 (x3_1 + 1))) = some r := by rw [if_pos rfl] at H; exact H
                clear H
                have H := H1
                clear H1
                have H' := Aside0.mk H
                clear H
                have p101 : 0 ≤ (x3_1 : Int) := of_decide_eq_true (by first | (with_reducible assumption) | assumption)
                have q101 : x3_1 < (l0.length : Int) := of_decide_eq_true (by first | (with_reducible assumption) | assumption)
                obtain ⟨ad101, e101, hx101_0⟩ := Kd.at_string HR0.out x3_1 p101 q101
                cases e101
                replace hx101_0 := (HB.out.cell (World.block_lt_of_cell? w _ hx101_0)).trans hx101_0
                replace p101 := eq_true p101
                replace q101 := eq_true q101
                have p102 : 0 ≤ (x3_1 : Int) := of_decide_eq_true (by first | (with_reducible assumption) | assumption)
                have q102 : x3_1 < (l0.length : Int) := of_decide_eq_true (by first | (with_reducible assumption) | assumption)
                obtain ⟨ad102, e102, hx102_0⟩ := Kd.at_string HR0.out x3_1 p102 q102
                obtain rfl : ad101 = ad102 := (by injection e102)
                replace hx102_0 := (HB.out.cell (World.block_lt_of_cell? w _ hx102_0)).trans hx102_0
                replace p102 := eq_true p102
                replace q102 := eq_true q102
                go_wp2_with (first | (go_at_call 23; (with_reducible refine (orthoepyref22_Right.calls (rdOf ByteArray.empty l0 x3_1) true _ A6.out).mono ?_); rintro e w8 ⟨rfl, hb⟩; have n0_ := Aside0.mk (below_step (by repeat (first | (with_reducible first | exact HB.out | apply below_alloc | apply pw_below_drewN | apply below_drew1) | exact HB.out)) hb); clear HB; have HB := n0_; clear n0_; (try clear hb); (try clear hb2); (try clear hk); (try clear hi)))
                go_roundg k1
                case measure => have := HK1.out; omega
                case rel => exact ⟨(wrap64 (x3_1 + 1)), (by first | rfl | (simp; done) | (simp [*]; done)), H', ⟨by have := HK1.out; omega⟩, ⟨by repeat (first | (with_reducible first | exact HB.out | apply below_alloc | apply pw_below_drewN | apply below_drew1) | exact HB.out)⟩⟩
              · replace c7 := Bool.eq_false_iff.mpr c7
                subst c7
                have H1 : (some false) = some r := by rw [if_neg (show ¬ (false = true) by decide)] at H; exact H
                clear H
                have H := H1
                clear H1
                obtain rfl := Option.some.inj H
                have p101 : 0 ≤ (x3_1 : Int) := of_decide_eq_true (by first | (with_reducible assumption) | assumption)
                have q101 : x3_1 < (l0.length : Int) := of_decide_eq_true (by first | (with_reducible assumption) | assumption)
                obtain ⟨ad101, e101, hx101_0⟩ := Kd.at_string HR0.out x3_1 p101 q101
                cases e101
                replace hx101_0 := (HB.out.cell (World.block_lt_of_cell? w _ hx101_0)).trans hx101_0
                replace p101 := eq_true p101
                replace q101 := eq_true q101
                have p102 : 0 ≤ (x3_1 : Int) := of_decide_eq_true (by first | (with_reducible assumption) | assumption)
                have q102 : x3_1 < (l0.length : Int) := of_decide_eq_true (by first | (with_reducible assumption) | assumption)
                obtain ⟨ad102, e102, hx102_0⟩ := Kd.at_string HR0.out x3_1 p102 q102
                obtain rfl : ad101 = ad102 := (by injection e102)
                replace hx102_0 := (HB.out.cell (World.block_lt_of_cell? w _ hx102_0)).trans hx102_0
                replace p102 := eq_true p102
                replace q102 := eq_true q102
                go_wp2_with (first | (go_at_call 23; (with_reducible refine (orthoepyref22_Right.calls (rdOf ByteArray.empty l0 x3_1) false _ A6.out).mono ?_); rintro e w9 ⟨rfl, hb⟩; have n0_ := Aside0.mk (below_step (by repeat (first | (with_reducible first | exact HB.out | apply below_alloc | apply pw_below_drewN | apply below_drew1) | exact HB.out)) hb); clear HB; have HB := n0_; clear n0_; (try clear hb); (try clear hb2); (try clear hk); (try clear hi)))
                go_ret
                exact ⟨by first | rfl | (simp [errW_none, errW_some] <;> rfl) | (simp [*, errW_none, errW_some] <;> rfl), by repeat (first | (with_reducible first | exact HB.out | apply below_alloc | apply pw_below_drewN | apply below_drew1) | exact HB.out)⟩
          · rw [if_neg c4] at H
            exact absurd H (by simp)
        · rw [if_neg c3] at H
          have c3b0 : decide (x3_1 < (l0.length : Int)) = false := decide_eq_false c3
          clear c3
          obtain rfl := Option.some.inj H
          go_wp2
          go_ret
          exact ⟨by first | rfl | (simp [errW_none, errW_some] <;> rfl) | (simp [*, errW_none, errW_some] <;> rfl), by repeat (first | (with_reducible first | exact HB.out | apply below_alloc | apply pw_below_drewN | apply below_drew1) | exact HB.out)⟩

-- NOT PRINTED: function 56 (cmp_isNaN_uint16)

-- NOT PRINTED: function 50 (cmp_Compare_uint16)

-- NOT PRINTED: function 41 (slices_Compare_uint16_uint16)

-- NOT PRINTED: function 51 (utf16_units)

-- NOT PRINTED: function 42 (utf16_Units)

-- NOT PRINTED: function 35 (utf16_Compare)

-- NOT PRINTED: function 24 (order_less)

-- NOT PRINTED: function 43 (utf8_New)

-- NOT PRINTED: function 52 (utf8_size)

-- NOT PRINTED: function 53 (utf8_second)

-- NOT PRINTED: function 44 (utf8_Reader_Push)

-- NOT PRINTED: function 45 (utf8_Reader_Left)

-- NOT PRINTED: function 36 (utf8_All)

-- NOT PRINTED: function 25 (order_scalars)

/-! ### order_Less: function 12 -/
def order_Less.f (a0 : ByteArray) (a1 : ByteArray) : Option (Bool) := if a0.size ≤ 1000000 ∧ a1.size ≤ 1000000 then some (Go.Proofs.Ytajinnlaajhoeaa.Pure.lessS a0 a1) else none
theorem order_Less.calls (a0 : ByteArray) (a1 : ByteArray) (r : Bool) (w : World) (h : order_Less.f a0 a1 = some r) :
    Calls Try.prog 12 #[.string a0, .string a1] w fun e w' => e = .returned (.bool r) ∧ Below w.heap.size w w' := by
  unfold order_Less.f at h
  split at h
  · rename_i hs
    obtain rfl := Option.some.inj h
    exact Go.Proofs.Ytajinnlaajhoeaa.Pure.less_tot a0 a1 w hs.1 hs.2
  · cases h

/-! ### orthoepylaw21_same: function 14 -/
def orthoepylaw21_same.f (l0 : List Int) (l1 : List Int) : Option (Bool) := if l0.length ≤ 1000000 then some (decide (l0 = l1)) else none
theorem orthoepylaw21_same.calls (A0 : Option Addr) (c0 : Nat) (l0 : List Int) (A1 : Option Addr) (c1 : Nat) (l1 : List Int) (r : Bool) (w : World) (hr0 : Kd.C (Kd.int .i64) w A0 l0.length l0) (hc0 : l0.length ≤ c0) (hr1 : Kd.C (Kd.int .i64) w A1 l1.length l1) (hc1 : l1.length ≤ c1) (h : orthoepylaw21_same.f l0 l1 = some r) :
    Calls Try.prog 14 #[.slice A0 l0.length c0, .slice A1 l1.length c1] w fun e w' => e = .returned (.bool r) ∧ Drawn0 w w' := by
  unfold orthoepylaw21_same.f at h
  split at h
  · rename_i hs
    obtain rfl := Option.some.inj h
    exact Go.Proofs.Ytajinnlaajhoeaa.Pure.same_tot A0 c0 l0 A1 c1 l1 w hr0 hc0 hr1 hc1 hs
  · cases h

-- NOT PRINTED: function 27 (order_places)

-- NOT PRINTED: function 47 (order_item_47)

-- NOT PRINTED: function 38 (order_item_38)

-- NOT PRINTED: function 28 (order_item_28)

/-! ### order_Sort: function 15 -/
def order_Sort.f (l0 : List ByteArray) : Option (List Int) := if l0.length ≤ 1000 ∧ ∀ s ∈ l0, s.size ≤ 1000000 then some (Go.Proofs.Ytajinnlaajhoeaa.Pure.rsortP l0) else none
theorem order_Sort.calls (A0 : Option Addr) (c0 : Nat) (l0 : List ByteArray) (r : List Int) (w : World) (hr0 : Kd.C Kd.string w A0 l0.length l0) (hc0 : l0.length ≤ c0) (h : order_Sort.f l0 = some r) :
    Calls Try.prog 15 #[.slice A0 l0.length c0] w fun e w' => ∃ v0_ : Value, e = .returned (v0_) ∧ Kd.R (Kd.int .i64) 3 w' w.heap.size (fun _ => True) v0_ r ∧ Below w.heap.size w w' := by
  unfold order_Sort.f at h
  split at h
  · rename_i hs
    obtain rfl := Option.some.inj h
    exact Go.Proofs.Ytajinnlaajhoeaa.Pure.sort_tot2 A0 c0 l0 w hr0 hc0 hs.1 hs.2
  · cases h

-- NOT PRINTED: function 29 (order_items)

/-! ### order_Merge: function 18 -/
def order_Merge.f (l0 : List ByteArray) (l1 : List Int) (l2 : List Int) : Option (List Int) := if l1.length ≤ 1000 ∧ l2.length ≤ 1000 ∧ (∀ s ∈ l0, s.size ≤ 1000000) ∧ (∀ p ∈ l1, 0 ≤ p ∧ p < l0.length) ∧ (∀ p ∈ l2, 0 ≤ p ∧ p < l0.length) then some (Go.Proofs.Ytajinnlaajhoeaa.Pure.mrgP l0 l1 l2) else none
theorem order_Merge.calls (A0 : Option Addr) (c0 : Nat) (l0 : List ByteArray) (A1 : Option Addr) (c1 : Nat) (l1 : List Int) (A2 : Option Addr) (c2 : Nat) (l2 : List Int) (r : List Int) (w : World) (hr0 : Kd.C Kd.string w A0 l0.length l0) (hc0 : l0.length ≤ c0) (hr1 : Kd.C (Kd.int .i64) w A1 l1.length l1) (hc1 : l1.length ≤ c1) (hr2 : Kd.C (Kd.int .i64) w A2 l2.length l2) (hc2 : l2.length ≤ c2) (h : order_Merge.f l0 l1 l2 = some r) :
    Calls Try.prog 18 #[.slice A0 l0.length c0, .slice A1 l1.length c1, .slice A2 l2.length c2] w fun e w' => ∃ v0_ : Value, e = .returned (v0_) ∧ Kd.R (Kd.int .i64) 3 w' w.heap.size (fun _ => True) v0_ r ∧ Below w.heap.size w w' := by
  unfold order_Merge.f at h
  split at h
  · rename_i hs
    obtain rfl := Option.some.inj h
    exact Go.Proofs.Ytajinnlaajhoeaa.Pure.merge_tot2 A0 c0 l0 A1 A2 c1 c2 l1 l2 w hr0 hr1 hr2 hs.1 hs.2.1 hs.2.2.1 hs.2.2.2.1 hs.2.2.2.2
  · cases h

/-! ### orthoepylaw21_awake0: function 11 -/
def orthoepylaw21_awake0.f  : Option (Bool) := (order_Sort.f (([(⟨#[98]⟩ : ByteArray), (⟨#[97]⟩ : ByteArray), (⟨#[]⟩ : ByteArray)] : List ByteArray))).bind fun t107 => ((order_Merge.f (([(⟨#[97]⟩ : ByteArray), (⟨#[98]⟩ : ByteArray), (⟨#[97]⟩ : ByteArray)] : List ByteArray)) (([0, 1] : List Int)) (([2] : List Int))).bind fun t119 => ((orthoepylaw21_same.f t107 (([2, 1, 0] : List Int))).bind fun t125 => (if t125 = true then ((orthoepylaw21_same.f t119 (([0, 2, 1] : List Int))).bind fun t129 => (if t129 = true then ((order_Less.f (⟨#[240, 159, 152, 128]⟩ : ByteArray) (⟨#[239, 172, 179]⟩ : ByteArray)).bind fun t130 => (if t130 = true then ((order_Less.f (⟨#[239, 172, 179]⟩ : ByteArray) (⟨#[240, 159, 152, 128]⟩ : ByteArray)).bind fun t131 => (if t131 = true then (some false) else ((order_Less.f (⟨#[97]⟩ : ByteArray) (⟨#[97]⟩ : ByteArray)).bind fun t132 => (if t132 = true then (some false) else ((order_Less.f (⟨#[]⟩ : ByteArray) (⟨#[97]⟩ : ByteArray)).bind fun t133 => (some t133)))))) else (some false))) else (some false))) else (some false))))
set_option maxHeartbeats 8000000 in
set_option maxRecDepth 100000 in
theorem orthoepylaw21_awake0.calls  (r : Bool) (w : World) (h : orthoepylaw21_awake0.f  = some r) (hT_ : Aside0 (r = true)) :
    Calls Try.prog 11 #[] w fun e w' => e = .returned (.bool r) ∧ Below w.heap.size w w' := by
  have HB := Aside0.mk (Below.refl w.heap.size w)
  have H : ((order_Sort.f (([(⟨#[98]⟩ : ByteArray), (⟨#[97]⟩ : ByteArray), (⟨#[]⟩ : ByteArray)] : List ByteArray))).bind fun t107 => ((order_Merge.f (([(⟨#[97]⟩ : ByteArray), (⟨#[98]⟩ : ByteArray), (⟨#[97]⟩ : ByteArray)] : List ByteArray)) (([0, 1] : List Int)) (([2] : List Int))).bind fun t119 => ((orthoepylaw21_same.f t107 (([2, 1, 0] : List Int))).bind fun t125 => (if t125 = true then ((orthoepylaw21_same.f t119 (([0, 2, 1] : List Int))).bind fun t129 => (if t129 = true then ((order_Less.f (⟨#[240, 159, 152, 128]⟩ : ByteArray) (⟨#[239, 172, 179]⟩ : ByteArray)).bind fun t130 => (if t130 = true then ((order_Less.f (⟨#[239, 172, 179]⟩ : ByteArray) (⟨#[240, 159, 152, 128]⟩ : ByteArray)).bind fun t131 => (if t131 = true then (some false) else ((order_Less.f (⟨#[97]⟩ : ByteArray) (⟨#[97]⟩ : ByteArray)).bind fun t132 => (if t132 = true then (some false) else ((order_Less.f (⟨#[]⟩ : ByteArray) (⟨#[97]⟩ : ByteArray)).bind fun t133 => (some t133)))))) else (some false))) else (some false))) else (some false))))) = some r := h
  clear h
  obtain ⟨y104, hy104⟩ : ∃ y_ : List ByteArray, y_ = (([(⟨#[98]⟩ : ByteArray), (⟨#[97]⟩ : ByteArray), (⟨#[]⟩ : ByteArray)] : List ByteArray)) := ⟨_, rfl⟩
  replace H : ((order_Sort.f y104).bind fun t107 => ((order_Merge.f (([(⟨#[97]⟩ : ByteArray), (⟨#[98]⟩ : ByteArray), (⟨#[97]⟩ : ByteArray)] : List ByteArray)) (([0, 1] : List Int)) (([2] : List Int))).bind fun t119 => ((orthoepylaw21_same.f t107 (([2, 1, 0] : List Int))).bind fun t125 => (if t125 = true then ((orthoepylaw21_same.f t119 (([0, 2, 1] : List Int))).bind fun t129 => (if t129 = true then ((order_Less.f (⟨#[240, 159, 152, 128]⟩ : ByteArray) (⟨#[239, 172, 179]⟩ : ByteArray)).bind fun t130 => (if t130 = true then ((order_Less.f (⟨#[239, 172, 179]⟩ : ByteArray) (⟨#[240, 159, 152, 128]⟩ : ByteArray)).bind fun t131 => (if t131 = true then (some false) else ((order_Less.f (⟨#[97]⟩ : ByteArray) (⟨#[97]⟩ : ByteArray)).bind fun t132 => (if t132 = true then (some false) else ((order_Less.f (⟨#[]⟩ : ByteArray) (⟨#[97]⟩ : ByteArray)).bind fun t133 => (some t133)))))) else (some false))) else (some false))) else (some false))))) = some r := by first | (rw [hy104]; with_reducible exact H) | (have H2_ := (Option.bind_some _ _).symm.trans H; rw [hy104]; with_reducible exact H2_) | (have H2_ := (Option.bind_some _ _).symm.trans H; with_reducible exact H2_) | with_reducible exact H | (rw [hy104]; exact H) | exact H
  have Ny104 := Aside0.mk hy104
  clear hy104
  replace H := Option.bind_eq_some_iff.mp H
  obtain ⟨t107, A10, H⟩ := H
  replace H : ((order_Merge.f (([(⟨#[97]⟩ : ByteArray), (⟨#[98]⟩ : ByteArray), (⟨#[97]⟩ : ByteArray)] : List ByteArray)) (([0, 1] : List Int)) (([2] : List Int))).bind fun t119 => ((orthoepylaw21_same.f t107 (([2, 1, 0] : List Int))).bind fun t125 => (if t125 = true then ((orthoepylaw21_same.f t119 (([0, 2, 1] : List Int))).bind fun t129 => (if t129 = true then ((order_Less.f (⟨#[240, 159, 152, 128]⟩ : ByteArray) (⟨#[239, 172, 179]⟩ : ByteArray)).bind fun t130 => (if t130 = true then ((order_Less.f (⟨#[239, 172, 179]⟩ : ByteArray) (⟨#[240, 159, 152, 128]⟩ : ByteArray)).bind fun t131 => (if t131 = true then (some false) else ((order_Less.f (⟨#[97]⟩ : ByteArray) (⟨#[97]⟩ : ByteArray)).bind fun t132 => (if t132 = true then (some false) else ((order_Less.f (⟨#[]⟩ : ByteArray) (⟨#[97]⟩ : ByteArray)).bind fun t133 => (some t133)))))) else (some false))) else (some false))) else (some false)))) = some r := H
  have A1 := Aside0.mk A10
  clear A10
  obtain ⟨y110, hy110⟩ : ∃ y_ : List ByteArray, y_ = (([(⟨#[97]⟩ : ByteArray), (⟨#[98]⟩ : ByteArray), (⟨#[97]⟩ : ByteArray)] : List ByteArray)) := ⟨_, rfl⟩
  replace H : ((order_Merge.f y110 (([0, 1] : List Int)) (([2] : List Int))).bind fun t119 => ((orthoepylaw21_same.f t107 (([2, 1, 0] : List Int))).bind fun t125 => (if t125 = true then ((orthoepylaw21_same.f t119 (([0, 2, 1] : List Int))).bind fun t129 => (if t129 = true then ((order_Less.f (⟨#[240, 159, 152, 128]⟩ : ByteArray) (⟨#[239, 172, 179]⟩ : ByteArray)).bind fun t130 => (if t130 = true then ((order_Less.f (⟨#[239, 172, 179]⟩ : ByteArray) (⟨#[240, 159, 152, 128]⟩ : ByteArray)).bind fun t131 => (if t131 = true then (some false) else ((order_Less.f (⟨#[97]⟩ : ByteArray) (⟨#[97]⟩ : ByteArray)).bind fun t132 => (if t132 = true then (some false) else ((order_Less.f (⟨#[]⟩ : ByteArray) (⟨#[97]⟩ : ByteArray)).bind fun t133 => (some t133)))))) else (some false))) else (some false))) else (some false)))) = some r := by first | (rw [hy110]; with_reducible exact H) | (have H2_ := (Option.bind_some _ _).symm.trans H; rw [hy110]; with_reducible exact H2_) | (have H2_ := (Option.bind_some _ _).symm.trans H; with_reducible exact H2_) | with_reducible exact H | (rw [hy110]; exact H) | exact H
  have Ny110 := Aside0.mk hy110
  clear hy110
  obtain ⟨y113, hy113⟩ : ∃ y_ : List Int, y_ = (([0, 1] : List Int)) := ⟨_, rfl⟩
  replace H : ((order_Merge.f y110 y113 (([2] : List Int))).bind fun t119 => ((orthoepylaw21_same.f t107 (([2, 1, 0] : List Int))).bind fun t125 => (if t125 = true then ((orthoepylaw21_same.f t119 (([0, 2, 1] : List Int))).bind fun t129 => (if t129 = true then ((order_Less.f (⟨#[240, 159, 152, 128]⟩ : ByteArray) (⟨#[239, 172, 179]⟩ : ByteArray)).bind fun t130 => (if t130 = true then ((order_Less.f (⟨#[239, 172, 179]⟩ : ByteArray) (⟨#[240, 159, 152, 128]⟩ : ByteArray)).bind fun t131 => (if t131 = true then (some false) else ((order_Less.f (⟨#[97]⟩ : ByteArray) (⟨#[97]⟩ : ByteArray)).bind fun t132 => (if t132 = true then (some false) else ((order_Less.f (⟨#[]⟩ : ByteArray) (⟨#[97]⟩ : ByteArray)).bind fun t133 => (some t133)))))) else (some false))) else (some false))) else (some false)))) = some r := by first | (rw [hy113]; with_reducible exact H) | (have H2_ := (Option.bind_some _ _).symm.trans H; rw [hy113]; with_reducible exact H2_) | (have H2_ := (Option.bind_some _ _).symm.trans H; with_reducible exact H2_) | with_reducible exact H | (rw [hy113]; exact H) | exact H
  have Ny113 := Aside0.mk hy113
  clear hy113
  obtain ⟨y116, hy116⟩ : ∃ y_ : List Int, y_ = (([2] : List Int)) := ⟨_, rfl⟩
  replace H : ((order_Merge.f y110 y113 y116).bind fun t119 => ((orthoepylaw21_same.f t107 (([2, 1, 0] : List Int))).bind fun t125 => (if t125 = true then ((orthoepylaw21_same.f t119 (([0, 2, 1] : List Int))).bind fun t129 => (if t129 = true then ((order_Less.f (⟨#[240, 159, 152, 128]⟩ : ByteArray) (⟨#[239, 172, 179]⟩ : ByteArray)).bind fun t130 => (if t130 = true then ((order_Less.f (⟨#[239, 172, 179]⟩ : ByteArray) (⟨#[240, 159, 152, 128]⟩ : ByteArray)).bind fun t131 => (if t131 = true then (some false) else ((order_Less.f (⟨#[97]⟩ : ByteArray) (⟨#[97]⟩ : ByteArray)).bind fun t132 => (if t132 = true then (some false) else ((order_Less.f (⟨#[]⟩ : ByteArray) (⟨#[97]⟩ : ByteArray)).bind fun t133 => (some t133)))))) else (some false))) else (some false))) else (some false)))) = some r := by first | (rw [hy116]; with_reducible exact H) | (have H2_ := (Option.bind_some _ _).symm.trans H; rw [hy116]; with_reducible exact H2_) | (have H2_ := (Option.bind_some _ _).symm.trans H; with_reducible exact H2_) | with_reducible exact H | (rw [hy116]; exact H) | exact H
  have Ny116 := Aside0.mk hy116
  clear hy116
  replace H := Option.bind_eq_some_iff.mp H
  obtain ⟨t119, A20, H⟩ := H
  replace H : ((orthoepylaw21_same.f t107 (([2, 1, 0] : List Int))).bind fun t125 => (if t125 = true then ((orthoepylaw21_same.f t119 (([0, 2, 1] : List Int))).bind fun t129 => (if t129 = true then ((order_Less.f (⟨#[240, 159, 152, 128]⟩ : ByteArray) (⟨#[239, 172, 179]⟩ : ByteArray)).bind fun t130 => (if t130 = true then ((order_Less.f (⟨#[239, 172, 179]⟩ : ByteArray) (⟨#[240, 159, 152, 128]⟩ : ByteArray)).bind fun t131 => (if t131 = true then (some false) else ((order_Less.f (⟨#[97]⟩ : ByteArray) (⟨#[97]⟩ : ByteArray)).bind fun t132 => (if t132 = true then (some false) else ((order_Less.f (⟨#[]⟩ : ByteArray) (⟨#[97]⟩ : ByteArray)).bind fun t133 => (some t133)))))) else (some false))) else (some false))) else (some false))) = some r := H
  have A2 := Aside0.mk A20
  clear A20
  obtain ⟨y122, hy122⟩ : ∃ y_ : List Int, y_ = (([2, 1, 0] : List Int)) := ⟨_, rfl⟩
  replace H : ((orthoepylaw21_same.f t107 y122).bind fun t125 => (if t125 = true then ((orthoepylaw21_same.f t119 (([0, 2, 1] : List Int))).bind fun t129 => (if t129 = true then ((order_Less.f (⟨#[240, 159, 152, 128]⟩ : ByteArray) (⟨#[239, 172, 179]⟩ : ByteArray)).bind fun t130 => (if t130 = true then ((order_Less.f (⟨#[239, 172, 179]⟩ : ByteArray) (⟨#[240, 159, 152, 128]⟩ : ByteArray)).bind fun t131 => (if t131 = true then (some false) else ((order_Less.f (⟨#[97]⟩ : ByteArray) (⟨#[97]⟩ : ByteArray)).bind fun t132 => (if t132 = true then (some false) else ((order_Less.f (⟨#[]⟩ : ByteArray) (⟨#[97]⟩ : ByteArray)).bind fun t133 => (some t133)))))) else (some false))) else (some false))) else (some false))) = some r := by first | (rw [hy122]; with_reducible exact H) | (have H2_ := (Option.bind_some _ _).symm.trans H; rw [hy122]; with_reducible exact H2_) | (have H2_ := (Option.bind_some _ _).symm.trans H; with_reducible exact H2_) | with_reducible exact H | (rw [hy122]; exact H) | exact H
  have Ny122 := Aside0.mk hy122
  clear hy122
  replace H := Option.bind_eq_some_iff.mp H
  obtain ⟨t125, A30, H⟩ := H
  replace H : (if t125 = true then ((orthoepylaw21_same.f t119 (([0, 2, 1] : List Int))).bind fun t129 => (if t129 = true then ((order_Less.f (⟨#[240, 159, 152, 128]⟩ : ByteArray) (⟨#[239, 172, 179]⟩ : ByteArray)).bind fun t130 => (if t130 = true then ((order_Less.f (⟨#[239, 172, 179]⟩ : ByteArray) (⟨#[240, 159, 152, 128]⟩ : ByteArray)).bind fun t131 => (if t131 = true then (some false) else ((order_Less.f (⟨#[97]⟩ : ByteArray) (⟨#[97]⟩ : ByteArray)).bind fun t132 => (if t132 = true then (some false) else ((order_Less.f (⟨#[]⟩ : ByteArray) (⟨#[97]⟩ : ByteArray)).bind fun t133 => (some t133)))))) else (some false))) else (some false))) else (some false)) = some r := H
  have A3 := Aside0.mk A30
  clear A30
  by_cases c4 : t125 = true
  · subst c4
    have H1 : ((orthoepylaw21_same.f t119 (([0, 2, 1] : List Int))).bind fun t129 => (if t129 = true then ((order_Less.f (⟨#[240, 159, 152, 128]⟩ : ByteArray) (⟨#[239, 172, 179]⟩ : ByteArray)).bind fun t130 => (if t130 = true then ((order_Less.f (⟨#[239, 172, 179]⟩ : ByteArray) (⟨#[240, 159, 152, 128]⟩ : ByteArray)).bind fun t131 => (if t131 = true then (some false) else ((order_Less.f (⟨#[97]⟩ : ByteArray) (⟨#[97]⟩ : ByteArray)).bind fun t132 => (if t132 = true then (some false) else ((order_Less.f (⟨#[]⟩ : ByteArray) (⟨#[97]⟩ : ByteArray)).bind fun t133 => (some t133)))))) else (some false))) else (some false))) = some r := by rw [if_pos rfl] at H; exact H
    clear H
    have H := H1
    clear H1
    obtain ⟨y126, hy126⟩ : ∃ y_ : List Int, y_ = (([0, 2, 1] : List Int)) := ⟨_, rfl⟩
    replace H : ((orthoepylaw21_same.f t119 y126).bind fun t129 => (if t129 = true then ((order_Less.f (⟨#[240, 159, 152, 128]⟩ : ByteArray) (⟨#[239, 172, 179]⟩ : ByteArray)).bind fun t130 => (if t130 = true then ((order_Less.f (⟨#[239, 172, 179]⟩ : ByteArray) (⟨#[240, 159, 152, 128]⟩ : ByteArray)).bind fun t131 => (if t131 = true then (some false) else ((order_Less.f (⟨#[97]⟩ : ByteArray) (⟨#[97]⟩ : ByteArray)).bind fun t132 => (if t132 = true then (some false) else ((order_Less.f (⟨#[]⟩ : ByteArray) (⟨#[97]⟩ : ByteArray)).bind fun t133 => (some t133)))))) else (some false))) else (some false))) = some r := by first | (rw [hy126]; with_reducible exact H) | (have H2_ := (Option.bind_some _ _).symm.trans H; rw [hy126]; with_reducible exact H2_) | (have H2_ := (Option.bind_some _ _).symm.trans H; with_reducible exact H2_) | with_reducible exact H | (rw [hy126]; exact H) | exact H
    have Ny126 := Aside0.mk hy126
    clear hy126
    replace H := Option.bind_eq_some_iff.mp H
    obtain ⟨t129, A50, H⟩ := H
    replace H : (if t129 = true then ((order_Less.f (⟨#[240, 159, 152, 128]⟩ : ByteArray) (⟨#[239, 172, 179]⟩ : ByteArray)).bind fun t130 => (if t130 = true then ((order_Less.f (⟨#[239, 172, 179]⟩ : ByteArray) (⟨#[240, 159, 152, 128]⟩ : ByteArray)).bind fun t131 => (if t131 = true then (some false) else ((order_Less.f (⟨#[97]⟩ : ByteArray) (⟨#[97]⟩ : ByteArray)).bind fun t132 => (if t132 = true then (some false) else ((order_Less.f (⟨#[]⟩ : ByteArray) (⟨#[97]⟩ : ByteArray)).bind fun t133 => (some t133)))))) else (some false))) else (some false)) = some r := H
    have A5 := Aside0.mk A50
    clear A50
    by_cases c6 : t129 = true
    · subst c6
      have H1 : ((order_Less.f (⟨#[240, 159, 152, 128]⟩ : ByteArray) (⟨#[239, 172, 179]⟩ : ByteArray)).bind fun t130 => (if t130 = true then ((order_Less.f (⟨#[239, 172, 179]⟩ : ByteArray) (⟨#[240, 159, 152, 128]⟩ : ByteArray)).bind fun t131 => (if t131 = true then (some false) else ((order_Less.f (⟨#[97]⟩ : ByteArray) (⟨#[97]⟩ : ByteArray)).bind fun t132 => (if t132 = true then (some false) else ((order_Less.f (⟨#[]⟩ : ByteArray) (⟨#[97]⟩ : ByteArray)).bind fun t133 => (some t133)))))) else (some false))) = some r := by rw [if_pos rfl] at H; exact H
      clear H
      have H := H1
      clear H1
      replace H := Option.bind_eq_some_iff.mp H
      obtain ⟨t130, A70, H⟩ := H
      replace H : (if t130 = true then ((order_Less.f (⟨#[239, 172, 179]⟩ : ByteArray) (⟨#[240, 159, 152, 128]⟩ : ByteArray)).bind fun t131 => (if t131 = true then (some false) else ((order_Less.f (⟨#[97]⟩ : ByteArray) (⟨#[97]⟩ : ByteArray)).bind fun t132 => (if t132 = true then (some false) else ((order_Less.f (⟨#[]⟩ : ByteArray) (⟨#[97]⟩ : ByteArray)).bind fun t133 => (some t133)))))) else (some false)) = some r := H
      have A7 := Aside0.mk A70
      clear A70
      by_cases c8 : t130 = true
      · subst c8
        have H1 : ((order_Less.f (⟨#[239, 172, 179]⟩ : ByteArray) (⟨#[240, 159, 152, 128]⟩ : ByteArray)).bind fun t131 => (if t131 = true then (some false) else ((order_Less.f (⟨#[97]⟩ : ByteArray) (⟨#[97]⟩ : ByteArray)).bind fun t132 => (if t132 = true then (some false) else ((order_Less.f (⟨#[]⟩ : ByteArray) (⟨#[97]⟩ : ByteArray)).bind fun t133 => (some t133)))))) = some r := by rw [if_pos rfl] at H; exact H
        clear H
        have H := H1
        clear H1
        replace H := Option.bind_eq_some_iff.mp H
        obtain ⟨t131, A90, H⟩ := H
        replace H : (if t131 = true then (some false) else ((order_Less.f (⟨#[97]⟩ : ByteArray) (⟨#[97]⟩ : ByteArray)).bind fun t132 => (if t132 = true then (some false) else ((order_Less.f (⟨#[]⟩ : ByteArray) (⟨#[97]⟩ : ByteArray)).bind fun t133 => (some t133))))) = some r := H
        have A9 := Aside0.mk A90
        clear A90
        by_cases c10 : t131 = true
        · subst c10
          have H1 : (some false) = some r := by rw [if_pos rfl] at H; exact H
          clear H
          have H := H1
          clear H1
          obtain rfl := Option.some.inj H
          exact absurd hT_.out (by decide)
        · replace c10 := Bool.eq_false_iff.mpr c10
          subst c10
          have H1 : ((order_Less.f (⟨#[97]⟩ : ByteArray) (⟨#[97]⟩ : ByteArray)).bind fun t132 => (if t132 = true then (some false) else ((order_Less.f (⟨#[]⟩ : ByteArray) (⟨#[97]⟩ : ByteArray)).bind fun t133 => (some t133)))) = some r := by rw [if_neg (show ¬ (false = true) by decide)] at H; exact H
          clear H
          have H := H1
          clear H1
          replace H := Option.bind_eq_some_iff.mp H
          obtain ⟨t132, A110, H⟩ := H
          replace H : (if t132 = true then (some false) else ((order_Less.f (⟨#[]⟩ : ByteArray) (⟨#[97]⟩ : ByteArray)).bind fun t133 => (some t133))) = some r := H
          have A11 := Aside0.mk A110
          clear A110
          by_cases c12 : t132 = true
          · subst c12
            have H1 : (some false) = some r := by rw [if_pos rfl] at H; exact H
            clear H
            have H := H1
            clear H1
            obtain rfl := Option.some.inj H
            exact absurd hT_.out (by decide)
          · replace c12 := Bool.eq_false_iff.mpr c12
            subst c12
            have H1 : ((order_Less.f (⟨#[]⟩ : ByteArray) (⟨#[97]⟩ : ByteArray)).bind fun t133 => (some t133)) = some r := by rw [if_neg (show ¬ (false = true) by decide)] at H; exact H
            clear H
            have H := H1
            clear H1
            replace H := Option.bind_eq_some_iff.mp H
            obtain ⟨t133, A130, H⟩ := H
            replace H : (some t133) = some r := H
            have A13 := Aside0.mk A130
            clear A130
            obtain rfl := Option.some.inj H
            go_enter Try.func11, Try.ntmps11
            go_wp2_with (first | ((with_reducible refine gate_dst (N := 3) rfl ?_); (try (refine gate_guard (by rfl) ?_; dsimp only)); refine Kd.R_lit Kd.string _ 9 ?hg (N := 3) ?hd (xs := ([(⟨#[98]⟩ : ByteArray), (⟨#[97]⟩ : ByteArray), (⟨#[]⟩ : ByteArray)] : List ByteArray)) (inner := [.string (⟨#[98]⟩ : ByteArray), .string (⟨#[97]⟩ : ByteArray), .string (⟨#[]⟩ : ByteArray)]) (ok := fun _ => True) (okp := fun _ => True) ?hr ?hp (fun _ hk => hk) trivial (Below.refl _ _) (Nat.le_refl _) (by simp) ?_; (case hd => rfl); (case hg => rfl); (case hr => first | (go_simp; done) | (go_simp; rfl)); (case hp => exact (Reps.one (show Kd.M Kd.string _ _ _ (⟨#[98]⟩ : ByteArray) [.string (⟨#[98]⟩ : ByteArray)] from rfl) (Reps.one (show Kd.M Kd.string _ _ _ (⟨#[97]⟩ : ByteArray) [.string (⟨#[97]⟩ : ByteArray)] from rfl) (Reps.one (show Kd.M Kd.string _ _ _ (⟨#[]⟩ : ByteArray) [.string (⟨#[]⟩ : ByteArray)] from rfl) (Reps.none _ _))))); intro v105 w14 ho15 hb hg_ hnew_; clear hg_ hnew_; (first | rw [← Ny104.out] at ho15 | (simp only [Int.reduceToNat] at ho15; rw [← Ny104.out] at ho15)); have n0_ := Aside0.mk (Kd.R_lower ho15 (below_size (by repeat (first | (with_reducible first | exact HB.out | apply below_alloc | apply pw_below_drewN | apply below_drew1) | exact HB.out)))); have n1_ := Aside0.mk (below_step (by repeat (first | (with_reducible first | exact HB.out | apply below_alloc | apply pw_below_drewN | apply below_drew1) | exact HB.out)) hb); clear HB; have HO106 := n0_; have HB := n1_; clear n0_ n1_; clear hb ho15; obtain ⟨Ao16, co16, eo16⟩ := Kd.R_slice HO106.out; subst eo16) | ((with_reducible refine gate_callee (f := 15) rfl ?_); refine goesL_ (some 4) rfl rfl Try.func15 (by kernel_rfl) rfl #[.slice Ao16 y104.length co16] rfl (by (try simp only [List.map_toArray, List.map_cons, List.map_nil]); first | done | rfl | (simp only [List.length_drop, List.length_take]; rfl)) ?_; (with_reducible refine (order_Sort.calls _ _ y104 t107 _ ?side1 ?side2 A1.out).mono ?_); (case side1 => repeat (first | exact (Kd.R_reads' HO106.out).2.2 | (with_reducible refine Kd.C_alloc ?_ _) | (with_reducible refine Kd.C_drewN ?_ _) | (with_reducible refine Kd.C_drew ?_))); (case side2 => exact (Kd.R_reads' HO106.out).2.1); rintro e w17 ⟨v108, rfl, ho0, hb⟩; refine ⟨_, rfl, ?_⟩; have n0_ := Aside0.mk (Kd.R_below (by (with_reducible repeat (first | apply Kd.R_alloc | apply Kd.R_drewN | apply Kd.R_drew)); exact HO106.out) hb); have n1_ := Aside0.mk (Kd.R_lower ho0 (below_size (by repeat (first | (with_reducible first | exact HB.out | apply below_alloc | apply pw_below_drewN | apply below_drew1) | exact HB.out)))); have n2_ := Aside0.mk (below_step (by repeat (first | (with_reducible first | exact HB.out | apply below_alloc | apply pw_below_drewN | apply below_drew1) | exact HB.out)) hb); clear HO106; clear HB; have HO106 := n0_; have HO109 := n1_; have HB := n2_; clear n0_ n1_ n2_; (try clear hb); (try clear hb2); (try clear hk); (try clear hi); (try clear ho0)) | ((with_reducible refine gate_dst (N := 5) rfl ?_); (try (refine gate_guard (by rfl) ?_; dsimp only)); refine Kd.R_lit Kd.string _ 9 ?hg (N := 5) ?hd (xs := ([(⟨#[97]⟩ : ByteArray), (⟨#[98]⟩ : ByteArray), (⟨#[97]⟩ : ByteArray)] : List ByteArray)) (inner := [.string (⟨#[97]⟩ : ByteArray), .string (⟨#[98]⟩ : ByteArray), .string (⟨#[97]⟩ : ByteArray)]) (ok := fun _ => True) (okp := fun _ => True) ?hr ?hp (fun _ hk => hk) trivial (Below.refl _ _) (Nat.le_refl _) (by simp) ?_; (case hd => rfl); (case hg => rfl); (case hr => first | (go_simp; done) | (go_simp; rfl)); (case hp => exact (Reps.one (show Kd.M Kd.string _ _ _ (⟨#[97]⟩ : ByteArray) [.string (⟨#[97]⟩ : ByteArray)] from rfl) (Reps.one (show Kd.M Kd.string _ _ _ (⟨#[98]⟩ : ByteArray) [.string (⟨#[98]⟩ : ByteArray)] from rfl) (Reps.one (show Kd.M Kd.string _ _ _ (⟨#[97]⟩ : ByteArray) [.string (⟨#[97]⟩ : ByteArray)] from rfl) (Reps.none _ _))))); intro v111 w18 ho19 hb hg_ hnew_; clear hg_ hnew_; (first | rw [← Ny110.out] at ho19 | (simp only [Int.reduceToNat] at ho19; rw [← Ny110.out] at ho19)); have n0_ := Aside0.mk (Kd.R_elder' (by (with_reducible repeat (first | apply Kd.R_alloc | apply Kd.R_drewN | apply Kd.R_drew)); exact HO106.out) (Kd.R_base ho19) hb); have n1_ := Aside0.mk (Kd.R_below (by (with_reducible repeat (first | apply Kd.R_alloc | apply Kd.R_drewN | apply Kd.R_drew)); exact HO109.out) hb); have n2_ := Aside0.mk (Kd.R_lower (Kd.R_new' ho19 (Kd.R_lt (by (with_reducible repeat (first | apply Kd.R_alloc | apply Kd.R_drewN | apply Kd.R_drew)); exact HO106.out))) (below_size (by repeat (first | (with_reducible first | exact HB.out | apply below_alloc | apply pw_below_drewN | apply below_drew1) | exact HB.out)))); have n3_ := Aside0.mk (below_step (by repeat (first | (with_reducible first | exact HB.out | apply below_alloc | apply pw_below_drewN | apply below_drew1) | exact HB.out)) hb); clear HO106; clear HO109; clear HB; have HO106 := n0_; have HO109 := n1_; have HO112 := n2_; have HB := n3_; clear n0_ n1_ n2_ n3_; clear hb ho19) | ((with_reducible refine gate_dst (N := 6) rfl ?_); (try (refine gate_guard (by rfl) ?_; dsimp only)); refine Kd.R_lit (Kd.int .i64) _ 3 ?hg (N := 6) ?hd (xs := ([0, 1] : List Int)) (inner := [.int .i64 0, .int .i64 1]) (ok := fun _ => True) (okp := fun _ => True) ?hr ?hp (fun _ hk => hk) trivial (Below.refl _ _) (Nat.le_refl _) (by simp) ?_; (case hd => rfl); (case hg => rfl); (case hr => first | (go_simp; done) | (go_simp; rfl)); (case hp => exact (Reps.one (show Kd.M (Kd.int .i64) _ _ _ 0 [.int .i64 0] from rfl) (Reps.one (show Kd.M (Kd.int .i64) _ _ _ 1 [.int .i64 1] from rfl) (Reps.none _ _)))); intro v114 w20 ho21 hb hg_ hnew_; clear hg_ hnew_; (first | rw [← Ny113.out] at ho21 | (simp only [Int.reduceToNat] at ho21; rw [← Ny113.out] at ho21)); have n0_ := Aside0.mk (Kd.R_below (by (with_reducible repeat (first | apply Kd.R_alloc | apply Kd.R_drewN | apply Kd.R_drew)); exact HO106.out) hb); have n1_ := Aside0.mk (Kd.R_elder' (by (with_reducible repeat (first | apply Kd.R_alloc | apply Kd.R_drewN | apply Kd.R_drew)); exact HO109.out) (Kd.R_base ho21) hb); have n2_ := Aside0.mk (Kd.R_below (by (with_reducible repeat (first | apply Kd.R_alloc | apply Kd.R_drewN | apply Kd.R_drew)); exact HO112.out) hb); have n3_ := Aside0.mk (Kd.R_lower (Kd.R_new' ho21 (Kd.R_lt (by (with_reducible repeat (first | apply Kd.R_alloc | apply Kd.R_drewN | apply Kd.R_drew)); exact HO109.out))) (below_size (by repeat (first | (with_reducible first | exact HB.out | apply below_alloc | apply pw_below_drewN | apply below_drew1) | exact HB.out)))); have n4_ := Aside0.mk (below_step (by repeat (first | (with_reducible first | exact HB.out | apply below_alloc | apply pw_below_drewN | apply below_drew1) | exact HB.out)) hb); clear HO106; clear HO109; clear HO112; clear HB; have HO106 := n0_; have HO109 := n1_; have HO112 := n2_; have HO115 := n3_; have HB := n4_; clear n0_ n1_ n2_ n3_ n4_; clear hb ho21) | ((with_reducible refine gate_dst (N := 7) rfl ?_); (try (refine gate_guard (by rfl) ?_; dsimp only)); refine Kd.R_lit (Kd.int .i64) _ 3 ?hg (N := 7) ?hd (xs := ([2] : List Int)) (inner := [.int .i64 2]) (ok := fun _ => True) (okp := fun _ => True) ?hr ?hp (fun _ hk => hk) trivial (Below.refl _ _) (Nat.le_refl _) (by simp) ?_; (case hd => rfl); (case hg => rfl); (case hr => first | (go_simp; done) | (go_simp; rfl)); (case hp => exact (Reps.one (show Kd.M (Kd.int .i64) _ _ _ 2 [.int .i64 2] from rfl) (Reps.none _ _))); intro v117 w22 ho23 hb hg_ hnew_; clear hg_ hnew_; (first | rw [← Ny116.out] at ho23 | (simp only [Int.reduceToNat] at ho23; rw [← Ny116.out] at ho23)); have n0_ := Aside0.mk (Kd.R_below (by (with_reducible repeat (first | apply Kd.R_alloc | apply Kd.R_drewN | apply Kd.R_drew)); exact HO106.out) hb); have n1_ := Aside0.mk (Kd.R_elder' (by (with_reducible repeat (first | apply Kd.R_alloc | apply Kd.R_drewN | apply Kd.R_drew)); exact HO109.out) (Kd.R_base ho23) hb); have n2_ := Aside0.mk (Kd.R_below (by (with_reducible repeat (first | apply Kd.R_alloc | apply Kd.R_drewN | apply Kd.R_drew)); exact HO112.out) hb); have n3_ := Aside0.mk (Kd.R_elder' (by (with_reducible repeat (first | apply Kd.R_alloc | apply Kd.R_drewN | apply Kd.R_drew)); exact HO115.out) (Kd.R_base ho23) hb); have n4_ := Aside0.mk (Kd.R_lower (Kd.R_new' (Kd.R_new' ho23 (Kd.R_lt (by (with_reducible repeat (first | apply Kd.R_alloc | apply Kd.R_drewN | apply Kd.R_drew)); exact HO109.out))) (Kd.R_lt (by (with_reducible repeat (first | apply Kd.R_alloc | apply Kd.R_drewN | apply Kd.R_drew)); exact HO115.out))) (below_size (by repeat (first | (with_reducible first | exact HB.out | apply below_alloc | apply pw_below_drewN | apply below_drew1) | exact HB.out)))); have n5_ := Aside0.mk (below_step (by repeat (first | (with_reducible first | exact HB.out | apply below_alloc | apply pw_below_drewN | apply below_drew1) | exact HB.out)) hb); clear HO106; clear HO109; clear HO112; clear HO115; clear HB; have HO106 := n0_; have HO109 := n1_; have HO112 := n2_; have HO115 := n3_; have HO118 := n4_; have HB := n5_; clear n0_ n1_ n2_ n3_ n4_ n5_; clear hb ho23; obtain ⟨Ao24, co24, eo24⟩ := Kd.R_slice HO112.out; subst eo24; obtain ⟨Ao25, co25, eo25⟩ := Kd.R_slice HO115.out; subst eo25; obtain ⟨Ao26, co26, eo26⟩ := Kd.R_slice HO118.out; subst eo26) | ((with_reducible refine gate_callee (f := 18) rfl ?_); refine goesL_ (some 8) rfl rfl Try.func18 (by kernel_rfl) rfl #[.slice Ao24 y110.length co24, .slice Ao25 y113.length co25, .slice Ao26 y116.length co26] rfl (by (try simp only [List.map_toArray, List.map_cons, List.map_nil]); first | done | rfl | (simp only [List.length_drop, List.length_take]; rfl)) ?_; (with_reducible refine (order_Merge.calls _ _ y110 _ _ y113 _ _ y116 t119 _ ?side1 ?side2 ?side3 ?side4 ?side5 ?side6 A2.out).mono ?_); (case side1 => repeat (first | exact (Kd.R_reads' HO112.out).2.2 | (with_reducible refine Kd.C_alloc ?_ _) | (with_reducible refine Kd.C_drewN ?_ _) | (with_reducible refine Kd.C_drew ?_))); (case side2 => exact (Kd.R_reads' HO112.out).2.1); (case side3 => repeat (first | exact (Kd.R_reads' HO115.out).2.2 | (with_reducible refine Kd.C_alloc ?_ _) | (with_reducible refine Kd.C_drewN ?_ _) | (with_reducible refine Kd.C_drew ?_))); (case side4 => exact (Kd.R_reads' HO115.out).2.1); (case side5 => repeat (first | exact (Kd.R_reads' HO118.out).2.2 | (with_reducible refine Kd.C_alloc ?_ _) | (with_reducible refine Kd.C_drewN ?_ _) | (with_reducible refine Kd.C_drew ?_))); (case side6 => exact (Kd.R_reads' HO118.out).2.1); rintro e w27 ⟨v120, rfl, ho0, hb⟩; refine ⟨_, rfl, ?_⟩; have n0_ := Aside0.mk (Kd.R_below (by (with_reducible repeat (first | apply Kd.R_alloc | apply Kd.R_drewN | apply Kd.R_drew)); exact HO106.out) hb); have n1_ := Aside0.mk (Kd.R_elder' (by (with_reducible repeat (first | apply Kd.R_alloc | apply Kd.R_drewN | apply Kd.R_drew)); exact HO109.out) (Kd.R_base ho0) hb); have n2_ := Aside0.mk (Kd.R_below (by (with_reducible repeat (first | apply Kd.R_alloc | apply Kd.R_drewN | apply Kd.R_drew)); exact HO112.out) hb); have n3_ := Aside0.mk (Kd.R_elder' (by (with_reducible repeat (first | apply Kd.R_alloc | apply Kd.R_drewN | apply Kd.R_drew)); exact HO115.out) (Kd.R_base ho0) hb); have n4_ := Aside0.mk (Kd.R_elder' (by (with_reducible repeat (first | apply Kd.R_alloc | apply Kd.R_drewN | apply Kd.R_drew)); exact HO118.out) (Kd.R_base ho0) hb); have n5_ := Aside0.mk (Kd.R_lower (Kd.R_new' (Kd.R_new' (Kd.R_new' ho0 (Kd.R_lt (by (with_reducible repeat (first | apply Kd.R_alloc | apply Kd.R_drewN | apply Kd.R_drew)); exact HO109.out))) (Kd.R_lt (by (with_reducible repeat (first | apply Kd.R_alloc | apply Kd.R_drewN | apply Kd.R_drew)); exact HO115.out))) (Kd.R_lt (by (with_reducible repeat (first | apply Kd.R_alloc | apply Kd.R_drewN | apply Kd.R_drew)); exact HO118.out))) (below_size (by repeat (first | (with_reducible first | exact HB.out | apply below_alloc | apply pw_below_drewN | apply below_drew1) | exact HB.out)))); have n6_ := Aside0.mk (below_step (by repeat (first | (with_reducible first | exact HB.out | apply below_alloc | apply pw_below_drewN | apply below_drew1) | exact HB.out)) hb); clear HO106; clear HO109; clear HO112; clear HO115; clear HO118; clear HB; have HO106 := n0_; have HO109 := n1_; have HO112 := n2_; have HO115 := n3_; have HO118 := n4_; have HO121 := n5_; have HB := n6_; clear n0_ n1_ n2_ n3_ n4_ n5_ n6_; (try clear hb); (try clear hb2); (try clear hk); (try clear hi); (try clear ho0)) | ((with_reducible refine gate_dst (N := 10) rfl ?_); (try (refine gate_guard (by rfl) ?_; dsimp only)); refine Kd.R_lit (Kd.int .i64) _ 3 ?hg (N := 10) ?hd (xs := ([2, 1, 0] : List Int)) (inner := [.int .i64 2, .int .i64 1, .int .i64 0]) (ok := fun _ => True) (okp := fun _ => True) ?hr ?hp (fun _ hk => hk) trivial (Below.refl _ _) (Nat.le_refl _) (by simp) ?_; (case hd => rfl); (case hg => rfl); (case hr => first | (go_simp; done) | (go_simp; rfl)); (case hp => exact (Reps.one (show Kd.M (Kd.int .i64) _ _ _ 2 [.int .i64 2] from rfl) (Reps.one (show Kd.M (Kd.int .i64) _ _ _ 1 [.int .i64 1] from rfl) (Reps.one (show Kd.M (Kd.int .i64) _ _ _ 0 [.int .i64 0] from rfl) (Reps.none _ _))))); intro v123 w28 ho29 hb hg_ hnew_; clear hg_ hnew_; (first | rw [← Ny122.out] at ho29 | (simp only [Int.reduceToNat] at ho29; rw [← Ny122.out] at ho29)); have n0_ := Aside0.mk (Kd.R_below (by (with_reducible repeat (first | apply Kd.R_alloc | apply Kd.R_drewN | apply Kd.R_drew)); exact HO106.out) hb); have n1_ := Aside0.mk (Kd.R_elder' (by (with_reducible repeat (first | apply Kd.R_alloc | apply Kd.R_drewN | apply Kd.R_drew)); exact HO109.out) (Kd.R_base ho29) hb); have n2_ := Aside0.mk (Kd.R_below (by (with_reducible repeat (first | apply Kd.R_alloc | apply Kd.R_drewN | apply Kd.R_drew)); exact HO112.out) hb); have n3_ := Aside0.mk (Kd.R_elder' (by (with_reducible repeat (first | apply Kd.R_alloc | apply Kd.R_drewN | apply Kd.R_drew)); exact HO115.out) (Kd.R_base ho29) hb); have n4_ := Aside0.mk (Kd.R_elder' (by (with_reducible repeat (first | apply Kd.R_alloc | apply Kd.R_drewN | apply Kd.R_drew)); exact HO118.out) (Kd.R_base ho29) hb); have n5_ := Aside0.mk (Kd.R_elder' (by (with_reducible repeat (first | apply Kd.R_alloc | apply Kd.R_drewN | apply Kd.R_drew)); exact HO121.out) (Kd.R_base ho29) hb); have n6_ := Aside0.mk (Kd.R_lower (Kd.R_new' (Kd.R_new' (Kd.R_new' (Kd.R_new' ho29 (Kd.R_lt (by (with_reducible repeat (first | apply Kd.R_alloc | apply Kd.R_drewN | apply Kd.R_drew)); exact HO109.out))) (Kd.R_lt (by (with_reducible repeat (first | apply Kd.R_alloc | apply Kd.R_drewN | apply Kd.R_drew)); exact HO115.out))) (Kd.R_lt (by (with_reducible repeat (first | apply Kd.R_alloc | apply Kd.R_drewN | apply Kd.R_drew)); exact HO118.out))) (Kd.R_lt (by (with_reducible repeat (first | apply Kd.R_alloc | apply Kd.R_drewN | apply Kd.R_drew)); exact HO121.out))) (below_size (by repeat (first | (with_reducible first | exact HB.out | apply below_alloc | apply pw_below_drewN | apply below_drew1) | exact HB.out)))); have n7_ := Aside0.mk (below_step (by repeat (first | (with_reducible first | exact HB.out | apply below_alloc | apply pw_below_drewN | apply below_drew1) | exact HB.out)) hb); clear HO106; clear HO109; clear HO112; clear HO115; clear HO118; clear HO121; clear HB; have HO106 := n0_; have HO109 := n1_; have HO112 := n2_; have HO115 := n3_; have HO118 := n4_; have HO121 := n5_; have HO124 := n6_; have HB := n7_; clear n0_ n1_ n2_ n3_ n4_ n5_ n6_ n7_; clear hb ho29; obtain ⟨Ao30, co30, eo30⟩ := Kd.R_slice HO109.out; subst eo30; obtain ⟨Ao31, co31, eo31⟩ := Kd.R_slice HO124.out; subst eo31) | ((with_reducible refine gate_callee (f := 14) rfl ?_); refine goesL_ (some 11) rfl rfl Try.func14 (by kernel_rfl) rfl #[.slice Ao30 t107.length co30, .slice Ao31 y122.length co31] rfl (by (try simp only [List.map_toArray, List.map_cons, List.map_nil]); first | done | rfl | (simp only [List.length_drop, List.length_take]; rfl)) ?_; (with_reducible refine (orthoepylaw21_same.calls _ _ t107 _ _ y122 true _ ?side1 ?side2 ?side3 ?side4 A3.out).mono ?_); (case side1 => repeat (first | exact (Kd.R_reads' HO109.out).2.2 | (with_reducible refine Kd.C_alloc ?_ _) | (with_reducible refine Kd.C_drewN ?_ _) | (with_reducible refine Kd.C_drew ?_))); (case side2 => exact (Kd.R_reads' HO109.out).2.1); (case side3 => repeat (first | exact (Kd.R_reads' HO124.out).2.2 | (with_reducible refine Kd.C_alloc ?_ _) | (with_reducible refine Kd.C_drewN ?_ _) | (with_reducible refine Kd.C_drew ?_))); (case side4 => exact (Kd.R_reads' HO124.out).2.1); rintro e w' ⟨rfl, ⟨nd, rfl⟩⟩; refine ⟨_, rfl, ?_⟩) | ((with_reducible refine gate_dst (N := 14) rfl ?_); (try (refine gate_guard (by rfl) ?_; dsimp only)); refine Kd.R_lit (Kd.int .i64) _ 3 ?hg (N := 14) ?hd (xs := ([0, 2, 1] : List Int)) (inner := [.int .i64 0, .int .i64 2, .int .i64 1]) (ok := fun _ => True) (okp := fun _ => True) ?hr ?hp (fun _ hk => hk) trivial (Below.refl _ _) (Nat.le_refl _) (by simp) ?_; (case hd => rfl); (case hg => rfl); (case hr => first | (go_simp; done) | (go_simp; rfl)); (case hp => exact (Reps.one (show Kd.M (Kd.int .i64) _ _ _ 0 [.int .i64 0] from rfl) (Reps.one (show Kd.M (Kd.int .i64) _ _ _ 2 [.int .i64 2] from rfl) (Reps.one (show Kd.M (Kd.int .i64) _ _ _ 1 [.int .i64 1] from rfl) (Reps.none _ _))))); intro v127 w32 ho33 hb hg_ hnew_; clear hg_ hnew_; (first | rw [← Ny126.out] at ho33 | (simp only [Int.reduceToNat] at ho33; rw [← Ny126.out] at ho33)); have n0_ := Aside0.mk (Kd.R_below (by (with_reducible repeat (first | apply Kd.R_alloc | apply Kd.R_drewN | apply Kd.R_drew)); exact HO106.out) hb); have n1_ := Aside0.mk (Kd.R_elder' (by (with_reducible repeat (first | apply Kd.R_alloc | apply Kd.R_drewN | apply Kd.R_drew)); exact HO109.out) (Kd.R_base ho33) hb); have n2_ := Aside0.mk (Kd.R_below (by (with_reducible repeat (first | apply Kd.R_alloc | apply Kd.R_drewN | apply Kd.R_drew)); exact HO112.out) hb); have n3_ := Aside0.mk (Kd.R_elder' (by (with_reducible repeat (first | apply Kd.R_alloc | apply Kd.R_drewN | apply Kd.R_drew)); exact HO115.out) (Kd.R_base ho33) hb); have n4_ := Aside0.mk (Kd.R_elder' (by (with_reducible repeat (first | apply Kd.R_alloc | apply Kd.R_drewN | apply Kd.R_drew)); exact HO118.out) (Kd.R_base ho33) hb); have n5_ := Aside0.mk (Kd.R_elder' (by (with_reducible repeat (first | apply Kd.R_alloc | apply Kd.R_drewN | apply Kd.R_drew)); exact HO121.out) (Kd.R_base ho33) hb); have n6_ := Aside0.mk (Kd.R_elder' (by (with_reducible repeat (first | apply Kd.R_alloc | apply Kd.R_drewN | apply Kd.R_drew)); exact HO124.out) (Kd.R_base ho33) hb); have n7_ := Aside0.mk (Kd.R_lower (Kd.R_new' (Kd.R_new' (Kd.R_new' (Kd.R_new' (Kd.R_new' ho33 (Kd.R_lt (by (with_reducible repeat (first | apply Kd.R_alloc | apply Kd.R_drewN | apply Kd.R_drew)); exact HO109.out))) (Kd.R_lt (by (with_reducible repeat (first | apply Kd.R_alloc | apply Kd.R_drewN | apply Kd.R_drew)); exact HO115.out))) (Kd.R_lt (by (with_reducible repeat (first | apply Kd.R_alloc | apply Kd.R_drewN | apply Kd.R_drew)); exact HO118.out))) (Kd.R_lt (by (with_reducible repeat (first | apply Kd.R_alloc | apply Kd.R_drewN | apply Kd.R_drew)); exact HO121.out))) (Kd.R_lt (by (with_reducible repeat (first | apply Kd.R_alloc | apply Kd.R_drewN | apply Kd.R_drew)); exact HO124.out))) (below_size (by repeat (first | (with_reducible first | exact HB.out | apply below_alloc | apply pw_below_drewN | apply below_drew1) | exact HB.out)))); have n8_ := Aside0.mk (below_step (by repeat (first | (with_reducible first | exact HB.out | apply below_alloc | apply pw_below_drewN | apply below_drew1) | exact HB.out)) hb); clear HO106; clear HO109; clear HO112; clear HO115; clear HO118; clear HO121; clear HO124; clear HB; have HO106 := n0_; have HO109 := n1_; have HO112 := n2_; have HO115 := n3_; have HO118 := n4_; have HO121 := n5_; have HO124 := n6_; have HO128 := n7_; have HB := n8_; clear n0_ n1_ n2_ n3_ n4_ n5_ n6_ n7_ n8_; clear hb ho33; obtain ⟨Ao34, co34, eo34⟩ := Kd.R_slice HO121.out; subst eo34; obtain ⟨Ao35, co35, eo35⟩ := Kd.R_slice HO128.out; subst eo35) | (go_at_call 14; (with_reducible refine (orthoepylaw21_same.calls _ _ t119 _ _ y126 true _ ?side1 ?side2 ?side3 ?side4 A5.out).mono ?_); (case side1 => repeat (first | exact (Kd.R_reads' HO121.out).2.2 | (with_reducible refine Kd.C_alloc ?_ _) | (with_reducible refine Kd.C_drewN ?_ _) | (with_reducible refine Kd.C_drew ?_))); (case side2 => exact (Kd.R_reads' HO121.out).2.1); (case side3 => repeat (first | exact (Kd.R_reads' HO128.out).2.2 | (with_reducible refine Kd.C_alloc ?_ _) | (with_reducible refine Kd.C_drewN ?_ _) | (with_reducible refine Kd.C_drew ?_))); (case side4 => exact (Kd.R_reads' HO128.out).2.1); rintro e w' ⟨rfl, ⟨nd, rfl⟩⟩) | (go_at_call 12; (with_reducible refine (order_Less.calls (⟨#[240, 159, 152, 128]⟩ : ByteArray) (⟨#[239, 172, 179]⟩ : ByteArray) true _ A7.out).mono ?_); rintro e w36 ⟨rfl, hb⟩; have n0_ := Aside0.mk (Kd.R_below (by (with_reducible repeat (first | apply Kd.R_alloc | apply Kd.R_drewN | apply Kd.R_drew)); exact HO106.out) hb); have n1_ := Aside0.mk (Kd.R_below (by (with_reducible repeat (first | apply Kd.R_alloc | apply Kd.R_drewN | apply Kd.R_drew)); exact HO109.out) hb); have n2_ := Aside0.mk (Kd.R_below (by (with_reducible repeat (first | apply Kd.R_alloc | apply Kd.R_drewN | apply Kd.R_drew)); exact HO112.out) hb); have n3_ := Aside0.mk (Kd.R_below (by (with_reducible repeat (first | apply Kd.R_alloc | apply Kd.R_drewN | apply Kd.R_drew)); exact HO115.out) hb); have n4_ := Aside0.mk (Kd.R_below (by (with_reducible repeat (first | apply Kd.R_alloc | apply Kd.R_drewN | apply Kd.R_drew)); exact HO118.out) hb); have n5_ := Aside0.mk (Kd.R_below (by (with_reducible repeat (first | apply Kd.R_alloc | apply Kd.R_drewN | apply Kd.R_drew)); exact HO121.out) hb); have n6_ := Aside0.mk (Kd.R_below (by (with_reducible repeat (first | apply Kd.R_alloc | apply Kd.R_drewN | apply Kd.R_drew)); exact HO124.out) hb); have n7_ := Aside0.mk (Kd.R_below (by (with_reducible repeat (first | apply Kd.R_alloc | apply Kd.R_drewN | apply Kd.R_drew)); exact HO128.out) hb); have n8_ := Aside0.mk (below_step (by repeat (first | (with_reducible first | exact HB.out | apply below_alloc | apply pw_below_drewN | apply below_drew1) | exact HB.out)) hb); clear HO106; clear HO109; clear HO112; clear HO115; clear HO118; clear HO121; clear HO124; clear HO128; clear HB; have HO106 := n0_; have HO109 := n1_; have HO112 := n2_; have HO115 := n3_; have HO118 := n4_; have HO121 := n5_; have HO124 := n6_; have HO128 := n7_; have HB := n8_; clear n0_ n1_ n2_ n3_ n4_ n5_ n6_ n7_ n8_; (try clear hb); (try clear hb2); (try clear hk); (try clear hi)) | (go_at_call 12; (with_reducible refine (order_Less.calls (⟨#[239, 172, 179]⟩ : ByteArray) (⟨#[240, 159, 152, 128]⟩ : ByteArray) false _ A9.out).mono ?_); rintro e w37 ⟨rfl, hb⟩; have n0_ := Aside0.mk (Kd.R_below (by (with_reducible repeat (first | apply Kd.R_alloc | apply Kd.R_drewN | apply Kd.R_drew)); exact HO106.out) hb); have n1_ := Aside0.mk (Kd.R_below (by (with_reducible repeat (first | apply Kd.R_alloc | apply Kd.R_drewN | apply Kd.R_drew)); exact HO109.out) hb); have n2_ := Aside0.mk (Kd.R_below (by (with_reducible repeat (first | apply Kd.R_alloc | apply Kd.R_drewN | apply Kd.R_drew)); exact HO112.out) hb); have n3_ := Aside0.mk (Kd.R_below (by (with_reducible repeat (first | apply Kd.R_alloc | apply Kd.R_drewN | apply Kd.R_drew)); exact HO115.out) hb); have n4_ := Aside0.mk (Kd.R_below (by (with_reducible repeat (first | apply Kd.R_alloc | apply Kd.R_drewN | apply Kd.R_drew)); exact HO118.out) hb); have n5_ := Aside0.mk (Kd.R_below (by (with_reducible repeat (first | apply Kd.R_alloc | apply Kd.R_drewN | apply Kd.R_drew)); exact HO121.out) hb); have n6_ := Aside0.mk (Kd.R_below (by (with_reducible repeat (first | apply Kd.R_alloc | apply Kd.R_drewN | apply Kd.R_drew)); exact HO124.out) hb); have n7_ := Aside0.mk (Kd.R_below (by (with_reducible repeat (first | apply Kd.R_alloc | apply Kd.R_drewN | apply Kd.R_drew)); exact HO128.out) hb); have n8_ := Aside0.mk (below_step (by repeat (first | (with_reducible first | exact HB.out | apply below_alloc | apply pw_below_drewN | apply below_drew1) | exact HB.out)) hb); clear HO106; clear HO109; clear HO112; clear HO115; clear HO118; clear HO121; clear HO124; clear HO128; clear HB; have HO106 := n0_; have HO109 := n1_; have HO112 := n2_; have HO115 := n3_; have HO118 := n4_; have HO121 := n5_; have HO124 := n6_; have HO128 := n7_; have HB := n8_; clear n0_ n1_ n2_ n3_ n4_ n5_ n6_ n7_ n8_; (try clear hb); (try clear hb2); (try clear hk); (try clear hi)) | (go_at_call 12; (with_reducible refine (order_Less.calls (⟨#[97]⟩ : ByteArray) (⟨#[97]⟩ : ByteArray) false _ A11.out).mono ?_); rintro e w38 ⟨rfl, hb⟩; have n0_ := Aside0.mk (Kd.R_below (by (with_reducible repeat (first | apply Kd.R_alloc | apply Kd.R_drewN | apply Kd.R_drew)); exact HO106.out) hb); have n1_ := Aside0.mk (Kd.R_below (by (with_reducible repeat (first | apply Kd.R_alloc | apply Kd.R_drewN | apply Kd.R_drew)); exact HO109.out) hb); have n2_ := Aside0.mk (Kd.R_below (by (with_reducible repeat (first | apply Kd.R_alloc | apply Kd.R_drewN | apply Kd.R_drew)); exact HO112.out) hb); have n3_ := Aside0.mk (Kd.R_below (by (with_reducible repeat (first | apply Kd.R_alloc | apply Kd.R_drewN | apply Kd.R_drew)); exact HO115.out) hb); have n4_ := Aside0.mk (Kd.R_below (by (with_reducible repeat (first | apply Kd.R_alloc | apply Kd.R_drewN | apply Kd.R_drew)); exact HO118.out) hb); have n5_ := Aside0.mk (Kd.R_below (by (with_reducible repeat (first | apply Kd.R_alloc | apply Kd.R_drewN | apply Kd.R_drew)); exact HO121.out) hb); have n6_ := Aside0.mk (Kd.R_below (by (with_reducible repeat (first | apply Kd.R_alloc | apply Kd.R_drewN | apply Kd.R_drew)); exact HO124.out) hb); have n7_ := Aside0.mk (Kd.R_below (by (with_reducible repeat (first | apply Kd.R_alloc | apply Kd.R_drewN | apply Kd.R_drew)); exact HO128.out) hb); have n8_ := Aside0.mk (below_step (by repeat (first | (with_reducible first | exact HB.out | apply below_alloc | apply pw_below_drewN | apply below_drew1) | exact HB.out)) hb); clear HO106; clear HO109; clear HO112; clear HO115; clear HO118; clear HO121; clear HO124; clear HO128; clear HB; have HO106 := n0_; have HO109 := n1_; have HO112 := n2_; have HO115 := n3_; have HO118 := n4_; have HO121 := n5_; have HO124 := n6_; have HO128 := n7_; have HB := n8_; clear n0_ n1_ n2_ n3_ n4_ n5_ n6_ n7_ n8_; (try clear hb); (try clear hb2); (try clear hk); (try clear hi)) | (go_at_call 12; (with_reducible refine (order_Less.calls (⟨#[]⟩ : ByteArray) (⟨#[97]⟩ : ByteArray) t133 _ A13.out).mono ?_); rintro e w39 ⟨rfl, hb⟩; have n0_ := Aside0.mk (Kd.R_below (by (with_reducible repeat (first | apply Kd.R_alloc | apply Kd.R_drewN | apply Kd.R_drew)); exact HO106.out) hb); have n1_ := Aside0.mk (Kd.R_below (by (with_reducible repeat (first | apply Kd.R_alloc | apply Kd.R_drewN | apply Kd.R_drew)); exact HO109.out) hb); have n2_ := Aside0.mk (Kd.R_below (by (with_reducible repeat (first | apply Kd.R_alloc | apply Kd.R_drewN | apply Kd.R_drew)); exact HO112.out) hb); have n3_ := Aside0.mk (Kd.R_below (by (with_reducible repeat (first | apply Kd.R_alloc | apply Kd.R_drewN | apply Kd.R_drew)); exact HO115.out) hb); have n4_ := Aside0.mk (Kd.R_below (by (with_reducible repeat (first | apply Kd.R_alloc | apply Kd.R_drewN | apply Kd.R_drew)); exact HO118.out) hb); have n5_ := Aside0.mk (Kd.R_below (by (with_reducible repeat (first | apply Kd.R_alloc | apply Kd.R_drewN | apply Kd.R_drew)); exact HO121.out) hb); have n6_ := Aside0.mk (Kd.R_below (by (with_reducible repeat (first | apply Kd.R_alloc | apply Kd.R_drewN | apply Kd.R_drew)); exact HO124.out) hb); have n7_ := Aside0.mk (Kd.R_below (by (with_reducible repeat (first | apply Kd.R_alloc | apply Kd.R_drewN | apply Kd.R_drew)); exact HO128.out) hb); have n8_ := Aside0.mk (below_step (by repeat (first | (with_reducible first | exact HB.out | apply below_alloc | apply pw_below_drewN | apply below_drew1) | exact HB.out)) hb); clear HO106; clear HO109; clear HO112; clear HO115; clear HO118; clear HO121; clear HO124; clear HO128; clear HB; have HO106 := n0_; have HO109 := n1_; have HO112 := n2_; have HO115 := n3_; have HO118 := n4_; have HO121 := n5_; have HO124 := n6_; have HO128 := n7_; have HB := n8_; clear n0_ n1_ n2_ n3_ n4_ n5_ n6_ n7_ n8_; (try clear hb); (try clear hb2); (try clear hk); (try clear hi)))
            go_ret
            exact ⟨by first | rfl | (simp [errW_none, errW_some] <;> rfl) | (simp [*, errW_none, errW_some] <;> rfl), by repeat (first | (with_reducible first | exact HB.out | apply below_alloc | apply pw_below_drewN | apply below_drew1) | exact HB.out)⟩
      · replace c8 := Bool.eq_false_iff.mpr c8
        subst c8
        have H1 : (some false) = some r := by rw [if_neg (show ¬ (false = true) by decide)] at H; exact H
        clear H
        have H := H1
        clear H1
        obtain rfl := Option.some.inj H
        exact absurd hT_.out (by decide)
    · replace c6 := Bool.eq_false_iff.mpr c6
      subst c6
      have H1 : (some false) = some r := by rw [if_neg (show ¬ (false = true) by decide)] at H; exact H
      clear H
      have H := H1
      clear H1
      obtain rfl := Option.some.inj H
      exact absurd hT_.out (by decide)
  · replace c4 := Bool.eq_false_iff.mpr c4
    subst c4
    have H1 : (some false) = some r := by rw [if_neg (show ¬ (false = true) by decide)] at H; exact H
    clear H
    have H := H1
    clear H1
    obtain rfl := Option.some.inj H
    exact absurd hT_.out (by decide)
/-! ### orthoepylaw21_awake: function 11, its one answer -/
def orthoepylaw21_awake.f : Option (Bool) := some true
theorem orthoepylaw21_awake.calls (r : Bool) (w : World) (h : orthoepylaw21_awake.f = some r) :
    Calls Try.prog 11 #[] w fun e w' => e = .returned (.bool r) ∧ Below w.heap.size w w' := by
  obtain rfl := Option.some.inj h
  exact orthoepylaw21_awake0.calls true w (by decide +kernel) ⟨rfl⟩

/-! ### orthoepyref02_Of: function 22 -/
def orthoepyref02_Of.f (a0 : ByteArray) : Option (List Int) := if a0.size ≤ 1000000 then some (Go.Proofs.Ytajinnlaajhoeaa.Pure.scs a0) else none
theorem orthoepyref02_Of.calls (a0 : ByteArray) (r : List Int) (w : World) (h : orthoepyref02_Of.f a0 = some r) :
    Calls Try.prog 22 #[.string a0] w fun e w' => ∃ v0_ : Value, e = .returned (v0_) ∧ Kd.R (Kd.int .i32) 21 w' w.heap.size (fun _ => True) v0_ r ∧ Below w.heap.size w w' := by
  unfold orthoepyref02_Of.f at h
  split at h
  · rename_i hs
    obtain rfl := Option.some.inj h
    exact Go.Proofs.Ytajinnlaajhoeaa.Pure.of_own a0 w hs
  · cases h

-- NOT PRINTED: function 31 (orthoepyref01_Is)

-- NOT PRINTED: function 46 (orthoepyref01_Split)

-- NOT PRINTED: function 37 (orthoepyref03_Units)

-- NOT PRINTED: function 26 (orthoepyref03_Compare)

/-! ### orthoepyref21_Less: function 13 -/
def orthoepyref21_Less.f (a0 : ByteArray) (a1 : ByteArray) : Option (Bool) := if a0.size ≤ 1000000 ∧ a1.size ≤ 1000000 then some (Go.Proofs.Ytajinnlaajhoeaa.Pure.lessS a0 a1) else none
theorem orthoepyref21_Less.calls (a0 : ByteArray) (a1 : ByteArray) (r : Bool) (w : World) (h : orthoepyref21_Less.f a0 a1 = some r) :
    Calls Try.prog 13 #[.string a0, .string a1] w fun e w' => e = .returned (.bool r) ∧ Below w.heap.size w w' := by
  unfold orthoepyref21_Less.f at h
  split at h
  · rename_i hs
    obtain rfl := Option.some.inj h
    exact Go.Proofs.Ytajinnlaajhoeaa.Pure.rless_tot a0 a1 w hs.1 hs.2
  · cases h

end Go.Proofs.Ytajinnlaajhoeaa.PThr
