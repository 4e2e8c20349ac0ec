-- The machine's side of laws, written by a program of this session (wip/gen/pp.sh). Lean checks it.
import Derived.Test.YtkpeblpgfngjcaaPAllx0
namespace Go.Proofs.Ytkpeblpgfngjcaa.PAll
open Go.RowKit Go.Proofs.YtkpeblpgfngjcaaW.PrintWords Go.Proofs.YtkpeblpgfngjcaaW.PrintLast
set_option linter.unusedVariables false
set_option linter.unusedSimpArgs false

-- NOT PRINTED: function 52 (stringslite_HasPrefix)

-- NOT PRINTED: function 41 (stringslite_CutPrefix)

-- NOT PRINTED: function 25 (strings_CutPrefix)

/-- A state of type 88 at block g of W; what its slices lead to came in by w0. -/
def IsS88 (w0 W : World) (g : Nat) (f0 : Int) (f1 : Int) (f2 : Int) (f3 : Int) : Prop := W.heap[g]? = some (.cells #[.int .u8 f0, .int .i32 f1, .int .i64 f2, .int .i64 f3] 88 (0, 0)) ∧ w0.heap.size ≤ g
theorem IsS88.grown {w0 W : World} {g : Nat} {f0 : Int} {f1 : Int} {f2 : Int} {f3 : Int} {W1 : World} {row : Option Nat} (h : IsS88 w0 W g f0 f1 f2 f3) (hw : W.grownBy W1 row) (hne : some g ≠ row) : IsS88 w0 W1 g f0 f1 f2 f3 := by
  obtain ⟨hb, hg⟩ := h
  exact ⟨blk_grown hb hw hne, hg⟩
theorem IsS88.fresh {w0 W : World} {g : Nat} {f0 : Int} {f1 : Int} {f2 : Int} {f3 : Int} (h : IsS88 w0 W g f0 f1 f2 f3) : ∀ k, W.heap.size ≤ k → k ≠ g := by
  obtain ⟨hb, hg⟩ := h
  exact Kd.freshB hb
theorem IsS88.below {w0 W : World} {g : Nat} {f0 : Int} {f1 : Int} {f2 : Int} {f3 : Int} {W1 : World} (h : IsS88 w0 W g f0 f1 f2 f3) (hw : Below W.heap.size W W1) : IsS88 w0 W1 g f0 f1 f2 f3 := h.grown (grown_of_below hw none) (by simp)
theorem IsS88.alloc {w0 W : World} {g : Nat} {f0 : Int} {f1 : Int} {f2 : Int} {f3 : Int} (h : IsS88 w0 W g f0 f1 f2 f3) (o : Obj) : IsS88 w0 (W.alloc o) g f0 f1 f2 f3 := h.below (below_alloc (Below.refl _ _) o)
theorem IsS88.drewN {w0 W : World} {g : Nat} {f0 : Int} {f1 : Int} {f2 : Int} {f3 : Int} (h : IsS88 w0 W g f0 f1 f2 f3) (m : Nat) : IsS88 w0 (W.drewN m) g f0 f1 f2 f3 := h
theorem IsS88.drew {w0 W : World} {g : Nat} {f0 : Int} {f1 : Int} {f2 : Int} {f3 : Int} (h : IsS88 w0 W g f0 f1 f2 f3) : IsS88 w0 W.drew g f0 f1 f2 f3 := h
theorem IsS88.at_ {w0 W : World} {g : Nat} {f0 : Int} {f1 : Int} {f2 : Int} {f3 : Int} {w' : World} {m : Nat} (hq : W.drewN m = w') (h : IsS88 w0 W g f0 f1 f2 f3) : IsS88 w0 w' g f0 f1 f2 f3 := by subst hq; exact IsS88.drewN h m
theorem IsS88.apart {w0 W : World} {g : Nat} {f0 : Int} {f1 : Int} {f2 : Int} {f3 : Int} {α : Type} {d : Kd α} {e : Nat} {base : Nat} {ok : Nat → Prop} {v : Value} {xs : List α} (h : IsS88 w0 W g f0 f1 f2 f3) (ho : d.R e W base ok v xs) (ht : ∀ q, q ∈ e :: d.E → q ≠ 88) : d.R e W base (fun k => ok k ∧ k ≠ g) v xs := by
  obtain ⟨hb, hg⟩ := h
  exact Kd.R_types ho hb ht
theorem IsS88.own_ne {w0 W : World} {g : Nat} {f0 : Int} {f1 : Int} {f2 : Int} {f3 : Int} {α : Type} {d : Kd α} {e : Nat} {base : Nat} {ok : Nat → Prop} {v : Value} {xs : List α} (h : IsS88 w0 W g f0 f1 f2 f3) (ho : d.R e W base ok v xs) (ht : e ≠ 88) : some g ≠ v.ownBlock := by
  obtain ⟨hb, hg⟩ := h
  exact Kd.R_ne ho hb ht
theorem IsS88.apartQ {w0 W : World} {g : Nat} {f0 : Int} {f1 : Int} {f2 : Int} {f3 : Int} {α : Type} {d : Kd α} {e : Nat} {base : Nat} {ok : Nat → Prop} {v : Value} {xs : List α} (h : IsS88 w0 W g f0 f1 f2 f3) (ho : d.Q e W base ok v xs) (ht : ∀ q, q ∈ e :: d.E → q ≠ 88) : d.Q e W base (fun k => ok k ∧ k ≠ g) v xs := by
  obtain ⟨hb, hg⟩ := h
  exact Kd.Q_types ho hb ht
theorem IsS88.own_neQ {w0 W : World} {g : Nat} {f0 : Int} {f1 : Int} {f2 : Int} {f3 : Int} {α : Type} {d : Kd α} {e : Nat} {base : Nat} {ok : Nat → Prop} {v : Value} {xs : List α} (h : IsS88 w0 W g f0 f1 f2 f3) (ho : d.Q e W base ok v xs) (ht : e ≠ 88) : some g ≠ v.ownBlock := by
  obtain ⟨hb, hg⟩ := h
  exact Kd.Q_ne ho hb ht
theorem IsS88.lt {w0 W : World} {g : Nat} {f0 : Int} {f1 : Int} {f2 : Int} {f3 : Int} (h : IsS88 w0 W g f0 f1 f2 f3) : g < W.heap.size := by
  obtain ⟨hb, hg⟩ := h
  exact blk_lt hb
theorem IsS88.ge {w0 W : World} {g : Nat} {f0 : Int} {f1 : Int} {f2 : Int} {f3 : Int} (h : IsS88 w0 W g f0 f1 f2 f3) : w0.heap.size ≤ g := by
  obtain ⟨hb, hg⟩ := h
  exact hg
theorem IsS88.ne_blk {w0 W : World} {g : Nat} {f0 : Int} {f1 : Int} {f2 : Int} {f3 : Int} {a : Nat} {cs : Array Value} {t : TypeId} {fr : Nat × Nat} (h : IsS88 w0 W g f0 f1 f2 f3) (hb2 : W.heap[a]? = some (.cells cs t fr)) (ht : t ≠ 88) : g ≠ a := by
  obtain ⟨hb, hg⟩ := h
  rintro rfl
  rw [hb] at hb2
  injection hb2 with hb2
  injection hb2 with _ ht2
  exact ht ht2.symm
theorem IsS88.far {w0 W : World} {g : Nat} {f0 : Int} {f1 : Int} {f2 : Int} {f3 : Int} {p : Addr} (h : IsS88 w0 W g f0 f1 f2 f3) (hne : g ≠ p.block) (u : Value) : IsS88 w0 (W.setCell p u) g f0 f1 f2 f3 := by
  obtain ⟨hb, hg⟩ := h
  exact ⟨blk_far hb hne u, hg⟩
theorem cellS88_0 {W : World} {g : Nat} {f0 : Int} {f1 : Int} {f2 : Int} {f3 : Int} (h : W.heap[g]? = some (.cells #[.int .u8 f0, .int .i32 f1, .int .i64 f2, .int .i64 f3] 88 (0, 0))) : W.cell? ⟨g, 0, none⟩ = some (.int .u8 f0) := (blk_cell h 0).trans rfl
theorem IsS88.set_0 {w0 W : World} {g : Nat} {f0 : Int} {f1 : Int} {f2 : Int} {f3 : Int} (h : IsS88 w0 W g f0 f1 f2 f3) (x : Int) : IsS88 w0 (W.setCell ⟨g, 0, none⟩ (.int .u8 x)) g x f1 f2 f3 := by
  obtain ⟨hb, hg⟩ := h
  exact ⟨by simpa using blk_set hb 0 (.int .u8 x), hg⟩
theorem cellS88_1 {W : World} {g : Nat} {f0 : Int} {f1 : Int} {f2 : Int} {f3 : Int} (h : W.heap[g]? = some (.cells #[.int .u8 f0, .int .i32 f1, .int .i64 f2, .int .i64 f3] 88 (0, 0))) : W.cell? ⟨g, 1, none⟩ = some (.int .i32 f1) := (blk_cell h 1).trans rfl
theorem IsS88.set_1 {w0 W : World} {g : Nat} {f0 : Int} {f1 : Int} {f2 : Int} {f3 : Int} (h : IsS88 w0 W g f0 f1 f2 f3) (x : Int) : IsS88 w0 (W.setCell ⟨g, 1, none⟩ (.int .i32 x)) g f0 x f2 f3 := by
  obtain ⟨hb, hg⟩ := h
  exact ⟨by simpa using blk_set hb 1 (.int .i32 x), hg⟩
theorem cellS88_2 {W : World} {g : Nat} {f0 : Int} {f1 : Int} {f2 : Int} {f3 : Int} (h : W.heap[g]? = some (.cells #[.int .u8 f0, .int .i32 f1, .int .i64 f2, .int .i64 f3] 88 (0, 0))) : W.cell? ⟨g, 2, none⟩ = some (.int .i64 f2) := (blk_cell h 2).trans rfl
theorem IsS88.set_2 {w0 W : World} {g : Nat} {f0 : Int} {f1 : Int} {f2 : Int} {f3 : Int} (h : IsS88 w0 W g f0 f1 f2 f3) (x : Int) : IsS88 w0 (W.setCell ⟨g, 2, none⟩ (.int .i64 x)) g f0 f1 x f3 := by
  obtain ⟨hb, hg⟩ := h
  exact ⟨by simpa using blk_set hb 2 (.int .i64 x), hg⟩
theorem cellS88_3 {W : World} {g : Nat} {f0 : Int} {f1 : Int} {f2 : Int} {f3 : Int} (h : W.heap[g]? = some (.cells #[.int .u8 f0, .int .i32 f1, .int .i64 f2, .int .i64 f3] 88 (0, 0))) : W.cell? ⟨g, 3, none⟩ = some (.int .i64 f3) := (blk_cell h 3).trans rfl
theorem IsS88.set_3 {w0 W : World} {g : Nat} {f0 : Int} {f1 : Int} {f2 : Int} {f3 : Int} (h : IsS88 w0 W g f0 f1 f2 f3) (x : Int) : IsS88 w0 (W.setCell ⟨g, 3, none⟩ (.int .i64 x)) g f0 f1 f2 x := by
  obtain ⟨hb, hg⟩ := h
  exact ⟨by simpa using blk_set hb 3 (.int .i64 x), hg⟩
theorem IsS88.new (w0 W : World) (f0 : Int) (f1 : Int) (f2 : Int) (f3 : Int) (hB : Below w0.heap.size w0 W) : IsS88 w0 (W.alloc (.cells #[.int .u8 f0, .int .i32 f1, .int .i64 f2, .int .i64 f3] 88)) W.heap.size f0 f1 f2 f3 := ⟨by simpa using heap_alloc_new W _, hB.size⟩

/-! ### utf8_New: function 42 -/
def utf8_New.f  : Option (Int × Int × Int × Int) := some (0, 0, 0, 0)
set_option maxHeartbeats 8000000 in
set_option maxRecDepth 100000 in
theorem utf8_New.calls  (r1 : Int) (r2 : Int) (r3 : Int) (r4 : Int) (w0 w : World) (hB : Below w0.heap.size w0 w) (h : utf8_New.f  = some (r1, r2, r3, r4)) :
    Calls Try.prog 42 #[] w fun e w' => ∃ g_ : Nat, e = .returned (.pointer (some ⟨g_, 0, none⟩)) ∧ IsS88 w0 w' g_ r1 r2 r3 r4 ∧ Below w0.heap.size w0 w' ∧ Below w.heap.size w w' := by
  have hu88 := Try.underlying88
  have HBW := Aside0.mk (Below.refl w.heap.size w)
  have HW0 := Aside0.mk hB.size
  have HB := Aside0.mk hB
  clear hB
  have H : (some (0, 0, 0, 0)) = some (r1, r2, r3, r4) := h
  clear h
  simp only [Option.some.injEq, Prod.mk.injEq] at H
  obtain ⟨rfl, rfl, rfl, rfl⟩ := H
  go_enter Try.func42, Try.ntmps42
  go_wp2_with (first | ((with_reducible refine gate_dst (N := 2) rfl ?_); refine box_event ?hg (N := 2) ?hd (cs := #[.int .u8 0, .int .i32 0, .int .i64 0, .int .i64 0]) (t := 88) ?hr ?_; (case hd => rfl); (case hg => rfl); (case hr => first | (go_simp; done) | (go_simp; rfl)); intro gb101 hg w1 hbox hb; have n0_ := Aside0.mk (below_step HBW.out hb); have n1_ := Aside0.mk (below_step (by repeat (first | (with_reducible first | exact HB.out | apply below_alloc | apply pw_below_drewN | apply below_drew1) | exact HB.out)) hb); have n2_ := Aside0.mk (hbox); have n3_ := Aside0.mk ((by rw [hg]; exact (below_size (by repeat (first | (with_reducible first | exact HBW.out | apply below_alloc | apply pw_below_drewN | apply below_drew1) | exact HBW.out))) : w.heap.size ≤ gb101)); have n4_ := Aside0.mk ((Nat.le_trans HW0.out (by rw [hg]; exact (below_size (by repeat (first | (with_reducible first | exact HBW.out | apply below_alloc | apply pw_below_drewN | apply below_drew1) | exact HBW.out))) : w.heap.size ≤ gb101) : w0.heap.size ≤ gb101)); clear HBW; clear HB; have HBW := n0_; have HB := n1_; have BK101 := n2_; have GW101 := n3_; have GE101 := n4_; clear n0_ n1_ n2_ n3_ n4_; clear hb hbox hg))
  go_ret
  exact ⟨_, rfl, (show IsS88 w0 _ gb101 0 0 0 0 from ⟨by (with_reducible repeat (first | refine blk_drewN ?_ _ | refine blk_drew ?_ | refine blk_alloc ?_ _)); exact BK101.out, GE101.out⟩), by repeat (first | (with_reducible first | exact HB.out | apply below_alloc | apply pw_below_drewN | apply below_drew1 | refine below_set ?_ GE101.out) | exact HB.out), by repeat (first | (with_reducible first | exact HBW.out | apply below_alloc | apply pw_below_drewN | apply below_drew1 | refine below_set ?_ GW101.out) | exact HBW.out)⟩

-- NOT PRINTED: function 26 (str_New)

-- NOT PRINTED: function 53 (str_escapes)

-- NOT PRINTED: function 43 (str_Str_escape)

/-! ### str_digit: function 54 -/
mutual
def str_digit.j0 : Nat → Int → Bool → Option (Int × Bool)
  | 0, _, _ => none
  | k + 1, x0, x4 => if x4 = true then (some ((x0 - 48) % 256, true)) else (if x0 ≥ 97 then (str_digit.j1 k x0 (decide (x0 ≤ 102))) else (str_digit.j1 k x0 false))
def str_digit.j1 : Nat → Int → Bool → Option (Int × Bool)
  | 0, _, _ => none
  | k + 1, x0, x14 => if x14 = true then (some (((x0 - 97) % 256) + 10, true)) else (if x0 ≥ 65 then (if x0 ≤ 70 then (some (((x0 - 65) % 256) + 10, true)) else (some (0, false))) else (some (0, false)))
end
def str_digit.f (k : Nat) (a0 : Int) : Option (Int × Bool) := if a0 ≥ 48 then (str_digit.j0 k a0 (decide (a0 ≤ 57))) else (str_digit.j0 k a0 false)
theorem str_digit.mono_l : ∀ k, (∀ y0 y1, LeO (str_digit.j0 k y0 y1) (str_digit.j0 (k + 1) y0 y1)) ∧ (∀ y0 y1, LeO (str_digit.j1 k y0 y1) (str_digit.j1 (k + 1) y0 y1))
  | 0 => ⟨fun _ _ r h => by simp [str_digit.j0] at h, fun _ _ r h => by simp [str_digit.j1] at h⟩
  | k + 1 => by
    obtain ⟨ih0, ih1⟩ := str_digit.mono_l k
    refine ⟨?_, ?_⟩
    · intro y0 y1
      unfold str_digit.j0
      repeat' first
      | (with_reducible exact ih0 _ _)
      | (with_reducible exact ih1 _ _)
      | (with_reducible exact LeO.refl _)
      | (with_reducible exact LeO.none _)
      | (with_reducible refine LeO.ite ?_ ?_)
      | (with_reducible refine LeO.bind ?_ (fun _ => ?_))
      | exact ih0 _ _
      | exact ih1 _ _
      | exact LeO.none _
      | refine LeO.ite ?_ ?_
      | refine LeO.bind ?_ (fun _ => ?_)
    · intro y0 y1
      unfold str_digit.j1
      repeat' first
      | (with_reducible exact ih0 _ _)
      | (with_reducible exact ih1 _ _)
      | (with_reducible exact LeO.refl _)
      | (with_reducible exact LeO.none _)
      | (with_reducible refine LeO.ite ?_ ?_)
      | (with_reducible refine LeO.bind ?_ (fun _ => ?_))
      | exact ih0 _ _
      | exact ih1 _ _
      | exact LeO.none _
      | refine LeO.ite ?_ ?_
      | refine LeO.bind ?_ (fun _ => ?_)
theorem str_digit.mono : ∀ a0 k, LeO (str_digit.f k a0) (str_digit.f (k + 1) a0) := by
  intro a0 k
  obtain ⟨ih0, ih1⟩ := str_digit.mono_l k
  unfold str_digit.f
  repeat' first
      | (with_reducible exact ih0 _ _)
      | (with_reducible exact ih1 _ _)
      | (with_reducible exact LeO.refl _)
      | (with_reducible exact LeO.none _)
      | (with_reducible refine LeO.ite ?_ ?_)
      | (with_reducible refine LeO.bind ?_ (fun _ => ?_))
      | exact ih0 _ _
      | exact ih1 _ _
      | exact LeO.none _
      | refine LeO.ite ?_ ?_
      | refine LeO.bind ?_ (fun _ => ?_)
set_option maxHeartbeats 8000000 in
set_option maxRecDepth 100000 in
theorem str_digit.calls (k : Nat) (a0 : Int) (r1 : Int) (r2 : Bool) (w : World) (h : str_digit.f k a0 = some (r1, r2)) :
    Calls Try.prog 54 #[.int .u8 a0] w fun e w' => e = .returned (.tuple #[.int .u16 r1, .bool r2]) ∧ Drawn0 w w' := by
  have H : (if a0 ≥ 48 then (str_digit.j0 k a0 (decide (a0 ≤ 57))) else (str_digit.j0 k a0 false)) = some (r1, r2) := h
  clear h
  have HC2 := Aside0.mk H
  clear H
  go_enter Try.func54, Try.ntmps54
  go_upto_region 1 with (fail)
  go_cut [4] (fun v4 wc => ∃ (kq : Nat) (x4_1 : Bool), v4 = .bool x4_1 ∧ Aside0 (str_digit.j0 kq a0 x4_1 = some (r1, r2)) ∧ Aside0 (kq ≤ k) ∧ Drawn0 w wc)
  case first =>
    have H := HC2.out
    clear HC2
    by_cases c3 : a0 ≥ 48
    · rw [if_pos c3] at H
      have c3b0 : decide (48 ≤ a0) = true := decide_eq_true c3
      clear c3
      (first | rw [c3b0] | (simp only [i64_w, i32_w]; rw [c3b0]) | skip)
      have H' := Aside0.mk H
      clear H
      go_wp2
      go_meet
      case rel => exact ⟨_, (decide (a0 ≤ 57)), (by first | rfl | (simp; done) | (simp [*]; done)), H', ⟨by first | omega | exact Nat.le_refl _⟩, by repeat (first | exact Drawn0.refl _ | apply Drawn0.step)⟩
    · rw [if_neg c3] at H
      have c3b0 : decide (48 ≤ a0) = false := decide_eq_false c3
      clear c3
      (first | rw [c3b0] | (simp only [i64_w, i32_w]; rw [c3b0]) | skip)
      have H' := Aside0.mk H
      clear H
      go_wp2
      go_meet
      case rel => exact ⟨_, (false), (by first | rfl | (simp; done) | (simp [*]; done)), H', ⟨by first | omega | exact Nat.le_refl _⟩, by repeat (first | exact Drawn0.refl _ | apply Drawn0.step)⟩
  case rest =>
    clear HC2
    try clear p2
    try clear c3
    try clear c3b0
    obtain ⟨kq, x4_1, rfl, HA, HJ1, ⟨mc1, rfl⟩⟩ := hcut
    cases kq with
    | zero => exact absurd HA.out (by simp [str_digit.j0])
    | succ kj1 =>
      have H := HA.out
      clear HA
      simp only [str_digit.j0] at H
      by_cases c4 : x4_1 = true
      · subst c4
        have H1 : (some ((a0 - 48) % 256, true)) = some (r1, r2) := by rw [if_pos rfl] at H; exact H
        clear H
        have H := H1
        clear H1
        simp only [Option.some.injEq, Prod.mk.injEq] at H
        obtain ⟨rfl, rfl⟩ := H
        go_wp2
        go_ret2
        exact ⟨by first | rfl | (simp; done) | (simp [*]; done), by repeat (first | exact Drawn0.refl _ | apply Drawn0.step)⟩
      · replace c4 := Bool.eq_false_iff.mpr c4
        subst c4
        have H1 : (if a0 ≥ 97 then (str_digit.j1 kj1 a0 (decide (a0 ≤ 102))) else (str_digit.j1 kj1 a0 false)) = some (r1, r2) := by rw [if_neg (show ¬ (false = true) by decide)] at H; exact H
        clear H
        have H := H1
        clear H1
        have HC5 := Aside0.mk H
        clear H
        go_upto_region 3 with (fail)
        go_cut [14] (fun v14 wc => ∃ (kq : Nat) (x14_4 : Bool), v14 = .bool x14_4 ∧ Aside0 (str_digit.j1 kq a0 x14_4 = some (r1, r2)) ∧ Aside0 (kq ≤ kj1) ∧ Drawn0 w wc)
        case first =>
          have H := HC5.out
          clear HC5
          by_cases c6 : a0 ≥ 97
          · rw [if_pos c6] at H
            have c6b0 : decide (97 ≤ a0) = true := decide_eq_true c6
            clear c6
            (first | rw [c6b0] | (simp only [i64_w, i32_w]; rw [c6b0]) | skip)
            have H' := Aside0.mk H
            clear H
            go_wp2
            go_meet
            case rel => exact ⟨_, (decide (a0 ≤ 102)), (by first | rfl | (simp; done) | (simp [*]; done)), H', ⟨by have := HJ1.out; first | omega | exact Nat.le_refl _⟩, by repeat (first | exact Drawn0.refl _ | apply Drawn0.step)⟩
          · rw [if_neg c6] at H
            have c6b0 : decide (97 ≤ a0) = false := decide_eq_false c6
            clear c6
            (first | rw [c6b0] | (simp only [i64_w, i32_w]; rw [c6b0]) | skip)
            have H' := Aside0.mk H
            clear H
            go_wp2
            go_meet
            case rel => exact ⟨_, (false), (by first | rfl | (simp; done) | (simp [*]; done)), H', ⟨by have := HJ1.out; first | omega | exact Nat.le_refl _⟩, by repeat (first | exact Drawn0.refl _ | apply Drawn0.step)⟩
        case rest =>
          clear HC5
          try clear c1
          try clear p2
          try clear c3
          try clear c3b0
          try clear c4
          try clear c5
          try clear c6
          try clear c6b0
          try clear p2
          obtain ⟨kq, x14_4, rfl, HA, HJ4, ⟨mc4, rfl⟩⟩ := hcut
          cases kq with
          | zero => exact absurd HA.out (by simp [str_digit.j1])
          | succ kj4 =>
            have H := HA.out
            clear HA
            simp only [str_digit.j1] at H
            by_cases c7 : x14_4 = true
            · subst c7
              have H1 : (some (((a0 - 97) % 256) + 10, true)) = some (r1, r2) := by rw [if_pos rfl] at H; exact H
              clear H
              have H := H1
              clear H1
              simp only [Option.some.injEq, Prod.mk.injEq] at H
              obtain ⟨rfl, rfl⟩ := H
              go_wp2
              go_ret2
              exact ⟨by first | rfl | (simp; done) | (simp [*]; done), by repeat (first | exact Drawn0.refl _ | apply Drawn0.step)⟩
            · replace c7 := Bool.eq_false_iff.mpr c7
              subst c7
              have H1 : (if a0 ≥ 65 then (if a0 ≤ 70 then (some (((a0 - 65) % 256) + 10, true)) else (some (0, false))) else (some (0, false))) = some (r1, r2) := by rw [if_neg (show ¬ (false = true) by decide)] at H; exact H
              clear H
              have H := H1
              clear H1
              by_cases c8 : a0 ≥ 65
              · rw [if_pos c8] at H
                have c8b0 : decide (65 ≤ a0) = true := decide_eq_true c8
                clear c8
                by_cases c9 : a0 ≤ 70
                · rw [if_pos c9] at H
                  have c9b0 : decide (a0 ≤ 70) = true := decide_eq_true c9
                  clear c9
                  simp only [Option.some.injEq, Prod.mk.injEq] at H
                  obtain ⟨rfl, rfl⟩ := H
                  go_wp2
                  go_ret2
                  exact ⟨by first | rfl | (simp; done) | (simp [*]; done), by repeat (first | exact Drawn0.refl _ | apply Drawn0.step)⟩
                · rw [if_neg c9] at H
                  have c9b0 : decide (a0 ≤ 70) = false := decide_eq_false c9
                  clear c9
                  simp only [Option.some.injEq, Prod.mk.injEq] at H
                  obtain ⟨rfl, rfl⟩ := H
                  go_wp2
                  go_ret2
                  exact ⟨by first | rfl | (simp; done) | (simp [*]; done), by repeat (first | exact Drawn0.refl _ | apply Drawn0.step)⟩
              · rw [if_neg c8] at H
                have c8b0 : decide (65 ≤ a0) = false := decide_eq_false c8
                clear c8
                simp only [Option.some.injEq, Prod.mk.injEq] at H
                obtain ⟨rfl, rfl⟩ := H
                go_wp2
                go_ret2
                exact ⟨by first | rfl | (simp; done) | (simp [*]; done), by repeat (first | exact Drawn0.refl _ | apply Drawn0.step)⟩

/-! ### scalar_High: function 58 -/
def scalar_High.f (a0 : Int) : Option (Bool) := if a0 ≥ 55296 then (some (decide (a0 < 56320))) else (some false)
set_option maxHeartbeats 8000000 in
set_option maxRecDepth 100000 in
theorem scalar_High.calls (a0 : Int) (r : Bool) (w : World) (h : scalar_High.f a0 = some r) :
    Calls Try.prog 58 #[.int .u16 a0] w fun e w' => e = .returned (.bool r) ∧ Drawn0 w w' := by
  have H : (if a0 ≥ 55296 then (some (decide (a0 < 56320))) else (some false)) = some r := h
  clear h
  by_cases c2 : a0 ≥ 55296
  · rw [if_pos c2] at H
    have c2b0 : decide (55296 ≤ a0) = true := decide_eq_true c2
    clear c2
    obtain rfl := Option.some.inj H
    go_enter Try.func58, Try.ntmps58
    go_wp2
    go_ret
    exact ⟨by first | rfl | (simp; done) | (simp [*]; done), by repeat (first | exact Drawn0.refl _ | apply Drawn0.step)⟩
  · rw [if_neg c2] at H
    have c2b0 : decide (55296 ≤ a0) = false := decide_eq_false c2
    clear c2
    obtain rfl := Option.some.inj H
    go_enter Try.func58, Try.ntmps58
    go_wp2
    go_ret
    exact ⟨by first | rfl | (simp; done) | (simp [*]; done), by repeat (first | exact Drawn0.refl _ | apply Drawn0.step)⟩

/-! ### scalar_Low: function 75 -/
def scalar_Low.f (a0 : Int) : Option (Bool) := if a0 ≥ 56320 then (some (decide (a0 ≤ 57343))) else (some false)
set_option maxHeartbeats 8000000 in
set_option maxRecDepth 100000 in
theorem scalar_Low.calls (a0 : Int) (r : Bool) (w : World) (h : scalar_Low.f a0 = some r) :
    Calls Try.prog 75 #[.int .u16 a0] w fun e w' => e = .returned (.bool r) ∧ Drawn0 w w' := by
  have H : (if a0 ≥ 56320 then (some (decide (a0 ≤ 57343))) else (some false)) = some r := h
  clear h
  by_cases c2 : a0 ≥ 56320
  · rw [if_pos c2] at H
    have c2b0 : decide (56320 ≤ a0) = true := decide_eq_true c2
    clear c2
    obtain rfl := Option.some.inj H
    go_enter Try.func75, Try.ntmps75
    go_wp2
    go_ret
    exact ⟨by first | rfl | (simp; done) | (simp [*]; done), by repeat (first | exact Drawn0.refl _ | apply Drawn0.step)⟩
  · rw [if_neg c2] at H
    have c2b0 : decide (56320 ≤ a0) = false := decide_eq_false c2
    clear c2
    obtain rfl := Option.some.inj H
    go_enter Try.func75, Try.ntmps75
    go_wp2
    go_ret
    exact ⟨by first | rfl | (simp; done) | (simp [*]; done), by repeat (first | exact Drawn0.refl _ | apply Drawn0.step)⟩

/-! ### scalar_Join: function 56 -/
def scalar_Join.f (a0 : Int) (a1 : Int) : Option (Int × Bool) := (scalar_High.f a0).bind fun t102 => (if t102 = true then ((scalar_Low.f a1).bind fun t103 => (if t103 = true then (some (wrap32 ((wrap32 (65536 + (wrap32 ((wrap32 (IntKind.u16.wrap (a0 - 55296))) * 1024)))) + (wrap32 (IntKind.u16.wrap (a1 - 56320)))), true)) else (some (0, false)))) else (some (0, false)))
set_option maxHeartbeats 8000000 in
set_option maxRecDepth 100000 in
theorem scalar_Join.calls (a0 : Int) (a1 : Int) (r1 : Int) (r2 : Bool) (w : World) (h : scalar_Join.f a0 a1 = some (r1, r2)) :
    Calls Try.prog 56 #[.int .u16 a0, .int .u16 a1] w fun e w' => e = .returned (.tuple #[.int .i32 r1, .bool r2]) ∧ Drawn0 w w' := by
  have H : ((scalar_High.f a0).bind fun t102 => (if t102 = true then ((scalar_Low.f a1).bind fun t103 => (if t103 = true then (some (wrap32 ((wrap32 (65536 + (wrap32 ((wrap32 (IntKind.u16.wrap (a0 - 55296))) * 1024)))) + (wrap32 (IntKind.u16.wrap (a1 - 56320)))), true)) else (some (0, false)))) else (some (0, false)))) = some (r1, r2) := h
  clear h
  replace H := Option.bind_eq_some_iff.mp H
  obtain ⟨t102, A30, H⟩ := H
  replace H : (if t102 = true then ((scalar_Low.f a1).bind fun t103 => (if t103 = true then (some (wrap32 ((wrap32 (65536 + (wrap32 ((wrap32 (IntKind.u16.wrap (a0 - 55296))) * 1024)))) + (wrap32 (IntKind.u16.wrap (a1 - 56320)))), true)) else (some (0, false)))) else (some (0, false))) = some (r1, r2) := H
  have A3 := Aside0.mk A30
  clear A30
  by_cases c4 : t102 = true
  · subst c4
    have H1 : ((scalar_Low.f a1).bind fun t103 => (if t103 = true then (some (wrap32 ((wrap32 (65536 + (wrap32 ((wrap32 (IntKind.u16.wrap (a0 - 55296))) * 1024)))) + (wrap32 (IntKind.u16.wrap (a1 - 56320)))), true)) else (some (0, false)))) = some (r1, r2) := by rw [if_pos rfl] at H; exact H
    clear H
    have H := H1
    clear H1
    replace H := Option.bind_eq_some_iff.mp H
    obtain ⟨t103, A50, H⟩ := H
    replace H : (if t103 = true then (some (wrap32 ((wrap32 (65536 + (wrap32 ((wrap32 (IntKind.u16.wrap (a0 - 55296))) * 1024)))) + (wrap32 (IntKind.u16.wrap (a1 - 56320)))), true)) else (some (0, false))) = some (r1, r2) := H
    have A5 := Aside0.mk A50
    clear A50
    by_cases c6 : t103 = true
    · subst c6
      have H1 : (some (wrap32 ((wrap32 (65536 + (wrap32 ((wrap32 (IntKind.u16.wrap (a0 - 55296))) * 1024)))) + (wrap32 (IntKind.u16.wrap (a1 - 56320)))), true)) = some (r1, r2) := by rw [if_pos rfl] at H; exact H
      clear H
      have H := H1
      clear H1
      simp only [Option.some.injEq, Prod.mk.injEq] at H
      obtain ⟨rfl, rfl⟩ := H
      go_enter Try.func56, Try.ntmps56
      go_wp2_with (first | ((with_reducible refine gate_callee (f := 58) rfl ?_); refine goesL_ (some 7) rfl rfl Try.func58 (by kernel_rfl) rfl #[.int .u16 a0] rfl (by (try simp only [List.map_toArray, List.map_cons, List.map_nil]); first | done | rfl | (simp only [List.length_drop, List.length_take]; rfl)) ?_; (with_reducible refine (scalar_High.calls a0 true _ A3.out).mono ?_); rintro e w' ⟨rfl, ⟨nd, rfl⟩⟩; refine ⟨_, rfl, ?_⟩) | (go_at_call 75; (with_reducible refine (scalar_Low.calls a1 true _ A5.out).mono ?_); rintro e w' ⟨rfl, ⟨nd, rfl⟩⟩))
      go_ret2
      exact ⟨by first | rfl | (simp; done) | (simp [*]; done), by repeat (first | exact Drawn0.refl _ | apply Drawn0.step)⟩
    · replace c6 := Bool.eq_false_iff.mpr c6
      subst c6
      have H1 : (some (0, false)) = some (r1, r2) := by rw [if_neg (show ¬ (false = true) by decide)] at H; exact H
      clear H
      have H := H1
      clear H1
      simp only [Option.some.injEq, Prod.mk.injEq] at H
      obtain ⟨rfl, rfl⟩ := H
      go_enter Try.func56, Try.ntmps56
      go_wp2_with (first | ((with_reducible refine gate_callee (f := 58) rfl ?_); refine goesL_ (some 7) rfl rfl Try.func58 (by kernel_rfl) rfl #[.int .u16 a0] rfl (by (try simp only [List.map_toArray, List.map_cons, List.map_nil]); first | done | rfl | (simp only [List.length_drop, List.length_take]; rfl)) ?_; (with_reducible refine (scalar_High.calls a0 true _ A3.out).mono ?_); rintro e w' ⟨rfl, ⟨nd, rfl⟩⟩; refine ⟨_, rfl, ?_⟩) | (go_at_call 75; (with_reducible refine (scalar_Low.calls a1 false _ A5.out).mono ?_); rintro e w' ⟨rfl, ⟨nd, rfl⟩⟩))
      go_ret2
      exact ⟨by first | rfl | (simp; done) | (simp [*]; done), by repeat (first | exact Drawn0.refl _ | apply Drawn0.step)⟩
  · replace c4 := Bool.eq_false_iff.mpr c4
    subst c4
    have H1 : (some (0, false)) = some (r1, r2) := by rw [if_neg (show ¬ (false = true) by decide)] at H; exact H
    clear H
    have H := H1
    clear H1
    simp only [Option.some.injEq, Prod.mk.injEq] at H
    obtain ⟨rfl, rfl⟩ := H
    go_enter Try.func56, Try.ntmps56
    go_wp2_with (first | ((with_reducible refine gate_callee (f := 58) rfl ?_); refine goesL_ (some 7) rfl rfl Try.func58 (by kernel_rfl) rfl #[.int .u16 a0] rfl (by (try simp only [List.map_toArray, List.map_cons, List.map_nil]); first | done | rfl | (simp only [List.length_drop, List.length_take]; rfl)) ?_; (with_reducible refine (scalar_High.calls a0 false _ A3.out).mono ?_); rintro e w' ⟨rfl, ⟨nd, rfl⟩⟩; refine ⟨_, rfl, ?_⟩))
    go_ret2
    exact ⟨by first | rfl | (simp; done) | (simp [*]; done), by repeat (first | exact Drawn0.refl _ | apply Drawn0.step)⟩

/-! ### scalar_Is: function 79 -/
def scalar_Is.f (a0 : Int) : Option (Bool) := if a0 ≥ 0 then (if a0 ≤ 1114111 then (if a0 < 55296 then (some true) else (some (decide (a0 > 57343)))) else (some false)) else (some false)
set_option maxHeartbeats 8000000 in
set_option maxRecDepth 100000 in
theorem scalar_Is.calls (a0 : Int) (r : Bool) (w : World) (h : scalar_Is.f a0 = some r) :
    Calls Try.prog 79 #[.int .i32 a0] w fun e w' => e = .returned (.bool r) ∧ Drawn0 w w' := by
  have H : (if a0 ≥ 0 then (if a0 ≤ 1114111 then (if a0 < 55296 then (some true) else (some (decide (a0 > 57343)))) else (some false)) else (some false)) = some r := h
  clear h
  by_cases c2 : a0 ≥ 0
  · rw [if_pos c2] at H
    have c2b0 : decide (0 ≤ a0) = true := decide_eq_true c2
    clear c2
    by_cases c3 : a0 ≤ 1114111
    · rw [if_pos c3] at H
      have c3b0 : decide (a0 ≤ 1114111) = true := decide_eq_true c3
      clear c3
      by_cases c4 : a0 < 55296
      · rw [if_pos c4] at H
        have c4b0 : decide (a0 < 55296) = true := decide_eq_true c4
        clear c4
        obtain rfl := Option.some.inj H
        go_enter Try.func79, Try.ntmps79
        go_wp2
        go_ret
        exact ⟨by first | rfl | (simp; done) | (simp [*]; done), by repeat (first | exact Drawn0.refl _ | apply Drawn0.step)⟩
      · rw [if_neg c4] at H
        have c4b0 : decide (a0 < 55296) = false := decide_eq_false c4
        clear c4
        obtain rfl := Option.some.inj H
        go_enter Try.func79, Try.ntmps79
        go_wp2
        go_ret
        exact ⟨by first | rfl | (simp; done) | (simp [*]; done), by repeat (first | exact Drawn0.refl _ | apply Drawn0.step)⟩
    · rw [if_neg c3] at H
      have c3b0 : decide (a0 ≤ 1114111) = false := decide_eq_false c3
      clear c3
      obtain rfl := Option.some.inj H
      go_enter Try.func79, Try.ntmps79
      go_wp2
      go_ret
      exact ⟨by first | rfl | (simp; done) | (simp [*]; done), by repeat (first | exact Drawn0.refl _ | apply Drawn0.step)⟩
  · rw [if_neg c2] at H
    have c2b0 : decide (0 ≤ a0) = false := decide_eq_false c2
    clear c2
    obtain rfl := Option.some.inj H
    go_enter Try.func79, Try.ntmps79
    go_wp2
    go_ret
    exact ⟨by first | rfl | (simp; done) | (simp [*]; done), by repeat (first | exact Drawn0.refl _ | apply Drawn0.step)⟩

/-! ### scalar_Nonchar: function 60 -/
def scalar_Nonchar.f (a0 : Int) : Option (Bool) := if a0 ≥ 64976 then (if a0 ≤ 65007 then (some true) else ((scalar_Is.f a0).bind fun t104 => (if t104 = true then (some ((Go.bits .and .i32 a0 65534) == 65534)) else (some false)))) else ((scalar_Is.f a0).bind fun t105 => (if t105 = true then (some ((Go.bits .and .i32 a0 65534) == 65534)) else (some false)))
set_option maxHeartbeats 8000000 in
set_option maxRecDepth 100000 in
theorem scalar_Nonchar.calls (a0 : Int) (r : Bool) (w : World) (h : scalar_Nonchar.f a0 = some r) :
    Calls Try.prog 60 #[.int .i32 a0] w fun e w' => e = .returned (.bool r) ∧ Drawn0 w w' := by
  have H : (if a0 ≥ 64976 then (if a0 ≤ 65007 then (some true) else ((scalar_Is.f a0).bind fun t104 => (if t104 = true then (some ((Go.bits .and .i32 a0 65534) == 65534)) else (some false)))) else ((scalar_Is.f a0).bind fun t105 => (if t105 = true then (some ((Go.bits .and .i32 a0 65534) == 65534)) else (some false)))) = some r := h
  clear h
  by_cases c2 : a0 ≥ 64976
  · rw [if_pos c2] at H
    have c2b0 : decide (64976 ≤ a0) = true := decide_eq_true c2
    clear c2
    by_cases c3 : a0 ≤ 65007
    · rw [if_pos c3] at H
      have c3b0 : decide (a0 ≤ 65007) = true := decide_eq_true c3
      clear c3
      obtain rfl := Option.some.inj H
      go_enter Try.func60, Try.ntmps60
      go_wp2
      go_ret
      exact ⟨by first | rfl | (simp; done) | (simp [*]; done), by repeat (first | exact Drawn0.refl _ | apply Drawn0.step)⟩
    · rw [if_neg c3] at H
      have c3b0 : decide (a0 ≤ 65007) = false := decide_eq_false c3
      clear c3
      replace H := Option.bind_eq_some_iff.mp H
      obtain ⟨t104, A40, H⟩ := H
      replace H : (if t104 = true then (some ((Go.bits .and .i32 a0 65534) == 65534)) else (some false)) = some r := H
      have A4 := Aside0.mk A40
      clear A40
      by_cases c5 : t104 = true
      · subst c5
        have H1 : (some ((Go.bits .and .i32 a0 65534) == 65534)) = some r := by rw [if_pos rfl] at H; exact H
        clear H
        have H := H1
        clear H1
        obtain rfl := Option.some.inj H
        go_enter Try.func60, Try.ntmps60
        go_wp2_with (first | (go_at_call 79; (with_reducible refine (scalar_Is.calls a0 true _ A4.out).mono ?_); rintro e w' ⟨rfl, ⟨nd, rfl⟩⟩))
        go_ret
        exact ⟨by first | rfl | (simp; done) | (simp [*]; done), by repeat (first | exact Drawn0.refl _ | apply Drawn0.step)⟩
      · replace c5 := Bool.eq_false_iff.mpr c5
        subst c5
        have H1 : (some false) = some r := by rw [if_neg (show ¬ (false = true) by decide)] at H; exact H
        clear H
        have H := H1
        clear H1
        obtain rfl := Option.some.inj H
        go_enter Try.func60, Try.ntmps60
        go_wp2_with (first | (go_at_call 79; (with_reducible refine (scalar_Is.calls a0 false _ A4.out).mono ?_); rintro e w' ⟨rfl, ⟨nd, rfl⟩⟩))
        go_ret
        exact ⟨by first | rfl | (simp; done) | (simp [*]; done), by repeat (first | exact Drawn0.refl _ | apply Drawn0.step)⟩
  · rw [if_neg c2] at H
    have c2b0 : decide (64976 ≤ a0) = false := decide_eq_false c2
    clear c2
    replace H := Option.bind_eq_some_iff.mp H
    obtain ⟨t105, A60, H⟩ := H
    replace H : (if t105 = true then (some ((Go.bits .and .i32 a0 65534) == 65534)) else (some false)) = some r := H
    have A6 := Aside0.mk A60
    clear A60
    by_cases c7 : t105 = true
    · subst c7
      have H1 : (some ((Go.bits .and .i32 a0 65534) == 65534)) = some r := by rw [if_pos rfl] at H; exact H
      clear H
      have H := H1
      clear H1
      obtain rfl := Option.some.inj H
      go_enter Try.func60, Try.ntmps60
      go_wp2_with (first | (go_at_call 79; (with_reducible refine (scalar_Is.calls a0 true _ A6.out).mono ?_); rintro e w' ⟨rfl, ⟨nd, rfl⟩⟩))
      go_ret
      exact ⟨by first | rfl | (simp; done) | (simp [*]; done), by repeat (first | exact Drawn0.refl _ | apply Drawn0.step)⟩
    · replace c7 := Bool.eq_false_iff.mpr c7
      subst c7
      have H1 : (some false) = some r := by rw [if_neg (show ¬ (false = true) by decide)] at H; exact H
      clear H
      have H := H1
      clear H1
      obtain rfl := Option.some.inj H
      go_enter Try.func60, Try.ntmps60
      go_wp2_with (first | (go_at_call 79; (with_reducible refine (scalar_Is.calls a0 false _ A6.out).mono ?_); rintro e w' ⟨rfl, ⟨nd, rfl⟩⟩))
      go_ret
      exact ⟨by first | rfl | (simp; done) | (simp [*]; done), by repeat (first | exact Drawn0.refl _ | apply Drawn0.step)⟩

-- NOT PRINTED: function 55 (str_Str_wrong)

/-! ### utf8_Bytes: function 76 -/
def utf8_Bytes.f (a0 : Int) : Option (List Int) := (scalar_Is.f a0).bind fun t106 => (if t106 = true then (if a0 < 128 then (some (([(a0) % 256] : List Int))) else (if a0 < 2048 then (some (([(Go.bits .or .i32 192 (a0 / 64)) % 256, (Go.bits .or .i32 128 (Go.bits .and .i32 a0 63)) % 256] : List Int))) else (if a0 < 65536 then (some (([(Go.bits .or .i32 224 (a0 / 4096)) % 256, (Go.bits .or .i32 128 (Go.bits .and .i32 (a0 / 64) 63)) % 256, (Go.bits .or .i32 128 (Go.bits .and .i32 a0 63)) % 256] : List Int))) else (some (([(Go.bits .or .i32 240 (a0 / 262144)) % 256, (Go.bits .or .i32 128 (Go.bits .and .i32 (a0 / 4096) 63)) % 256, (Go.bits .or .i32 128 (Go.bits .and .i32 (a0 / 64) 63)) % 256, (Go.bits .or .i32 128 (Go.bits .and .i32 a0 63)) % 256] : List Int)))))) else (some ([] : List Int)))
set_option maxHeartbeats 8000000 in
set_option maxRecDepth 100000 in
theorem utf8_Bytes.calls (a0 : Int) (r : List Int) (w : World) (h : utf8_Bytes.f a0 = some r) :
    Calls Try.prog 76 #[.int .i32 a0] w fun e w' => ∃ v0_ : Value, e = .returned (v0_) ∧ Kd.R (Kd.int .u8) 5 w' w.heap.size (fun _ => True) v0_ r ∧ Below w.heap.size w w' := by
  have HB := Aside0.mk (Below.refl w.heap.size w)
  have H : ((scalar_Is.f a0).bind fun t106 => (if t106 = true then (if a0 < 128 then (some (([(a0) % 256] : List Int))) else (if a0 < 2048 then (some (([(Go.bits .or .i32 192 (a0 / 64)) % 256, (Go.bits .or .i32 128 (Go.bits .and .i32 a0 63)) % 256] : List Int))) else (if a0 < 65536 then (some (([(Go.bits .or .i32 224 (a0 / 4096)) % 256, (Go.bits .or .i32 128 (Go.bits .and .i32 (a0 / 64) 63)) % 256, (Go.bits .or .i32 128 (Go.bits .and .i32 a0 63)) % 256] : List Int))) else (some (([(Go.bits .or .i32 240 (a0 / 262144)) % 256, (Go.bits .or .i32 128 (Go.bits .and .i32 (a0 / 4096) 63)) % 256, (Go.bits .or .i32 128 (Go.bits .and .i32 (a0 / 64) 63)) % 256, (Go.bits .or .i32 128 (Go.bits .and .i32 a0 63)) % 256] : List Int)))))) else (some ([] : List Int)))) = some r := h
  clear h
  replace H := Option.bind_eq_some_iff.mp H
  obtain ⟨t106, A20, H⟩ := H
  replace H : (if t106 = true then (if a0 < 128 then (some (([(a0) % 256] : List Int))) else (if a0 < 2048 then (some (([(Go.bits .or .i32 192 (a0 / 64)) % 256, (Go.bits .or .i32 128 (Go.bits .and .i32 a0 63)) % 256] : List Int))) else (if a0 < 65536 then (some (([(Go.bits .or .i32 224 (a0 / 4096)) % 256, (Go.bits .or .i32 128 (Go.bits .and .i32 (a0 / 64) 63)) % 256, (Go.bits .or .i32 128 (Go.bits .and .i32 a0 63)) % 256] : List Int))) else (some (([(Go.bits .or .i32 240 (a0 / 262144)) % 256, (Go.bits .or .i32 128 (Go.bits .and .i32 (a0 / 4096) 63)) % 256, (Go.bits .or .i32 128 (Go.bits .and .i32 (a0 / 64) 63)) % 256, (Go.bits .or .i32 128 (Go.bits .and .i32 a0 63)) % 256] : List Int)))))) else (some ([] : List Int))) = some r := H
  have A2 := Aside0.mk A20
  clear A20
  by_cases c3 : t106 = true
  · subst c3
    have H1 : (if a0 < 128 then (some (([(a0) % 256] : List Int))) else (if a0 < 2048 then (some (([(Go.bits .or .i32 192 (a0 / 64)) % 256, (Go.bits .or .i32 128 (Go.bits .and .i32 a0 63)) % 256] : List Int))) else (if a0 < 65536 then (some (([(Go.bits .or .i32 224 (a0 / 4096)) % 256, (Go.bits .or .i32 128 (Go.bits .and .i32 (a0 / 64) 63)) % 256, (Go.bits .or .i32 128 (Go.bits .and .i32 a0 63)) % 256] : List Int))) else (some (([(Go.bits .or .i32 240 (a0 / 262144)) % 256, (Go.bits .or .i32 128 (Go.bits .and .i32 (a0 / 4096) 63)) % 256, (Go.bits .or .i32 128 (Go.bits .and .i32 (a0 / 64) 63)) % 256, (Go.bits .or .i32 128 (Go.bits .and .i32 a0 63)) % 256] : List Int)))))) = some r := by rw [if_pos rfl] at H; exact H
    clear H
    have H := H1
    clear H1
    by_cases c4 : a0 < 128
    · rw [if_pos c4] at H
      have c4b0 : decide (a0 < 128) = true := decide_eq_true c4
      clear c4
      obtain ⟨y107, hy107⟩ : ∃ y_ : List Int, y_ = (([(a0) % 256] : List Int)) := ⟨_, rfl⟩
      replace H : (some y107) = some r := by first | (rw [hy107]; with_reducible exact H) | (have H2_ := (Option.bind_some _ _).symm.trans H; rw [hy107]; with_reducible exact H2_) | (have H2_ := (Option.bind_some _ _).symm.trans H; with_reducible exact H2_) | with_reducible exact H | (rw [hy107]; exact H) | exact H
      have Ny107 := Aside0.mk hy107
      clear hy107
      obtain rfl := Option.some.inj H
      go_enter Try.func76, Try.ntmps76
      go_wp2_with (first | ((with_reducible refine gate_callee (f := 79) rfl ?_); refine goesL_ (some 5) rfl rfl Try.func79 (by kernel_rfl) rfl #[.int .i32 a0] rfl (by (try simp only [List.map_toArray, List.map_cons, List.map_nil]); first | done | rfl | (simp only [List.length_drop, List.length_take]; rfl)) ?_; (with_reducible refine (scalar_Is.calls a0 true _ A2.out).mono ?_); rintro e w' ⟨rfl, ⟨nd, rfl⟩⟩; refine ⟨_, rfl, ?_⟩) | ((with_reducible refine gate_dst (N := 12) rfl ?_); refine Kd.R_lit (Kd.int .u8) _ 5 ?hg (N := 12) ?hd (xs := ([(a0) % 256] : List Int)) (inner := [.int .u8 ((a0) % 256)]) (ok := fun _ => True) (okp := fun _ => True) ?hr ?hp (fun _ hk => hk) trivial (Below.refl _ _) (Nat.le_refl _) (by simp) ?_; (case hd => rfl); (case hg => rfl); (case hr => first | (go_simp; done) | (go_simp; rfl)); (case hp => exact (Reps.one (show Kd.M (Kd.int .u8) _ _ _ ((a0) % 256) [.int .u8 ((a0) % 256)] from rfl) (Reps.none _ _))); intro v108 w5 ho6 hb hg_ hnew_; clear hg_ hnew_; (first | rw [← Ny107.out] at ho6 | (simp only [Int.reduceToNat] at ho6; rw [← Ny107.out] at ho6)); have n0_ := Aside0.mk (Kd.R_lower ho6 (below_size (by repeat (first | (with_reducible first | exact HB.out | apply below_alloc | apply pw_below_drewN | apply below_drew1) | exact HB.out)))); have n1_ := Aside0.mk (below_step (by repeat (first | (with_reducible first | exact HB.out | apply below_alloc | apply pw_below_drewN | apply below_drew1) | exact HB.out)) hb); clear HB; have HO109 := n0_; have HB := n1_; clear n0_ n1_; clear hb ho6))
      go_ret
      exact ⟨_, by first | rfl | (simp [errW_none, errW_some] <;> rfl) | (simp [*, errW_none, errW_some] <;> rfl), by (with_reducible repeat (first | apply Kd.R_alloc | apply Kd.R_drewN | apply Kd.R_drew)); exact HO109.out, by repeat (first | (with_reducible first | exact HB.out | apply below_alloc | apply pw_below_drewN | apply below_drew1) | exact HB.out)⟩
    · rw [if_neg c4] at H
      have c4b0 : decide (a0 < 128) = false := decide_eq_false c4
      clear c4
      by_cases c7 : a0 < 2048
      · rw [if_pos c7] at H
        have c7b0 : decide (a0 < 2048) = true := decide_eq_true c7
        clear c7
        obtain ⟨y110, hy110⟩ : ∃ y_ : List Int, y_ = (([(Go.bits .or .i32 192 (a0 / 64)) % 256, (Go.bits .or .i32 128 (Go.bits .and .i32 a0 63)) % 256] : List Int)) := ⟨_, rfl⟩
        replace H : (some y110) = some r := by first | (rw [hy110]; with_reducible exact H) | (have H2_ := (Option.bind_some _ _).symm.trans H; rw [hy110]; with_reducible exact H2_) | (have H2_ := (Option.bind_some _ _).symm.trans H; with_reducible exact H2_) | with_reducible exact H | (rw [hy110]; exact H) | exact H
        have Ny110 := Aside0.mk hy110
        clear hy110
        obtain rfl := Option.some.inj H
        go_enter Try.func76, Try.ntmps76
        go_wp2_with (first | ((with_reducible refine gate_callee (f := 79) rfl ?_); refine goesL_ (some 5) rfl rfl Try.func79 (by kernel_rfl) rfl #[.int .i32 a0] rfl (by (try simp only [List.map_toArray, List.map_cons, List.map_nil]); first | done | rfl | (simp only [List.length_drop, List.length_take]; rfl)) ?_; (with_reducible refine (scalar_Is.calls a0 true _ A2.out).mono ?_); rintro e w' ⟨rfl, ⟨nd, rfl⟩⟩; refine ⟨_, rfl, ?_⟩) | ((with_reducible refine gate_dst (N := 24) rfl ?_); refine Kd.R_lit (Kd.int .u8) _ 5 ?hg (N := 24) ?hd (xs := ([(Go.bits .or .i32 192 (a0 / 64)) % 256, (Go.bits .or .i32 128 (Go.bits .and .i32 a0 63)) % 256] : List Int)) (inner := [.int .u8 ((Go.bits .or .i32 192 (a0 / 64)) % 256), .int .u8 ((Go.bits .or .i32 128 (Go.bits .and .i32 a0 63)) % 256)]) (ok := fun _ => True) (okp := fun _ => True) ?hr ?hp (fun _ hk => hk) trivial (Below.refl _ _) (Nat.le_refl _) (by simp) ?_; (case hd => rfl); (case hg => rfl); (case hr => first | (go_simp; done) | (go_simp; rfl)); (case hp => exact (Reps.one (show Kd.M (Kd.int .u8) _ _ _ ((Go.bits .or .i32 192 (a0 / 64)) % 256) [.int .u8 ((Go.bits .or .i32 192 (a0 / 64)) % 256)] from rfl) (Reps.one (show Kd.M (Kd.int .u8) _ _ _ ((Go.bits .or .i32 128 (Go.bits .and .i32 a0 63)) % 256) [.int .u8 ((Go.bits .or .i32 128 (Go.bits .and .i32 a0 63)) % 256)] from rfl) (Reps.none _ _)))); intro v111 w8 ho9 hb hg_ hnew_; clear hg_ hnew_; (first | rw [← Ny110.out] at ho9 | (simp only [Int.reduceToNat] at ho9; rw [← Ny110.out] at ho9)); have n0_ := Aside0.mk (Kd.R_lower ho9 (below_size (by repeat (first | (with_reducible first | exact HB.out | apply below_alloc | apply pw_below_drewN | apply below_drew1) | exact HB.out)))); have n1_ := Aside0.mk (below_step (by repeat (first | (with_reducible first | exact HB.out | apply below_alloc | apply pw_below_drewN | apply below_drew1) | exact HB.out)) hb); clear HB; have HO112 := n0_; have HB := n1_; clear n0_ n1_; clear hb ho9))
        go_ret
        exact ⟨_, by first | rfl | (simp [errW_none, errW_some] <;> rfl) | (simp [*, errW_none, errW_some] <;> rfl), by (with_reducible repeat (first | apply Kd.R_alloc | apply Kd.R_drewN | apply Kd.R_drew)); exact HO112.out, by repeat (first | (with_reducible first | exact HB.out | apply below_alloc | apply pw_below_drewN | apply below_drew1) | exact HB.out)⟩
      · rw [if_neg c7] at H
        have c7b0 : decide (a0 < 2048) = false := decide_eq_false c7
        clear c7
        by_cases c10 : a0 < 65536
        · rw [if_pos c10] at H
          have c10b0 : decide (a0 < 65536) = true := decide_eq_true c10
          clear c10
          obtain ⟨y113, hy113⟩ : ∃ y_ : List Int, y_ = (([(Go.bits .or .i32 224 (a0 / 4096)) % 256, (Go.bits .or .i32 128 (Go.bits .and .i32 (a0 / 64) 63)) % 256, (Go.bits .or .i32 128 (Go.bits .and .i32 a0 63)) % 256] : List Int)) := ⟨_, rfl⟩
          replace H : (some y113) = some r := by first | (rw [hy113]; with_reducible exact H) | (have H2_ := (Option.bind_some _ _).symm.trans H; rw [hy113]; with_reducible exact H2_) | (have H2_ := (Option.bind_some _ _).symm.trans H; with_reducible exact H2_) | with_reducible exact H | (rw [hy113]; exact H) | exact H
          have Ny113 := Aside0.mk hy113
          clear hy113
          obtain rfl := Option.some.inj H
          go_enter Try.func76, Try.ntmps76
          go_wp2_with (first | ((with_reducible refine gate_callee (f := 79) rfl ?_); refine goesL_ (some 5) rfl rfl Try.func79 (by kernel_rfl) rfl #[.int .i32 a0] rfl (by (try simp only [List.map_toArray, List.map_cons, List.map_nil]); first | done | rfl | (simp only [List.length_drop, List.length_take]; rfl)) ?_; (with_reducible refine (scalar_Is.calls a0 true _ A2.out).mono ?_); rintro e w' ⟨rfl, ⟨nd, rfl⟩⟩; refine ⟨_, rfl, ?_⟩) | ((with_reducible refine gate_dst (N := 41) rfl ?_); refine Kd.R_lit (Kd.int .u8) _ 5 ?hg (N := 41) ?hd (xs := ([(Go.bits .or .i32 224 (a0 / 4096)) % 256, (Go.bits .or .i32 128 (Go.bits .and .i32 (a0 / 64) 63)) % 256, (Go.bits .or .i32 128 (Go.bits .and .i32 a0 63)) % 256] : List Int)) (inner := [.int .u8 ((Go.bits .or .i32 224 (a0 / 4096)) % 256), .int .u8 ((Go.bits .or .i32 128 (Go.bits .and .i32 (a0 / 64) 63)) % 256), .int .u8 ((Go.bits .or .i32 128 (Go.bits .and .i32 a0 63)) % 256)]) (ok := fun _ => True) (okp := fun _ => True) ?hr ?hp (fun _ hk => hk) trivial (Below.refl _ _) (Nat.le_refl _) (by simp) ?_; (case hd => rfl); (case hg => rfl); (case hr => first | (go_simp; done) | (go_simp; rfl)); (case hp => exact (Reps.one (show Kd.M (Kd.int .u8) _ _ _ ((Go.bits .or .i32 224 (a0 / 4096)) % 256) [.int .u8 ((Go.bits .or .i32 224 (a0 / 4096)) % 256)] from rfl) (Reps.one (show Kd.M (Kd.int .u8) _ _ _ ((Go.bits .or .i32 128 (Go.bits .and .i32 (a0 / 64) 63)) % 256) [.int .u8 ((Go.bits .or .i32 128 (Go.bits .and .i32 (a0 / 64) 63)) % 256)] from rfl) (Reps.one (show Kd.M (Kd.int .u8) _ _ _ ((Go.bits .or .i32 128 (Go.bits .and .i32 a0 63)) % 256) [.int .u8 ((Go.bits .or .i32 128 (Go.bits .and .i32 a0 63)) % 256)] from rfl) (Reps.none _ _))))); intro v114 w11 ho12 hb hg_ hnew_; clear hg_ hnew_; (first | rw [← Ny113.out] at ho12 | (simp only [Int.reduceToNat] at ho12; rw [← Ny113.out] at ho12)); have n0_ := Aside0.mk (Kd.R_lower ho12 (below_size (by repeat (first | (with_reducible first | exact HB.out | apply below_alloc | apply pw_below_drewN | apply below_drew1) | exact HB.out)))); have n1_ := Aside0.mk (below_step (by repeat (first | (with_reducible first | exact HB.out | apply below_alloc | apply pw_below_drewN | apply below_drew1) | exact HB.out)) hb); clear HB; have HO115 := n0_; have HB := n1_; clear n0_ n1_; clear hb ho12))
          go_ret
          exact ⟨_, by first | rfl | (simp [errW_none, errW_some] <;> rfl) | (simp [*, errW_none, errW_some] <;> rfl), by (with_reducible repeat (first | apply Kd.R_alloc | apply Kd.R_drewN | apply Kd.R_drew)); exact HO115.out, by repeat (first | (with_reducible first | exact HB.out | apply below_alloc | apply pw_below_drewN | apply below_drew1) | exact HB.out)⟩
        · rw [if_neg c10] at H
          have c10b0 : decide (a0 < 65536) = false := decide_eq_false c10
          clear c10
          obtain ⟨y116, hy116⟩ : ∃ y_ : List Int, y_ = (([(Go.bits .or .i32 240 (a0 / 262144)) % 256, (Go.bits .or .i32 128 (Go.bits .and .i32 (a0 / 4096) 63)) % 256, (Go.bits .or .i32 128 (Go.bits .and .i32 (a0 / 64) 63)) % 256, (Go.bits .or .i32 128 (Go.bits .and .i32 a0 63)) % 256] : List Int)) := ⟨_, rfl⟩
          replace H : (some y116) = some r := by first | (rw [hy116]; with_reducible exact H) | (have H2_ := (Option.bind_some _ _).symm.trans H; rw [hy116]; with_reducible exact H2_) | (have H2_ := (Option.bind_some _ _).symm.trans H; with_reducible exact H2_) | with_reducible exact H | (rw [hy116]; exact H) | exact H
          have Ny116 := Aside0.mk hy116
          clear hy116
          obtain rfl := Option.some.inj H
          go_enter Try.func76, Try.ntmps76
          go_wp2_with (first | ((with_reducible refine gate_callee (f := 79) rfl ?_); refine goesL_ (some 5) rfl rfl Try.func79 (by kernel_rfl) rfl #[.int .i32 a0] rfl (by (try simp only [List.map_toArray, List.map_cons, List.map_nil]); first | done | rfl | (simp only [List.length_drop, List.length_take]; rfl)) ?_; (with_reducible refine (scalar_Is.calls a0 true _ A2.out).mono ?_); rintro e w' ⟨rfl, ⟨nd, rfl⟩⟩; refine ⟨_, rfl, ?_⟩) | ((with_reducible refine gate_dst (N := 60) rfl ?_); refine Kd.R_lit (Kd.int .u8) _ 5 ?hg (N := 60) ?hd (xs := ([(Go.bits .or .i32 240 (a0 / 262144)) % 256, (Go.bits .or .i32 128 (Go.bits .and .i32 (a0 / 4096) 63)) % 256, (Go.bits .or .i32 128 (Go.bits .and .i32 (a0 / 64) 63)) % 256, (Go.bits .or .i32 128 (Go.bits .and .i32 a0 63)) % 256] : List Int)) (inner := [.int .u8 ((Go.bits .or .i32 240 (a0 / 262144)) % 256), .int .u8 ((Go.bits .or .i32 128 (Go.bits .and .i32 (a0 / 4096) 63)) % 256), .int .u8 ((Go.bits .or .i32 128 (Go.bits .and .i32 (a0 / 64) 63)) % 256), .int .u8 ((Go.bits .or .i32 128 (Go.bits .and .i32 a0 63)) % 256)]) (ok := fun _ => True) (okp := fun _ => True) ?hr ?hp (fun _ hk => hk) trivial (Below.refl _ _) (Nat.le_refl _) (by simp) ?_; (case hd => rfl); (case hg => rfl); (case hr => first | (go_simp; done) | (go_simp; rfl)); (case hp => exact (Reps.one (show Kd.M (Kd.int .u8) _ _ _ ((Go.bits .or .i32 240 (a0 / 262144)) % 256) [.int .u8 ((Go.bits .or .i32 240 (a0 / 262144)) % 256)] from rfl) (Reps.one (show Kd.M (Kd.int .u8) _ _ _ ((Go.bits .or .i32 128 (Go.bits .and .i32 (a0 / 4096) 63)) % 256) [.int .u8 ((Go.bits .or .i32 128 (Go.bits .and .i32 (a0 / 4096) 63)) % 256)] from rfl) (Reps.one (show Kd.M (Kd.int .u8) _ _ _ ((Go.bits .or .i32 128 (Go.bits .and .i32 (a0 / 64) 63)) % 256) [.int .u8 ((Go.bits .or .i32 128 (Go.bits .and .i32 (a0 / 64) 63)) % 256)] from rfl) (Reps.one (show Kd.M (Kd.int .u8) _ _ _ ((Go.bits .or .i32 128 (Go.bits .and .i32 a0 63)) % 256) [.int .u8 ((Go.bits .or .i32 128 (Go.bits .and .i32 a0 63)) % 256)] from rfl) (Reps.none _ _)))))); intro v117 w13 ho14 hb hg_ hnew_; clear hg_ hnew_; (first | rw [← Ny116.out] at ho14 | (simp only [Int.reduceToNat] at ho14; rw [← Ny116.out] at ho14)); have n0_ := Aside0.mk (Kd.R_lower ho14 (below_size (by repeat (first | (with_reducible first | exact HB.out | apply below_alloc | apply pw_below_drewN | apply below_drew1) | exact HB.out)))); have n1_ := Aside0.mk (below_step (by repeat (first | (with_reducible first | exact HB.out | apply below_alloc | apply pw_below_drewN | apply below_drew1) | exact HB.out)) hb); clear HB; have HO118 := n0_; have HB := n1_; clear n0_ n1_; clear hb ho14))
          go_ret
          exact ⟨_, by first | rfl | (simp [errW_none, errW_some] <;> rfl) | (simp [*, errW_none, errW_some] <;> rfl), by (with_reducible repeat (first | apply Kd.R_alloc | apply Kd.R_drewN | apply Kd.R_drew)); exact HO118.out, by repeat (first | (with_reducible first | exact HB.out | apply below_alloc | apply pw_below_drewN | apply below_drew1) | exact HB.out)⟩
  · replace c3 := Bool.eq_false_iff.mpr c3
    subst c3
    have H1 : (some ([] : List Int)) = some r := by rw [if_neg (show ¬ (false = true) by decide)] at H; exact H
    clear H
    have H := H1
    clear H1
    obtain rfl := Option.some.inj H
    go_enter Try.func76, Try.ntmps76
    go_wp2_with (first | ((with_reducible refine gate_callee (f := 79) rfl ?_); refine goesL_ (some 5) rfl rfl Try.func79 (by kernel_rfl) rfl #[.int .i32 a0] rfl (by (try simp only [List.map_toArray, List.map_cons, List.map_nil]); first | done | rfl | (simp only [List.length_drop, List.length_take]; rfl)) ?_; (with_reducible refine (scalar_Is.calls a0 false _ A2.out).mono ?_); rintro e w' ⟨rfl, ⟨nd, rfl⟩⟩; refine ⟨_, rfl, ?_⟩))
    go_ret
    exact ⟨_, by first | rfl | (simp [errW_none, errW_some] <;> rfl) | (simp [*, errW_none, errW_some] <;> rfl), by first | exact Kd.R_nil _ _ _ _ _ | exact Kd.N_nil _ _ _ _ _ | exact Kd.V_nil _ _ _ _ _ | exact Kd.Q_nil _ _ _ _ _ | exact Kd.S_nil _ _ _ _ _, by repeat (first | (with_reducible first | exact HB.out | apply below_alloc | apply pw_below_drewN | apply below_drew1) | exact HB.out)⟩

-- NOT PRINTED: function 57 (str_Str_say)

-- NOT PRINTED: function 44 (str_Str_digits)

/-! ### utf8_size: function 77 -/
/-- Of how many bytes a scalar is that begins so. -/
def sizeV (x : Int) : Int := if x < 128 then 1 else if x < 194 then 0 else if x < 224 then 2 else if x < 240 then 3 else if x < 245 then 4 else 0
def utf8_size.f (a0 : Int) : Option (Int) := if 0 ≤ a0 ∧ a0 ≤ 255 then some (sizeV a0) else none
theorem utf8_size.table (a0 : Int) (h0 : 0 ≤ a0) (h1 : a0 ≤ 244) (h2 : a0 ≠ 192) (h3 : a0 ≠ 193) :
    ([.int .i64 1, .int .i64 1, .int .i64 1, .int .i64 1, .int .i64 1, .int .i64 1, .int .i64 1, .int .i64 1, .int .i64 1, .int .i64 1, .int .i64 1, .int .i64 1, .int .i64 1, .int .i64 1, .int .i64 1, .int .i64 1, .int .i64 0, .int .i64 0, .int .i64 0, .int .i64 0, .int .i64 0, .int .i64 0, .int .i64 0, .int .i64 0, .int .i64 2, .int .i64 2, .int .i64 2, .int .i64 2, .int .i64 3, .int .i64 3, .int .i64 4, .int .i64 0] : List Value)[(a0 / 8).toNat]? = some (.int .i64 (sizeV a0)) := by
  obtain ⟨j, hj⟩ : ∃ j, j = (a0 / 8).toNat := ⟨_, rfl⟩
  rw [← hj]
  have hs : sizeV a0 = if j < 16 then 1 else if j < 24 then 0 else if j < 28 then 2 else if j < 30 then 3 else 4 := by
    unfold sizeV
    (repeat' split) <;> first | rfl | (exfalso; omega)
  rw [hs]
  have hlt : j < 31 := by omega
  clear hs hj
  match j, hlt with
  | 0, _ => rfl
  | 1, _ => rfl
  | 2, _ => rfl
  | 3, _ => rfl
  | 4, _ => rfl
  | 5, _ => rfl
  | 6, _ => rfl
  | 7, _ => rfl
  | 8, _ => rfl
  | 9, _ => rfl
  | 10, _ => rfl
  | 11, _ => rfl
  | 12, _ => rfl
  | 13, _ => rfl
  | 14, _ => rfl
  | 15, _ => rfl
  | 16, _ => rfl
  | 17, _ => rfl
  | 18, _ => rfl
  | 19, _ => rfl
  | 20, _ => rfl
  | 21, _ => rfl
  | 22, _ => rfl
  | 23, _ => rfl
  | 24, _ => rfl
  | 25, _ => rfl
  | 26, _ => rfl
  | 27, _ => rfl
  | 28, _ => rfl
  | 29, _ => rfl
  | 30, _ => rfl
  | n + 31, h => exact absurd h (by omega)
theorem below_setRow {B : Nat} {w W : World} (h : Below B w W) (g : Nat) (cs : Array Value) (hg : B ≤ g) : Below B w (W.setRow g cs) :=
  ⟨h.os, h.tape, h.output, by rw [size_setRow]; exact h.size, fun i hi => (setRow_other W g i cs (by omega)).trans (h.block i hi)⟩
section
variable {P : Program} {ops : Array Oper} {rest : List Oper} {o : Oper} {a : Act} {Q : Exit → Act → World → Prop} {W : World}
theorem gate_build_ {t : TypeId} {xs : Array (Nat × Operand)} (_ho : o.op = .build t xs) (h : wpList P ops Q (o :: rest) a W) : wpList P ops Q (o :: rest) a W := h
theorem wpList_build_is_ (hg : o.guard = none) (t : TypeId) (parts : Array (Nat × Operand)) (ho : o.op = .build t parts) (cells : Array Value)
    (hf : P.built t (parts.map fun (i, x) => (i, a.eval x)).toList = some cells) (h : wpList P ops Q rest (a.put o.dst (.agg cells)) W) : wpList P ops Q (o :: rest) a W :=
  wpList_build hg t parts ho (by rw [hf]; rfl) (by rw [hf]; exact h)
end
set_option maxHeartbeats 8000000 in
set_option maxRecDepth 100000 in
theorem utf8_size.calls3 (a0 : Int) (w : World) (h0 : 0 ≤ a0) (h1 : a0 ≤ 255) (c1b : (a0 == 192) = false) (c2b : (a0 == 193) = false) (c3b : decide (244 < a0) = false) (hi : ([.int .i64 1, .int .i64 1, .int .i64 1, .int .i64 1, .int .i64 1, .int .i64 1, .int .i64 1, .int .i64 1, .int .i64 1, .int .i64 1, .int .i64 1, .int .i64 1, .int .i64 1, .int .i64 1, .int .i64 1, .int .i64 1, .int .i64 0, .int .i64 0, .int .i64 0, .int .i64 0, .int .i64 0, .int .i64 0, .int .i64 0, .int .i64 0, .int .i64 2, .int .i64 2, .int .i64 2, .int .i64 2, .int .i64 3, .int .i64 3, .int .i64 4, .int .i64 0] : List Value)[(a0 / 8).toNat]? = some (.int .i64 (sizeV a0))) :
    Calls Try.prog 77 #[.int .u8 a0] w fun e w' => e = .returned (.int .i64 (sizeV a0)) ∧ Below w.heap.size w w' := by
        have HI := Aside0.mk hi
        clear hi
        go_enter Try.func77, Try.ntmps77
        go_wp2_with (first | ((with_reducible refine gate_build_ (t := 109) rfl ?_); refine wpList_build_is_ rfl 109 _ rfl (#[.int .i64 1, .int .i64 1, .int .i64 1, .int .i64 1, .int .i64 1, .int .i64 1, .int .i64 1, .int .i64 1, .int .i64 1, .int .i64 1, .int .i64 1, .int .i64 1, .int .i64 1, .int .i64 1, .int .i64 1, .int .i64 1, .int .i64 0, .int .i64 0, .int .i64 0, .int .i64 0, .int .i64 0, .int .i64 0, .int .i64 0, .int .i64 0, .int .i64 2, .int .i64 2, .int .i64 2, .int .i64 2, .int .i64 3, .int .i64 3, .int .i64 4, .int .i64 0]) (by kernel_rfl) ?_) | ((with_reducible refine gate_store (t := 109) rfl ?_); refine wpList_store_row ?hg 109 (.tmp 3) (.tmp 14) ?ho w.heap.size (#[.int .i64 1, .int .i64 1, .int .i64 1, .int .i64 1, .int .i64 1, .int .i64 1, .int .i64 1, .int .i64 1, .int .i64 1, .int .i64 1, .int .i64 1, .int .i64 1, .int .i64 1, .int .i64 1, .int .i64 1, .int .i64 1, .int .i64 0, .int .i64 0, .int .i64 0, .int .i64 0, .int .i64 0, .int .i64 0, .int .i64 0, .int .i64 0, .int .i64 2, .int .i64 2, .int .i64 2, .int .i64 2, .int .i64 3, .int .i64 3, .int .i64 4, .int .i64 0]) ?hx ?hy 109 ?old ?hb ?hi ?hl ?h1 ?hn; (case hg => rfl); (case ho => rfl); (case hx => rfl); (case hy => rfl); (case hb => exact heap_alloc_new w _); (case hi => kernel_rfl); (case hl => rfl); (case h1 => kernel_rfl); (obtain ⟨W, hW⟩ : ∃ W, W = (w.alloc (.cells #[.int .i64 0, .int .i64 0, .int .i64 0, .int .i64 0, .int .i64 0, .int .i64 0, .int .i64 0, .int .i64 0, .int .i64 0, .int .i64 0, .int .i64 0, .int .i64 0, .int .i64 0, .int .i64 0, .int .i64 0, .int .i64 0, .int .i64 0, .int .i64 0, .int .i64 0, .int .i64 0, .int .i64 0, .int .i64 0, .int .i64 0, .int .i64 0, .int .i64 0, .int .i64 0, .int .i64 0, .int .i64 0, .int .i64 0, .int .i64 0, .int .i64 0, .int .i64 0] 109)).setRow w.heap.size (#[.int .i64 1, .int .i64 1, .int .i64 1, .int .i64 1, .int .i64 1, .int .i64 1, .int .i64 1, .int .i64 1, .int .i64 1, .int .i64 1, .int .i64 1, .int .i64 1, .int .i64 1, .int .i64 1, .int .i64 1, .int .i64 1, .int .i64 0, .int .i64 0, .int .i64 0, .int .i64 0, .int .i64 0, .int .i64 0, .int .i64 0, .int .i64 0, .int .i64 2, .int .i64 2, .int .i64 2, .int .i64 2, .int .i64 3, .int .i64 3, .int .i64 4, .int .i64 0]) := ⟨_, rfl⟩); (have hb : Below w.heap.size w W := by rw [hW]; exact below_setRow ((Below.refl _ _).alloc (Nat.le_refl _) _) _ _ (Nat.le_refl _)); (have hc : W.cell? ⟨w.heap.size, (a0 / 8).toNat, none⟩ = some (.int .i64 (sizeV a0)) := by rw [hW, cell_of_row _ _ _ _ _ _ (setRow_heap _ _ _ _ _ _ (heap_alloc_new w _))]; simpa using HI.out); rw [← hW]; clear hW))
        go_ret
        exact ⟨rfl, hb⟩
set_option maxHeartbeats 8000000 in
set_option maxRecDepth 100000 in
theorem utf8_size.calls (a0 : Int) (r : Int) (w : World) (h : utf8_size.f a0 = some r) :
    Calls Try.prog 77 #[.int .u8 a0] w fun e w' => e = .returned (.int .i64 r) ∧ Below w.heap.size w w' := by
  unfold utf8_size.f at h
  split at h
  case isFalse => cases h
  case isTrue hh =>
  obtain rfl := Option.some.inj h
  obtain ⟨h0, h1⟩ := hh
  clear h
  by_cases c1 : a0 = 192
  · subst c1
    go_enter Try.func77, Try.ntmps77
    go_wp2
    go_ret
    exact ⟨rfl, Below.refl _ _⟩
  · by_cases c2 : a0 = 193
    · subst c2
      go_enter Try.func77, Try.ntmps77
      go_wp2
      go_ret
      exact ⟨rfl, Below.refl _ _⟩
    · have c1b : (a0 == 192) = false := by simpa using c1
      have c2b : (a0 == 193) = false := by simpa using c2
      by_cases c3 : 244 < a0
      · have e : sizeV a0 = 0 := by unfold sizeV; (repeat' split) <;> first | rfl | (exfalso; omega)
        rw [e]
        clear e c1 c2
        have c3b : decide (244 < a0) = true := decide_eq_true c3
        go_enter Try.func77, Try.ntmps77
        go_wp2
        go_ret
        exact ⟨rfl, Below.refl _ _⟩
      · have c3b : decide (244 < a0) = false := decide_eq_false c3
        exact utf8_size.calls3 a0 w h0 h1 c1b c2b c3b (utf8_size.table a0 h0 (by omega) c1 c2)

/-! ### utf8_second: function 78 -/
def utf8_second.f (a0 : Int) (a1 : Int) : Option (Bool) := if a0 < 224 then (if a1 ≥ 128 then (some (decide (a1 ≤ 191))) else (some false)) else (if 0 ≤ ((a0 - 224) % 256) then (if ((a0 - 224) % 256) < 21 then (if a1 ≥ (bt (⟨#[160, 128, 128, 128, 128, 128, 128, 128, 128, 128, 128, 128, 128, 128, 128, 128, 144, 128, 128, 128, 128]⟩ : ByteArray) ((a0 - 224) % 256)) then (some (decide (a1 ≤ (bt (⟨#[191, 191, 191, 191, 191, 191, 191, 191, 191, 191, 191, 191, 191, 159, 191, 191, 191, 191, 191, 191, 143]⟩ : ByteArray) ((a0 - 224) % 256))))) else (some false)) else (none)) else (none))
set_option maxHeartbeats 8000000 in
set_option maxRecDepth 100000 in
theorem utf8_second.calls (a0 : Int) (a1 : Int) (r : Bool) (w : World) (h : utf8_second.f a0 a1 = some r) :
    Calls Try.prog 78 #[.int .u8 a0, .int .u8 a1] w fun e w' => e = .returned (.bool r) ∧ Drawn0 w w' := by
  have H : (if a0 < 224 then (if a1 ≥ 128 then (some (decide (a1 ≤ 191))) else (some false)) else (if 0 ≤ ((a0 - 224) % 256) then (if ((a0 - 224) % 256) < 21 then (if a1 ≥ (bt (⟨#[160, 128, 128, 128, 128, 128, 128, 128, 128, 128, 128, 128, 128, 128, 128, 128, 144, 128, 128, 128, 128]⟩ : ByteArray) ((a0 - 224) % 256)) then (some (decide (a1 ≤ (bt (⟨#[191, 191, 191, 191, 191, 191, 191, 191, 191, 191, 191, 191, 191, 159, 191, 191, 191, 191, 191, 191, 143]⟩ : ByteArray) ((a0 - 224) % 256))))) else (some false)) else (none)) else (none))) = some r := h
  clear h
  by_cases c3 : a0 < 224
  · rw [if_pos c3] at H
    have c3b0 : decide (a0 < 224) = true := decide_eq_true c3
    clear c3
    by_cases c4 : a1 ≥ 128
    · rw [if_pos c4] at H
      have c4b0 : decide (128 ≤ a1) = true := decide_eq_true c4
      clear c4
      obtain rfl := Option.some.inj H
      go_enter Try.func78, Try.ntmps78
      go_wp2
      go_ret
      exact ⟨by first | rfl | (simp; done) | (simp [*]; done), by repeat (first | exact Drawn0.refl _ | apply Drawn0.step)⟩
    · rw [if_neg c4] at H
      have c4b0 : decide (128 ≤ a1) = false := decide_eq_false c4
      clear c4
      obtain rfl := Option.some.inj H
      go_enter Try.func78, Try.ntmps78
      go_wp2
      go_ret
      exact ⟨by first | rfl | (simp; done) | (simp [*]; done), by repeat (first | exact Drawn0.refl _ | apply Drawn0.step)⟩
  · rw [if_neg c3] at H
    have c3b0 : decide (a0 < 224) = false := decide_eq_false c3
    clear c3
    obtain ⟨ji5, hji5⟩ : ∃ j_ : Int, ((a0 - 224) % 256) = j_ := ⟨_, rfl⟩
    replace H : (if 0 ≤ (ji5) then (if (ji5) < 21 then (if a1 ≥ (bt (⟨#[160, 128, 128, 128, 128, 128, 128, 128, 128, 128, 128, 128, 128, 128, 128, 128, 144, 128, 128, 128, 128]⟩ : ByteArray) (ji5)) then (some (decide (a1 ≤ (bt (⟨#[191, 191, 191, 191, 191, 191, 191, 191, 191, 191, 191, 191, 191, 159, 191, 191, 191, 191, 191, 191, 143]⟩ : ByteArray) (ji5))))) else (some false)) else (none)) else (none)) = some r := by first | (rw [hji5] at H; exact H) | (simp only [hji5] at H ⊢; exact H)
    by_cases c6 : 0 ≤ (ji5)
    · rw [if_pos c6] at H
      have c6b0 : decide (0 ≤ (ji5)) = true := decide_eq_true c6
      clear c6
      by_cases c7 : (ji5) < 21
      · rw [if_pos c7] at H
        have c7b0 : decide ((ji5) < 21) = true := decide_eq_true c7
        clear c7
        by_cases c9 : a1 ≥ (bt (⟨#[160, 128, 128, 128, 128, 128, 128, 128, 128, 128, 128, 128, 128, 128, 128, 128, 144, 128, 128, 128, 128]⟩ : ByteArray) (ji5))
        · rw [if_pos c9] at H
          have c9b0 : decide ((bt (⟨#[160, 128, 128, 128, 128, 128, 128, 128, 128, 128, 128, 128, 128, 128, 128, 128, 144, 128, 128, 128, 128]⟩ : ByteArray) (ji5)) ≤ a1) = true := decide_eq_true c9
          clear c9
          obtain rfl := Option.some.inj H
          have p8 : 0 ≤ ((ji5) : Int) := of_decide_eq_true (by first | (with_reducible assumption) | assumption)
          have q8 : (ji5) < (21 : Int) := of_decide_eq_true (by first | (with_reducible assumption) | assumption)
          have hx8 := bt_at (⟨#[160, 128, 128, 128, 128, 128, 128, 128, 128, 128, 128, 128, 128, 128, 128, 128, 144, 128, 128, 128, 128]⟩ : ByteArray) (ji5)
          replace p8 := eq_true p8
          replace q8 := eq_true q8
          have p10 : 0 ≤ ((ji5) : Int) := of_decide_eq_true (by first | (with_reducible assumption) | assumption)
          have q10 : (ji5) < (21 : Int) := of_decide_eq_true (by first | (with_reducible assumption) | assumption)
          have hx10 := bt_at (⟨#[191, 191, 191, 191, 191, 191, 191, 191, 191, 191, 191, 191, 191, 159, 191, 191, 191, 191, 191, 191, 143]⟩ : ByteArray) (ji5)
          replace p10 := eq_true p10
          replace q10 := eq_true q10
          go_enter Try.func78, Try.ntmps78
          go_wp2
          go_ret
          exact ⟨by first | rfl | (simp; done) | (simp only [← hji5] <;> (first | rfl | simp)) | (simp [*]; done), by repeat (first | exact Drawn0.refl _ | apply Drawn0.step)⟩
        · rw [if_neg c9] at H
          have c9b0 : decide ((bt (⟨#[160, 128, 128, 128, 128, 128, 128, 128, 128, 128, 128, 128, 128, 128, 128, 128, 144, 128, 128, 128, 128]⟩ : ByteArray) (ji5)) ≤ a1) = false := decide_eq_false c9
          clear c9
          obtain rfl := Option.some.inj H
          have p8 : 0 ≤ ((ji5) : Int) := of_decide_eq_true (by first | (with_reducible assumption) | assumption)
          have q8 : (ji5) < (21 : Int) := of_decide_eq_true (by first | (with_reducible assumption) | assumption)
          have hx8 := bt_at (⟨#[160, 128, 128, 128, 128, 128, 128, 128, 128, 128, 128, 128, 128, 128, 128, 128, 144, 128, 128, 128, 128]⟩ : ByteArray) (ji5)
          replace p8 := eq_true p8
          replace q8 := eq_true q8
          go_enter Try.func78, Try.ntmps78
          go_wp2
          go_ret
          exact ⟨by first | rfl | (simp; done) | (simp only [← hji5] <;> (first | rfl | simp)) | (simp [*]; done), by repeat (first | exact Drawn0.refl _ | apply Drawn0.step)⟩
      · rw [if_neg c7] at H
        exact absurd H (by simp)
    · rw [if_neg c6] at H
      exact absurd H (by simp)

end Go.Proofs.Ytkpeblpgfngjcaa.PAll
