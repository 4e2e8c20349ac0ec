-- The machine's side of laws, written by a program of this session (wip/gen/pp.sh). Lean checks it.
import Derived.Test.YtoalfgmnikbpaaaPAllx0
namespace Go.Proofs.Ytoalfgmnikbpaaa.PAll
open Go.RowKit Go.Proofs.YtoalfgmnikbpaaaW.PrintWords Go.Proofs.YtoalfgmnikbpaaaW.PrintLast Go.Proofs.YtoalfgmnikbpaaaW.PrintMore
attribute [local go_sem] max2_int min2_int max_two min_two max_three min_three max_four min_four   -- for this text's walks alone
set_option linter.unusedVariables false
set_option linter.unusedSimpArgs false

/-- A state of type 53 at block g of W; what its slices lead to came in by w0. -/
def IsS53 (w0 W : World) (g : Nat) (f0 : Int) (f1 : Int) (f2 : Int) (f3 : Int) : Prop := W.heap[g]? = some (.cells #[.int .u8 f0, .int .i32 f1, .int .i64 f2, .int .i64 f3] 53 (0, 0)) ∧ w0.heap.size ≤ g
theorem IsS53.grown {w0 W : World} {g : Nat} {f0 : Int} {f1 : Int} {f2 : Int} {f3 : Int} {W1 : World} {row : Option Nat} (h : IsS53 w0 W g f0 f1 f2 f3) (hw : W.grownBy W1 row) (hne : some g ≠ row) : IsS53 w0 W1 g f0 f1 f2 f3 := by
  obtain ⟨hb, hg⟩ := h
  exact ⟨blk_grown hb hw hne, hg⟩
theorem IsS53.own_neN {w0 W : World} {g : Nat} {f0 : Int} {f1 : Int} {f2 : Int} {f3 : Int} {α : Type} {d : Kd α} {e : Nat} {base : Nat} {ok : Nat → Prop} {v : Value} {xs : List α} (h : IsS53 w0 W g f0 f1 f2 f3) (ho : Kd.N d e W base ok v xs) (ht : e ≠ 53) : some g ≠ v.ownBlock := by
  obtain ⟨hb, hg⟩ := h
  exact Kd.N_ne ho hb ht
theorem IsS53.fresh {w0 W : World} {g : Nat} {f0 : Int} {f1 : Int} {f2 : Int} {f3 : Int} (h : IsS53 w0 W g f0 f1 f2 f3) : ∀ k, W.heap.size ≤ k → k ≠ g := by
  obtain ⟨hb, hg⟩ := h
  exact Kd.freshB hb
theorem IsS53.kept {w0 W : World} {g : Nat} {f0 : Int} {f1 : Int} {f2 : Int} {f3 : Int} {W1 : World} {S : Nat → Prop} (h : IsS53 w0 W g f0 f1 f2 f3) (hk : Kept W W1 S) (hne : ¬ S g) : IsS53 w0 W1 g f0 f1 f2 f3 := by
  obtain ⟨hb, hg⟩ := h
  exact ⟨blk_kept hb hk hne, hg⟩
theorem IsS53.below {w0 W : World} {g : Nat} {f0 : Int} {f1 : Int} {f2 : Int} {f3 : Int} {W1 : World} (h : IsS53 w0 W g f0 f1 f2 f3) (hw : Below W.heap.size W W1) : IsS53 w0 W1 g f0 f1 f2 f3 := h.grown (grown_of_below hw none) (by simp)
theorem IsS53.alloc {w0 W : World} {g : Nat} {f0 : Int} {f1 : Int} {f2 : Int} {f3 : Int} (h : IsS53 w0 W g f0 f1 f2 f3) (o : Obj) : IsS53 w0 (W.alloc o) g f0 f1 f2 f3 := h.below (below_alloc (Below.refl _ _) o)
theorem IsS53.drewN {w0 W : World} {g : Nat} {f0 : Int} {f1 : Int} {f2 : Int} {f3 : Int} (h : IsS53 w0 W g f0 f1 f2 f3) (m : Nat) : IsS53 w0 (W.drewN m) g f0 f1 f2 f3 := h
theorem IsS53.drew {w0 W : World} {g : Nat} {f0 : Int} {f1 : Int} {f2 : Int} {f3 : Int} (h : IsS53 w0 W g f0 f1 f2 f3) : IsS53 w0 W.drew g f0 f1 f2 f3 := h
theorem IsS53.at_ {w0 W : World} {g : Nat} {f0 : Int} {f1 : Int} {f2 : Int} {f3 : Int} {w' : World} {m : Nat} (hq : W.drewN m = w') (h : IsS53 w0 W g f0 f1 f2 f3) : IsS53 w0 w' g f0 f1 f2 f3 := by subst hq; exact IsS53.drewN h m
theorem IsS53.apart {w0 W : World} {g : Nat} {f0 : Int} {f1 : Int} {f2 : Int} {f3 : Int} {α : Type} {d : Kd α} {e : Nat} {base : Nat} {ok : Nat → Prop} {v : Value} {xs : List α} (h : IsS53 w0 W g f0 f1 f2 f3) (ho : d.R e W base ok v xs) (ht : ∀ q, q ∈ e :: d.E → q ≠ 53) : d.R e W base (fun k => ok k ∧ k ≠ g) v xs := by
  obtain ⟨hb, hg⟩ := h
  exact Kd.R_types ho hb ht
theorem IsS53.own_ne {w0 W : World} {g : Nat} {f0 : Int} {f1 : Int} {f2 : Int} {f3 : Int} {α : Type} {d : Kd α} {e : Nat} {base : Nat} {ok : Nat → Prop} {v : Value} {xs : List α} (h : IsS53 w0 W g f0 f1 f2 f3) (ho : d.R e W base ok v xs) (ht : e ≠ 53) : some g ≠ v.ownBlock := by
  obtain ⟨hb, hg⟩ := h
  exact Kd.R_ne ho hb ht
theorem IsS53.apartQ {w0 W : World} {g : Nat} {f0 : Int} {f1 : Int} {f2 : Int} {f3 : Int} {α : Type} {d : Kd α} {e : Nat} {base : Nat} {ok : Nat → Prop} {v : Value} {xs : List α} (h : IsS53 w0 W g f0 f1 f2 f3) (ho : d.Q e W base ok v xs) (ht : ∀ q, q ∈ e :: d.E → q ≠ 53) : d.Q e W base (fun k => ok k ∧ k ≠ g) v xs := by
  obtain ⟨hb, hg⟩ := h
  exact Kd.Q_types ho hb ht
theorem IsS53.own_neQ {w0 W : World} {g : Nat} {f0 : Int} {f1 : Int} {f2 : Int} {f3 : Int} {α : Type} {d : Kd α} {e : Nat} {base : Nat} {ok : Nat → Prop} {v : Value} {xs : List α} (h : IsS53 w0 W g f0 f1 f2 f3) (ho : d.Q e W base ok v xs) (ht : e ≠ 53) : some g ≠ v.ownBlock := by
  obtain ⟨hb, hg⟩ := h
  exact Kd.Q_ne ho hb ht
theorem IsS53.apartS {w0 W : World} {g : Nat} {f0 : Int} {f1 : Int} {f2 : Int} {f3 : Int} {α : Type} {d : Kd α} {e : Nat} {base : Nat} {ok : Nat → Prop} {v : Value} {xs : List α} (h : IsS53 w0 W g f0 f1 f2 f3) (ho : d.S e W base ok v xs) (ht : ∀ q, q ∈ e :: d.E → q ≠ 53) : d.S e W base (fun k => ok k ∧ k ≠ g) v xs := by
  obtain ⟨hb, hg⟩ := h
  exact Kd.S_types ho hb ht
theorem IsS53.own_neS {w0 W : World} {g : Nat} {f0 : Int} {f1 : Int} {f2 : Int} {f3 : Int} {α : Type} {d : Kd α} {e : Nat} {base : Nat} {ok : Nat → Prop} {v : Value} {xs : List α} (h : IsS53 w0 W g f0 f1 f2 f3) (ho : d.S e W base ok v xs) (ht : e ≠ 53) : some g ≠ v.ownBlock := by
  obtain ⟨hb, hg⟩ := h
  exact Kd.S_ne ho hb ht
theorem IsS53.lt {w0 W : World} {g : Nat} {f0 : Int} {f1 : Int} {f2 : Int} {f3 : Int} (h : IsS53 w0 W g f0 f1 f2 f3) : g < W.heap.size := by
  obtain ⟨hb, hg⟩ := h
  exact blk_lt hb
theorem IsS53.ge {w0 W : World} {g : Nat} {f0 : Int} {f1 : Int} {f2 : Int} {f3 : Int} (h : IsS53 w0 W g f0 f1 f2 f3) : w0.heap.size ≤ g := by
  obtain ⟨hb, hg⟩ := h
  exact hg
theorem IsS53.ne_blk {w0 W : World} {g : Nat} {f0 : Int} {f1 : Int} {f2 : Int} {f3 : Int} {a : Nat} {cs : Array Value} {t : TypeId} {fr : Nat × Nat} (h : IsS53 w0 W g f0 f1 f2 f3) (hb2 : W.heap[a]? = some (.cells cs t fr)) (ht : t ≠ 53) : g ≠ a := by
  obtain ⟨hb, hg⟩ := h
  rintro rfl
  rw [hb] at hb2
  injection hb2 with hb2
  injection hb2 with _ ht2
  exact ht ht2.symm
theorem IsS53.far {w0 W : World} {g : Nat} {f0 : Int} {f1 : Int} {f2 : Int} {f3 : Int} {p : Addr} (h : IsS53 w0 W g f0 f1 f2 f3) (hne : g ≠ p.block) (u : Value) : IsS53 w0 (W.setCell p u) g f0 f1 f2 f3 := by
  obtain ⟨hb, hg⟩ := h
  exact ⟨blk_far hb hne u, hg⟩
theorem cellS53_0 {W : World} {g : Nat} {f0 : Int} {f1 : Int} {f2 : Int} {f3 : Int} (h : W.heap[g]? = some (.cells #[.int .u8 f0, .int .i32 f1, .int .i64 f2, .int .i64 f3] 53 (0, 0))) : W.cell? ⟨g, 0, none⟩ = some (.int .u8 f0) := (blk_cell h 0).trans rfl
theorem IsS53.set_0 {w0 W : World} {g : Nat} {f0 : Int} {f1 : Int} {f2 : Int} {f3 : Int} (h : IsS53 w0 W g f0 f1 f2 f3) (x : Int) : IsS53 w0 (W.setCell ⟨g, 0, none⟩ (.int .u8 x)) g x f1 f2 f3 := by
  obtain ⟨hb, hg⟩ := h
  exact ⟨by simpa using blk_set hb 0 (.int .u8 x), hg⟩
theorem cellS53_1 {W : World} {g : Nat} {f0 : Int} {f1 : Int} {f2 : Int} {f3 : Int} (h : W.heap[g]? = some (.cells #[.int .u8 f0, .int .i32 f1, .int .i64 f2, .int .i64 f3] 53 (0, 0))) : W.cell? ⟨g, 1, none⟩ = some (.int .i32 f1) := (blk_cell h 1).trans rfl
theorem IsS53.set_1 {w0 W : World} {g : Nat} {f0 : Int} {f1 : Int} {f2 : Int} {f3 : Int} (h : IsS53 w0 W g f0 f1 f2 f3) (x : Int) : IsS53 w0 (W.setCell ⟨g, 1, none⟩ (.int .i32 x)) g f0 x f2 f3 := by
  obtain ⟨hb, hg⟩ := h
  exact ⟨by simpa using blk_set hb 1 (.int .i32 x), hg⟩
theorem cellS53_2 {W : World} {g : Nat} {f0 : Int} {f1 : Int} {f2 : Int} {f3 : Int} (h : W.heap[g]? = some (.cells #[.int .u8 f0, .int .i32 f1, .int .i64 f2, .int .i64 f3] 53 (0, 0))) : W.cell? ⟨g, 2, none⟩ = some (.int .i64 f2) := (blk_cell h 2).trans rfl
theorem IsS53.set_2 {w0 W : World} {g : Nat} {f0 : Int} {f1 : Int} {f2 : Int} {f3 : Int} (h : IsS53 w0 W g f0 f1 f2 f3) (x : Int) : IsS53 w0 (W.setCell ⟨g, 2, none⟩ (.int .i64 x)) g f0 f1 x f3 := by
  obtain ⟨hb, hg⟩ := h
  exact ⟨by simpa using blk_set hb 2 (.int .i64 x), hg⟩
theorem cellS53_3 {W : World} {g : Nat} {f0 : Int} {f1 : Int} {f2 : Int} {f3 : Int} (h : W.heap[g]? = some (.cells #[.int .u8 f0, .int .i32 f1, .int .i64 f2, .int .i64 f3] 53 (0, 0))) : W.cell? ⟨g, 3, none⟩ = some (.int .i64 f3) := (blk_cell h 3).trans rfl
theorem IsS53.set_3 {w0 W : World} {g : Nat} {f0 : Int} {f1 : Int} {f2 : Int} {f3 : Int} (h : IsS53 w0 W g f0 f1 f2 f3) (x : Int) : IsS53 w0 (W.setCell ⟨g, 3, none⟩ (.int .i64 x)) g f0 f1 f2 x := by
  obtain ⟨hb, hg⟩ := h
  exact ⟨by simpa using blk_set hb 3 (.int .i64 x), hg⟩
theorem IsS53.new (w0 W : World) (f0 : Int) (f1 : Int) (f2 : Int) (f3 : Int) (hB : Below w0.heap.size w0 W) : IsS53 w0 (W.alloc (.cells #[.int .u8 f0, .int .i32 f1, .int .i64 f2, .int .i64 f3] 53)) W.heap.size f0 f1 f2 f3 := ⟨by simpa using heap_alloc_new W _, hB.size⟩

/-! ### utf8_New: function 20 -/
def utf8_New.f  : Option (Int × Int × Int × Int) := some (0, 0, 0, 0)
set_option maxHeartbeats 8000000 in
set_option maxRecDepth 100000 in
theorem utf8_New.calls  (r1 : Int) (r2 : Int) (r3 : Int) (r4 : Int) (w0 w : World) (hB : Below w0.heap.size w0 w) (h : utf8_New.f  = some (r1, r2, r3, r4)) :
    Calls Try.prog 20 #[] w fun e w' => ∃ g_ : Nat, e = .returned (.pointer (some ⟨g_, 0, none⟩)) ∧ IsS53 w0 w' g_ r1 r2 r3 r4 ∧ Below w0.heap.size w0 w' ∧ Below w.heap.size w w' := by
  have hu53 := Try.underlying53
  have HBW := Aside0.mk (Below.refl w.heap.size w)
  have HW0 := Aside0.mk hB.size
  have HB := Aside0.mk hB
  clear hB
  have H : (some (0, 0, 0, 0)) = some (r1, r2, r3, r4) := h
  clear h
  simp only [Option.some.injEq, Prod.mk.injEq] at H
  obtain ⟨rfl, rfl, rfl, rfl⟩ := H
  go_enter Try.func20, Try.ntmps20
  go_wp2_with (first | ((with_reducible refine gate_dst (N := 2) rfl ?_); refine box_event ?hg (N := 2) ?hd (cs := #[.int .u8 0, .int .i32 0, .int .i64 0, .int .i64 0]) (t := 53) ?hr ?_; (case hd => rfl); (case hg => rfl); (case hr => first | (go_simp; done) | (go_simp; rfl)); intro gb101 hg w1 hbox hb; have n0_ := Aside0.mk (below_step HBW.out hb); have n1_ := Aside0.mk (below_step (by repeat (first | (with_reducible first | exact HB.out | apply below_alloc | apply pw_below_drewN | apply below_drew1) | exact HB.out)) hb); have n2_ := Aside0.mk (hbox); have n3_ := Aside0.mk ((by rw [hg]; exact (below_size (by repeat (first | (with_reducible first | exact HBW.out | apply below_alloc | apply pw_below_drewN | apply below_drew1) | exact HBW.out))) : w.heap.size ≤ gb101)); have n4_ := Aside0.mk ((Nat.le_trans HW0.out (by rw [hg]; exact (below_size (by repeat (first | (with_reducible first | exact HBW.out | apply below_alloc | apply pw_below_drewN | apply below_drew1) | exact HBW.out))) : w.heap.size ≤ gb101) : w0.heap.size ≤ gb101)); clear HBW; clear HB; have HBW := n0_; have HB := n1_; have BK101 := n2_; have GW101 := n3_; have GE101 := n4_; clear n0_ n1_ n2_ n3_ n4_; clear hb hbox hg))
  go_ret
  exact ⟨_, rfl, (show IsS53 w0 _ gb101 0 0 0 0 from ⟨by (with_reducible repeat (first | refine blk_drewN ?_ _ | refine blk_drew ?_ | refine blk_alloc ?_ _)); exact BK101.out, GE101.out⟩), by repeat (first | (with_reducible first | exact HB.out | apply below_alloc | apply pw_below_drewN | apply below_drew1 | refine below_set ?_ GE101.out) | exact HB.out), by repeat (first | (with_reducible first | exact HBW.out | apply below_alloc | apply pw_below_drewN | apply below_drew1 | refine below_set ?_ GW101.out) | exact HBW.out)⟩

/-! ### utf8_size: function 29 -/
/-- Of how many bytes a scalar is that begins so. -/
def sizeV (x : Int) : Int := if x < 128 then 1 else if x < 194 then 0 else if x < 224 then 2 else if x < 240 then 3 else if x < 245 then 4 else 0
def utf8_size.f (a0 : Int) : Option (Int) := if 0 ≤ a0 ∧ a0 ≤ 255 then some (sizeV a0) else none
theorem utf8_size.table (a0 : Int) (h0 : 0 ≤ a0) (h1 : a0 ≤ 244) (h2 : a0 ≠ 192) (h3 : a0 ≠ 193) :
    ([.int .i64 1, .int .i64 1, .int .i64 1, .int .i64 1, .int .i64 1, .int .i64 1, .int .i64 1, .int .i64 1, .int .i64 1, .int .i64 1, .int .i64 1, .int .i64 1, .int .i64 1, .int .i64 1, .int .i64 1, .int .i64 1, .int .i64 0, .int .i64 0, .int .i64 0, .int .i64 0, .int .i64 0, .int .i64 0, .int .i64 0, .int .i64 0, .int .i64 2, .int .i64 2, .int .i64 2, .int .i64 2, .int .i64 3, .int .i64 3, .int .i64 4, .int .i64 0] : List Value)[(a0 / 8).toNat]? = some (.int .i64 (sizeV a0)) := by
  obtain ⟨j, hj⟩ : ∃ j, j = (a0 / 8).toNat := ⟨_, rfl⟩
  rw [← hj]
  have hs : sizeV a0 = if j < 16 then 1 else if j < 24 then 0 else if j < 28 then 2 else if j < 30 then 3 else 4 := by
    unfold sizeV
    (repeat' split) <;> first | rfl | (exfalso; omega)
  rw [hs]
  have hlt : j < 31 := by omega
  clear hs hj
  match j, hlt with
  | 0, _ => rfl
  | 1, _ => rfl
  | 2, _ => rfl
  | 3, _ => rfl
  | 4, _ => rfl
  | 5, _ => rfl
  | 6, _ => rfl
  | 7, _ => rfl
  | 8, _ => rfl
  | 9, _ => rfl
  | 10, _ => rfl
  | 11, _ => rfl
  | 12, _ => rfl
  | 13, _ => rfl
  | 14, _ => rfl
  | 15, _ => rfl
  | 16, _ => rfl
  | 17, _ => rfl
  | 18, _ => rfl
  | 19, _ => rfl
  | 20, _ => rfl
  | 21, _ => rfl
  | 22, _ => rfl
  | 23, _ => rfl
  | 24, _ => rfl
  | 25, _ => rfl
  | 26, _ => rfl
  | 27, _ => rfl
  | 28, _ => rfl
  | 29, _ => rfl
  | 30, _ => rfl
  | n + 31, h => exact absurd h (by omega)
theorem below_setRow {B : Nat} {w W : World} (h : Below B w W) (g : Nat) (cs : Array Value) (hg : B ≤ g) : Below B w (W.setRow g cs) :=
  ⟨h.os, h.tape, h.output, by rw [size_setRow]; exact h.size, fun i hi => (setRow_other W g i cs (by omega)).trans (h.block i hi)⟩
section
variable {P : Program} {ops : Array Oper} {rest : List Oper} {o : Oper} {a : Act} {Q : Exit → Act → World → Prop} {W : World}
theorem gate_build_ {t : TypeId} {xs : Array (Nat × Operand)} (_ho : o.op = .build t xs) (h : wpList P ops Q (o :: rest) a W) : wpList P ops Q (o :: rest) a W := h
theorem wpList_build_is_ (hg : o.guard = none) (t : TypeId) (parts : Array (Nat × Operand)) (ho : o.op = .build t parts) (cells : Array Value)
    (hf : P.built t (parts.map fun (i, x) => (i, a.eval x)).toList = some cells) (h : wpList P ops Q rest (a.put o.dst (.agg cells)) W) : wpList P ops Q (o :: rest) a W :=
  wpList_build hg t parts ho (by rw [hf]; rfl) (by rw [hf]; exact h)
end
set_option maxHeartbeats 8000000 in
set_option maxRecDepth 100000 in
theorem utf8_size.calls3 (a0 : Int) (w : World) (h0 : 0 ≤ a0) (h1 : a0 ≤ 255) (c1b : (a0 == 192) = false) (c2b : (a0 == 193) = false) (c3b : decide (244 < a0) = false) (hi : ([.int .i64 1, .int .i64 1, .int .i64 1, .int .i64 1, .int .i64 1, .int .i64 1, .int .i64 1, .int .i64 1, .int .i64 1, .int .i64 1, .int .i64 1, .int .i64 1, .int .i64 1, .int .i64 1, .int .i64 1, .int .i64 1, .int .i64 0, .int .i64 0, .int .i64 0, .int .i64 0, .int .i64 0, .int .i64 0, .int .i64 0, .int .i64 0, .int .i64 2, .int .i64 2, .int .i64 2, .int .i64 2, .int .i64 3, .int .i64 3, .int .i64 4, .int .i64 0] : List Value)[(a0 / 8).toNat]? = some (.int .i64 (sizeV a0))) :
    Calls Try.prog 29 #[.int .u8 a0] w fun e w' => e = .returned (.int .i64 (sizeV a0)) ∧ Below w.heap.size w w' := by
        have HI := Aside0.mk hi
        clear hi
        go_enter Try.func29, Try.ntmps29
        go_wp2_with (first | ((with_reducible refine gate_build_ (t := 62) rfl ?_); refine wpList_build_is_ rfl 62 _ rfl (#[.int .i64 1, .int .i64 1, .int .i64 1, .int .i64 1, .int .i64 1, .int .i64 1, .int .i64 1, .int .i64 1, .int .i64 1, .int .i64 1, .int .i64 1, .int .i64 1, .int .i64 1, .int .i64 1, .int .i64 1, .int .i64 1, .int .i64 0, .int .i64 0, .int .i64 0, .int .i64 0, .int .i64 0, .int .i64 0, .int .i64 0, .int .i64 0, .int .i64 2, .int .i64 2, .int .i64 2, .int .i64 2, .int .i64 3, .int .i64 3, .int .i64 4, .int .i64 0]) (by kernel_rfl) ?_) | ((with_reducible refine gate_store (t := 62) rfl ?_); refine wpList_store_row ?hg 62 (.tmp 3) (.tmp 14) ?ho w.heap.size (#[.int .i64 1, .int .i64 1, .int .i64 1, .int .i64 1, .int .i64 1, .int .i64 1, .int .i64 1, .int .i64 1, .int .i64 1, .int .i64 1, .int .i64 1, .int .i64 1, .int .i64 1, .int .i64 1, .int .i64 1, .int .i64 1, .int .i64 0, .int .i64 0, .int .i64 0, .int .i64 0, .int .i64 0, .int .i64 0, .int .i64 0, .int .i64 0, .int .i64 2, .int .i64 2, .int .i64 2, .int .i64 2, .int .i64 3, .int .i64 3, .int .i64 4, .int .i64 0]) ?hx ?hy 62 ?old ?hb ?hi ?hl ?h1 ?hn; (case hg => rfl); (case ho => rfl); (case hx => rfl); (case hy => rfl); (case hb => exact heap_alloc_new w _); (case hi => kernel_rfl); (case hl => rfl); (case h1 => kernel_rfl); (obtain ⟨W, hW⟩ : ∃ W, W = (w.alloc (.cells #[.int .i64 0, .int .i64 0, .int .i64 0, .int .i64 0, .int .i64 0, .int .i64 0, .int .i64 0, .int .i64 0, .int .i64 0, .int .i64 0, .int .i64 0, .int .i64 0, .int .i64 0, .int .i64 0, .int .i64 0, .int .i64 0, .int .i64 0, .int .i64 0, .int .i64 0, .int .i64 0, .int .i64 0, .int .i64 0, .int .i64 0, .int .i64 0, .int .i64 0, .int .i64 0, .int .i64 0, .int .i64 0, .int .i64 0, .int .i64 0, .int .i64 0, .int .i64 0] 62)).setRow w.heap.size (#[.int .i64 1, .int .i64 1, .int .i64 1, .int .i64 1, .int .i64 1, .int .i64 1, .int .i64 1, .int .i64 1, .int .i64 1, .int .i64 1, .int .i64 1, .int .i64 1, .int .i64 1, .int .i64 1, .int .i64 1, .int .i64 1, .int .i64 0, .int .i64 0, .int .i64 0, .int .i64 0, .int .i64 0, .int .i64 0, .int .i64 0, .int .i64 0, .int .i64 2, .int .i64 2, .int .i64 2, .int .i64 2, .int .i64 3, .int .i64 3, .int .i64 4, .int .i64 0]) := ⟨_, rfl⟩); (have hb : Below w.heap.size w W := by rw [hW]; exact below_setRow ((Below.refl _ _).alloc (Nat.le_refl _) _) _ _ (Nat.le_refl _)); (have hc : W.cell? ⟨w.heap.size, (a0 / 8).toNat, none⟩ = some (.int .i64 (sizeV a0)) := by rw [hW, cell_of_row _ _ _ _ _ _ (setRow_heap _ _ _ _ _ _ (heap_alloc_new w _))]; simpa using HI.out); rw [← hW]; clear hW))
        go_ret
        exact ⟨rfl, hb⟩
set_option maxHeartbeats 8000000 in
set_option maxRecDepth 100000 in
theorem utf8_size.calls (a0 : Int) (r : Int) (w : World) (h : utf8_size.f a0 = some r) :
    Calls Try.prog 29 #[.int .u8 a0] w fun e w' => e = .returned (.int .i64 r) ∧ Below w.heap.size w w' := by
  unfold utf8_size.f at h
  split at h
  case isFalse => cases h
  case isTrue hh =>
  obtain rfl := Option.some.inj h
  obtain ⟨h0, h1⟩ := hh
  clear h
  by_cases c1 : a0 = 192
  · subst c1
    go_enter Try.func29, Try.ntmps29
    go_wp2
    go_ret
    exact ⟨rfl, Below.refl _ _⟩
  · by_cases c2 : a0 = 193
    · subst c2
      go_enter Try.func29, Try.ntmps29
      go_wp2
      go_ret
      exact ⟨rfl, Below.refl _ _⟩
    · have c1b : (a0 == 192) = false := by simpa using c1
      have c2b : (a0 == 193) = false := by simpa using c2
      by_cases c3 : 244 < a0
      · have e : sizeV a0 = 0 := by unfold sizeV; (repeat' split) <;> first | rfl | (exfalso; omega)
        rw [e]
        clear e c1 c2
        have c3b : decide (244 < a0) = true := decide_eq_true c3
        go_enter Try.func29, Try.ntmps29
        go_wp2
        go_ret
        exact ⟨rfl, Below.refl _ _⟩
      · have c3b : decide (244 < a0) = false := decide_eq_false c3
        exact utf8_size.calls3 a0 w h0 h1 c1b c2b c3b (utf8_size.table a0 h0 (by omega) c1 c2)

/-! ### utf8_second: function 30 -/
def utf8_second.f (a0 : Int) (a1 : Int) : Option (Bool) := if a0 < 224 then (if a1 ≥ 128 then (some (decide (a1 ≤ 191))) else (some false)) else (if 0 ≤ ((a0 - 224) % 256) then (if ((a0 - 224) % 256) < 21 then (if a1 ≥ (bt (⟨#[160, 128, 128, 128, 128, 128, 128, 128, 128, 128, 128, 128, 128, 128, 128, 128, 144, 128, 128, 128, 128]⟩ : ByteArray) ((a0 - 224) % 256)) then (some (decide (a1 ≤ (bt (⟨#[191, 191, 191, 191, 191, 191, 191, 191, 191, 191, 191, 191, 191, 159, 191, 191, 191, 191, 191, 191, 143]⟩ : ByteArray) ((a0 - 224) % 256))))) else (some false)) else (none)) else (none))
set_option maxHeartbeats 8000000 in
set_option maxRecDepth 100000 in
theorem utf8_second.calls (a0 : Int) (a1 : Int) (r : Bool) (w : World) (h : utf8_second.f a0 a1 = some r) :
    Calls Try.prog 30 #[.int .u8 a0, .int .u8 a1] w fun e w' => e = .returned (.bool r) ∧ Drawn0 w w' := by
  have H : (if a0 < 224 then (if a1 ≥ 128 then (some (decide (a1 ≤ 191))) else (some false)) else (if 0 ≤ ((a0 - 224) % 256) then (if ((a0 - 224) % 256) < 21 then (if a1 ≥ (bt (⟨#[160, 128, 128, 128, 128, 128, 128, 128, 128, 128, 128, 128, 128, 128, 128, 128, 144, 128, 128, 128, 128]⟩ : ByteArray) ((a0 - 224) % 256)) then (some (decide (a1 ≤ (bt (⟨#[191, 191, 191, 191, 191, 191, 191, 191, 191, 191, 191, 191, 191, 159, 191, 191, 191, 191, 191, 191, 143]⟩ : ByteArray) ((a0 - 224) % 256))))) else (some false)) else (none)) else (none))) = some r := h
  clear h
  by_cases c3 : a0 < 224
  · rw [if_pos c3] at H
    have c3b0 : decide (a0 < 224) = true := decide_eq_true c3
    clear c3
    by_cases c4 : a1 ≥ 128
    · rw [if_pos c4] at H
      have c4b0 : decide (128 ≤ a1) = true := decide_eq_true c4
      clear c4
      obtain rfl := Option.some.inj H
      go_enter Try.func30, Try.ntmps30
      go_wp2
      go_ret
      exact ⟨by first | rfl | (simp; done) | (simp [*]; done), by repeat (first | exact Drawn0.refl _ | apply Drawn0.step)⟩
    · rw [if_neg c4] at H
      have c4b0 : decide (128 ≤ a1) = false := decide_eq_false c4
      clear c4
      obtain rfl := Option.some.inj H
      go_enter Try.func30, Try.ntmps30
      go_wp2
      go_ret
      exact ⟨by first | rfl | (simp; done) | (simp [*]; done), by repeat (first | exact Drawn0.refl _ | apply Drawn0.step)⟩
  · rw [if_neg c3] at H
    have c3b0 : decide (a0 < 224) = false := decide_eq_false c3
    clear c3
    obtain ⟨ji5, hji5⟩ : ∃ j_ : Int, ((a0 - 224) % 256) = j_ := ⟨_, rfl⟩
    replace H : (if 0 ≤ (ji5) then (if (ji5) < 21 then (if a1 ≥ (bt (⟨#[160, 128, 128, 128, 128, 128, 128, 128, 128, 128, 128, 128, 128, 128, 128, 128, 144, 128, 128, 128, 128]⟩ : ByteArray) (ji5)) then (some (decide (a1 ≤ (bt (⟨#[191, 191, 191, 191, 191, 191, 191, 191, 191, 191, 191, 191, 191, 159, 191, 191, 191, 191, 191, 191, 143]⟩ : ByteArray) (ji5))))) else (some false)) else (none)) else (none)) = some r := by first | (rw [hji5] at H; exact H) | (simp only [hji5] at H ⊢; exact H)
    by_cases c6 : 0 ≤ (ji5)
    · rw [if_pos c6] at H
      have c6b0 : decide (0 ≤ (ji5)) = true := decide_eq_true c6
      clear c6
      by_cases c7 : (ji5) < 21
      · rw [if_pos c7] at H
        have c7b0 : decide ((ji5) < 21) = true := decide_eq_true c7
        clear c7
        by_cases c9 : a1 ≥ (bt (⟨#[160, 128, 128, 128, 128, 128, 128, 128, 128, 128, 128, 128, 128, 128, 128, 128, 144, 128, 128, 128, 128]⟩ : ByteArray) (ji5))
        · rw [if_pos c9] at H
          have c9b0 : decide ((bt (⟨#[160, 128, 128, 128, 128, 128, 128, 128, 128, 128, 128, 128, 128, 128, 128, 128, 144, 128, 128, 128, 128]⟩ : ByteArray) (ji5)) ≤ a1) = true := decide_eq_true c9
          clear c9
          obtain rfl := Option.some.inj H
          have p8 : 0 ≤ ((ji5) : Int) := of_decide_eq_true (by first | (with_reducible assumption) | assumption)
          have q8 : (ji5) < (21 : Int) := of_decide_eq_true (by first | (with_reducible assumption) | assumption)
          have hx8 := bt_at (⟨#[160, 128, 128, 128, 128, 128, 128, 128, 128, 128, 128, 128, 128, 128, 128, 128, 144, 128, 128, 128, 128]⟩ : ByteArray) (ji5)
          replace p8 := eq_true p8
          replace q8 := eq_true q8
          have p10 : 0 ≤ ((ji5) : Int) := of_decide_eq_true (by first | (with_reducible assumption) | assumption)
          have q10 : (ji5) < (21 : Int) := of_decide_eq_true (by first | (with_reducible assumption) | assumption)
          have hx10 := bt_at (⟨#[191, 191, 191, 191, 191, 191, 191, 191, 191, 191, 191, 191, 191, 159, 191, 191, 191, 191, 191, 191, 143]⟩ : ByteArray) (ji5)
          replace p10 := eq_true p10
          replace q10 := eq_true q10
          go_enter Try.func30, Try.ntmps30
          go_wp2
          go_ret
          exact ⟨by first | rfl | (simp; done) | (simp only [← hji5] <;> (first | rfl | simp)) | (simp [*]; done), by repeat (first | exact Drawn0.refl _ | apply Drawn0.step)⟩
        · rw [if_neg c9] at H
          have c9b0 : decide ((bt (⟨#[160, 128, 128, 128, 128, 128, 128, 128, 128, 128, 128, 128, 128, 128, 128, 128, 144, 128, 128, 128, 128]⟩ : ByteArray) (ji5)) ≤ a1) = false := decide_eq_false c9
          clear c9
          obtain rfl := Option.some.inj H
          have p8 : 0 ≤ ((ji5) : Int) := of_decide_eq_true (by first | (with_reducible assumption) | assumption)
          have q8 : (ji5) < (21 : Int) := of_decide_eq_true (by first | (with_reducible assumption) | assumption)
          have hx8 := bt_at (⟨#[160, 128, 128, 128, 128, 128, 128, 128, 128, 128, 128, 128, 128, 128, 128, 128, 144, 128, 128, 128, 128]⟩ : ByteArray) (ji5)
          replace p8 := eq_true p8
          replace q8 := eq_true q8
          go_enter Try.func30, Try.ntmps30
          go_wp2
          go_ret
          exact ⟨by first | rfl | (simp; done) | (simp only [← hji5] <;> (first | rfl | simp)) | (simp [*]; done), by repeat (first | exact Drawn0.refl _ | apply Drawn0.step)⟩
      · rw [if_neg c7] at H
        exact absurd H (by simp)
    · rw [if_neg c6] at H
      exact absurd H (by simp)

end Go.Proofs.Ytoalfgmnikbpaaa.PAll
