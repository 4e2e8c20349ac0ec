/- What calls keep, and rows that are appended to. -/
import Derived.Test.YtajinnlaajhoeaaPAllx0
namespace Go.Proofs.Ytajinnlaajhoeaa.Pure
open Go.RowKit Go.Proofs.Ytajinnlaajhoeaa.PAll Go.Proofs.YtajinnlaajhoeaaW.PrintWords Go.Proofs.YtajinnlaajhoeaaW.PrintLast Go.Proofs.YtajinnlaajhoeaaW.PrintMore
set_option linter.unusedVariables false
set_option linter.unusedSimpArgs false

/-! ### What a call keeps: all blocks that were there, but those of S -/
structure Keeps (S : Nat → Prop) (w W : World) : Prop where
  os : W.os = w.os
  tape : W.tape = w.tape
  output : W.output = w.output
  size : w.heap.size ≤ W.heap.size
  block : ∀ k, k < w.heap.size → ¬ S k → W.heap[k]? = w.heap[k]?
/-- The blocks that W has beyond w. -/
def News (w W : World) (k : Nat) : Prop := w.heap.size ≤ k ∧ k < W.heap.size
namespace Keeps
variable {S S2 : Nat → Prop} {w W W2 : World} {B : Nat}
theorem refl (S : Nat → Prop) (w : World) : Keeps S w w := ⟨rfl, rfl, rfl, Nat.le_refl _, fun _ _ _ => rfl⟩
theorem of_below (h : Below w.heap.size w W) (S : Nat → Prop) : Keeps S w W := ⟨h.os, h.tape, h.output, h.size, fun k hk _ => h.block k hk⟩
theorem mono (h : Keeps S w W) (hs : ∀ k, S k → S2 k) : Keeps S2 w W := ⟨h.os, h.tape, h.output, h.size, fun k hk hn => h.block k hk (fun hS => hn (hs k hS))⟩
theorem trans (h : Keeps S w W) (k : Keeps S2 W W2) (hs : ∀ k, S2 k → S k ∨ w.heap.size ≤ k) : Keeps S w W2 :=
  ⟨k.os.trans h.os, k.tape.trans h.tape, k.output.trans h.output, Nat.le_trans h.size k.size, fun i hi hn =>
    (k.block i (Nat.lt_of_lt_of_le hi h.size) (fun hS => (hs i hS).elim hn (fun h1 => by omega))).trans (h.block i hi hn)⟩
theorem alloc (h : Keeps S w W) (o : Obj) : Keeps S w (W.alloc o) := h.trans (of_below ((Below.refl _ _).alloc (Nat.le_refl _) o) (fun _ => False)) (fun _ hk => hk.elim)
theorem below_ (h : Keeps S w W) (hb : Below W.heap.size W W2) : Keeps S w W2 := h.trans (of_below hb (fun _ => False)) (fun _ hk => hk.elim)
theorem drew (h : Keeps S w W) : Keeps S w W.drew := ⟨h.os, h.tape, h.output, h.size, h.block⟩
theorem drewN (h : Keeps S w W) (m : Nat) : Keeps S w (W.drewN m) := ⟨h.os, h.tape, h.output, h.size, h.block⟩
theorem setCell (h : Keeps S w W) {p : Addr} (hp : S p.block ∨ w.heap.size ≤ p.block) (u : Value) : Keeps S w (W.setCell p u) :=
  ⟨h.os, h.tape, h.output, by simpa [World.setCell] using h.size, fun i hi hn => (Below.heap_setCell W p u i (by
    rintro rfl
    rcases hp with hp | hp
    · exact hn hp
    · omega)).trans (h.block i hi hn)⟩
theorem at_ {p : Nat} (h : Keeps S w W) (hp : S p) (i : Nat) (u : Value) : Keeps S w (W.setCell ⟨p, i, none⟩ u) := setCell (p := ⟨p, i, none⟩) h (.inl hp) u
theorem grown {row : Option Nat} (h : Keeps S w W) (hg : W.grownBy W2 row) (hr : ∀ k, row = some k → S k ∨ w.heap.size ≤ k) : Keeps S w W2 :=
  ⟨hg.os.trans h.os, hg.tape.trans h.tape, hg.output.trans h.output, Nat.le_trans h.size hg.size, fun i hi hn =>
    (hg.block i (Nat.lt_of_lt_of_le hi h.size) (fun e => (hr i e.symm).elim hn (fun h1 => by omega))).trans (h.block i hi hn)⟩
theorem below (h : Keeps S w W) (hs : ∀ k, S k → B ≤ k) (hB : B ≤ w.heap.size) : Below B w W :=
  ⟨h.os, h.tape, h.output, h.size, fun k hk => h.block k (by omega) (fun hS => by have := hs k hS; omega)⟩
theorem blk {g : Nat} {o : Obj} (h : Keeps S w W) (hb : w.heap[g]? = some o) (hn : ¬ S g) : W.heap[g]? = some o := (h.block g (blk_lt hb) hn).trans hb
theorem cell {a : Addr} {v : Value} (h : Keeps S w W) (hc : w.cell? a = some v) (hn : ¬ S a.block) : W.cell? a = some v :=
  (World.cell?_of_block (h.block a.block (World.block_lt_of_cell? w a hc) hn)).trans hc
theorem R {α : Type} {d : Kd α} {e base : Nat} {ok : Nat → Prop} {v : Value} {xs : List α} (h : Keeps S w W) (hr : d.R e w base ok v xs) (hne : ∀ k, ok k → ¬ S k) : d.R e W base ok v xs :=
  Kd.R_step hr (fun k ho hlt => h.block k hlt (hne k ho))
end Keeps

section
variable {P : Program} {ops : Array Oper} {rest : List Oper} {o : Oper} {a : Act} {Q : Exit → Act → World → Prop}
/-- append of a row that is read to a row of the call's own: what it keeps. -/
theorem app_row {α : Type} (enc : α → Value) (d : α) {h1 : ∀ x : α, (enc x).oneCell' = true} {W : World} (base : Nat) (hgd : o.guard = none) (s x : Operand) (t e : TypeId) (z : Value) (bytes : Nat)
    (ho : o.op = .call { callee := .builtin .append, args := #[s, x], argTypes := #[t, t] })
    (ht : P.underlying t = some (.slice e)) (hinfo : (P.info? e).map (fun i => (i.zero, i.size, i.bytes)) = some (some z, 1, bytes)) (hz : z.cells.size = 1) (hb0 : 0 < bytes)
    (v : Value) (xs ys zs : List α) (hzs : xs ++ ys = zs) (A : Option Addr) (m c : Nat) (ok : Nat → Prop) (hs : a.eval s = v) (hx : a.eval x = .slice A m c)
    (HO : (Kd.scalar enc h1).R e W base ok v xs) (HR : (Kd.scalar enc h1).C W A m ys) (hbase : base ≤ W.heap.size) (hl : (xs.length + m) * bytes ≤ 140737488355328)
    (h : ∀ A1 c1 w1, (Kd.scalar enc h1).R e w1 base (fun k => ok k ∨ News W w1 k) (.slice A1 zs.length c1) zs → Keeps (fun k => some k = v.ownBlock) W w1 →
      wpList P ops Q rest (a.put o.dst (.slice A1 zs.length c1)) w1) :
    wpList P ops Q (o :: rest) a W := by
  subst hzs
  refine Kd.R_append_row enc d (h1 := h1) (w0 := W) base hgd s x t e z bytes ho ht hinfo hz hb0 v xs ys A m c (fun k => ok k ∨ W.heap.size ≤ k) hs hx (fun k hk => .inr hk) (Kd.R_mono HO (fun _ hk => .inl hk)) HR (Below.refl _ _) hbase hl ?_
  intro v1 w1 hr hb hg _
  obtain ⟨A1, c1, rfl⟩ := Kd.R_slice hr
  exact h A1 c1 w1 (Kd.R_mono (Kd.R_bound hr) (fun k hk => hk.1.elim .inl (fun hn => .inr ⟨hn, hk.2.2.1⟩))) ((Keeps.refl _ W).grown hg (fun k hk => .inl hk.symm))
end
theorem C_one {α : Type} (enc : α → Value) (d : α) {h1 : ∀ x : α, (enc x).oneCell' = true} (W : World) (e : TypeId) (p : α) : (Kd.scalar enc h1).C (W.alloc (.cells #[enc p] e)) (some ⟨W.heap.size, 0, none⟩) 1 [p] := by
  refine Kd.C_of_reads (d := d) ⟨rfl, by omega, fun _ => ⟨_, rfl, fun j hj => ?_⟩⟩
  obtain rfl : j = 0 := by omega
  rw [show (⟨W.heap.size, 0, none⟩ : Addr).add 0 = ⟨W.heap.size, 0, none⟩ from rfl, World.cell?_alloc_at _ _ _ _ rfl]
  rfl
section
variable {P : Program} {ops : Array Oper} {o : Oper} {a : Act} {Q : Exit → Act → World → Prop} {Kc : Act → World → Prop}
/-- The same at a step of a region that draws its order. -/
theorem app_row_step {α : Type} (enc : α → Value) {h1 : ∀ x : α, (enc x).oneCell' = true} {W : World} (base : Nat) (hw : Region.wanted o (yielded ops a.tmps) = true) (s x : Operand) (t e : TypeId) (z : Value) (bytes : Nat)
    (ho : o.op = .call { callee := .builtin .append, args := #[s, x], argTypes := #[t, t] })
    (ht : P.underlying t = some (.slice e)) (hinfo : (P.info? e).map (fun i => (i.zero, i.size, i.bytes)) = some (some z, 1, bytes)) (hz : z.cells.size = 1) (hb0 : 0 < bytes)
    (v : Value) (xs ys zs : List α) (hzs : xs ++ ys = zs) (A : Option Addr) (m c : Nat) (ok : Nat → Prop) (hs : a.eval s = v) (hx : a.eval x = .slice A m c)
    (HO : (Kd.scalar enc h1).R e W base ok v xs) (HR : (Kd.scalar enc h1).C W A m ys) (hbase : base ≤ W.heap.size) (hl : (xs.length + m) * bytes ≤ 140737488355328)
    (h : ∀ A1 c1 w1, (Kd.scalar enc h1).R e w1 base (fun k => ok k ∨ News W w1 k) (.slice A1 zs.length c1) zs → Keeps (fun k => some k = v.ownBlock) W w1 → Kc (a.put o.dst (.slice A1 zs.length c1)) w1) :
    if Region.wanted o (yielded ops a.tmps) = true then Oper.wp P o a W Kc Q else Kc (a.put o.dst undef) W := by
  subst hzs
  refine Kd.R_append_rows_step (Kd.scalar enc h1) (w0 := W) base hw s x t e z bytes ho ht hinfo hz Nat.one_pos hb0 v xs ys A m c (fun k => ok k ∨ W.heap.size ≤ k) (fun _ => False) hs hx (Kd.R_mono HO (fun _ hk => .inl hk)) HR (fun _ _ h => h) (fun _ h => h.elim) (fun k hk => .inr hk) (Below.refl _ _) hbase hl ?_
  intro v1 w1 hr hb hg _
  obtain ⟨A1, c1, rfl⟩ := Kd.R_slice hr
  exact h A1 c1 w1 (Kd.R_mono (Kd.R_bound hr) (fun k hk => hk.1.elim .inl (fun hn => .inr ⟨hn, hk.2.2.1⟩))) ((Keeps.refl _ W).grown hg (fun k hk => .inl hk.symm))
end

end Go.Proofs.Ytajinnlaajhoeaa.Pure
