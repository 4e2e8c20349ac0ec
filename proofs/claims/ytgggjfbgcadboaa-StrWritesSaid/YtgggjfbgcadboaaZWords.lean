/- Words of this session beside the print's: 'make' with a length of 0 and a capacity of its own. -/
import Derived.Test.YtgggjfbgcadboaaWMore
import Derived.Lib.SlBytesConst
set_option linter.unusedVariables false
set_option linter.unusedSimpArgs false
namespace Go.Proofs.YtgggjfbgcadboaaW.PrintWords
open Go.RowKit
namespace Kd
section
variable {P : Program} {ops : Array Oper} {rest : List Oper} {o : Oper} {a : Act} {Q : Exit → Act → World → Prop} {α : Type}
theorem R_makecap (d : Kd α) {w0 W : World} (base e : Nat) (hgd : o.guard = none) {N : Tmp} (hd : o.dst = some N) (t : TypeId) (x y : Operand) (ho : o.op = .makeSlice t x y) (n : Int) (hx : a.eval x = .int .i64 0) (hy : a.eval y = .int .i64 n)
    (ht : P.underlying t = some (.slice e)) (z : Value) (bytes : Nat) (hinfo : (P.info? e).map (fun i => (i.zero, i.size, i.bytes)) = some (some z, d.sz, bytes)) (hz : z.cells.size = d.sz) (hs0 : 0 < d.sz) (hb0 : 0 < bytes)
    (z0 : α) {ok okp : Nat → Prop} (hzero : d.M W base okp z0 z.cells.toList) (hok : ∀ k, okp k → ok k) (hfresh : ok W.heap.size) (h0 : 0 ≤ n) (hl : n.toNat * bytes ≤ 281474976710656) (HB : Below base w0 W) (hbase : base ≤ W.heap.size)
    (h : ∀ v1 w1, d.R e w1 base ok v1 [] → Below base w0 w1 → W.grownBy w1 none → (∃ b, v1.ownBlock = some b ∧ W.heap.size ≤ b) → wpList P ops Q rest (a.put o.dst v1) w1) : wpList P ops Q (o :: rest) a W := by
  obtain ⟨m, rfl⟩ := Int.eq_ofNat_of_zero_le h0
  simp only [Int.toNat_natCast] at hl h
  obtain ⟨i0, hi, hzz⟩ := Option.map_eq_some_iff.1 hinfo
  simp only [Prod.mk.injEq] at hzz
  obtain ⟨hz0, hz1, hz2⟩ := hzz
  have hm : m ≤ 281474976710656 := Nat.le_trans (Nat.le_mul_of_pos_right _ hb0) hl
  have hr := run_make (P := P) W t e i0 z ht hi hz0 .i64 .i64 0 (m : Int) (by omega) (by omega)
    (by
      have h3 : ((i0.bytes * m : Nat) : Int) ≤ 281474976710656 := by rw [hz2, Nat.mul_comm]; omega
      rwa [Int.natCast_mul] at h3) (by omega)
  simp only [Int.toNat_natCast, Int.toNat_zero] at hr
  rw [hz1] at hr
  have hrun : (execOp a.eval o).run P W = .ok (.value (.slice (some ⟨W.heap.size, 0, none⟩) 0 m)) (W.alloc (.cells (madeCells z.cells (m * d.sz)) e)) := by
    simp [execOp, ho, hx, hy, hr]
  refine wpList_plain hgd fun K hK => ?_
  unfold Oper.wp
  rw [hrun]
  refine hK _ _ (h _ _ ⟨fun k hk => ?_, [], ?_, Reps.none _ _⟩ (HB.alloc hbase _) (World.grownBy_alloc W _ none) ⟨W.heap.size, rfl, Nat.le_refl _⟩)
  · have : W.heap.size = k := by simpa [Value.ownBlock] using hk
    subst this
    exact hfresh
  · exact World.ownsRow_made W (madeCells z.cells (m * d.sz)) m hbase (by simp only [maxLen]; omega) (by simp [size_madeCells, hz])
/-- '[]byte("..")' of a constant: the literal's row, and the conversion to its own type, which marks it: it is only read from then on. -/
theorem V_litconv {w0 W : World} (base e : Nat) (hgd : o.guard = none) {o2 : Oper} {N N2 : Tmp} (hd : o.dst = some N) {xs : List Int} {inner : List Value} {ok : Nat → Prop}
    (hrun : (execOp a.eval o).run P W = .ok (.value (.slice (some ⟨W.heap.size, 0, none⟩) xs.length xs.length)) (W.alloc (.cells inner.toArray e)))
    (hin : inner = xs.map fun x => .int .u8 x) (hfresh : ok W.heap.size) (HB : Below base w0 W) (hbase : base ≤ W.heap.size) (hm : xs.length ≤ 9223372036854775807)
    (hgd2 : o2.guard = none) (hd2 : o2.dst = some N2) (T : TypeId) (ho2 : o2.op = .convert T T (.tmp N)) (hT : P.underlying T = some (.slice e)) (he : P.underlying e = some (.int .u8)) (hN : N < a.tmps.size)
    (h : ∀ v1 w1, Kd.V (Kd.int .u8) e w1 base ok v1 xs → Below base w0 w1 → W.grownBy w1 none → (∃ b, v1.ownBlock = some b ∧ W.heap.size ≤ b) → wpList P ops Q rest ((a.put (some N) v1).put (some N2) v1) w1) : wpList P ops Q (o :: o2 :: rest) a W := by
  refine event_run hgd hrun ?_
  rw [hd]
  have hev : (a.put (some N) (.slice (some ⟨W.heap.size, 0, none⟩) xs.length xs.length)).eval (.tmp N) = .slice (some ⟨W.heap.size, 0, none⟩) xs.length xs.length := by
    simp [Act.put, Act.eval, hN]
  have hc := Lib.run_convert_bytes_const (P := P) W T e inner.toArray xs.length xs.length hT he
  have hrun2 : (execOp (a.put (some N) (.slice (some ⟨W.heap.size, 0, none⟩) xs.length xs.length)).eval o2).run P (W.alloc (.cells inner.toArray e)) = .ok (.value (.slice (some ⟨W.heap.size, 0, none⟩) xs.length xs.length)) (W.alloc (.cells inner.toArray e (inner.toArray.size, inner.toArray.size + 1))) := by
    unfold execOp
    rw [ho2]
    simp only [hev]
    simp [hc]
  refine event_run hgd2 hrun2 ?_
  rw [hd2]
  refine h _ _ ⟨some ⟨W.heap.size, 0, none⟩, xs.length, rfl, Nat.le_refl _, ?_⟩ (HB.alloc hbase _) (World.grownBy_alloc W _ none) ⟨W.heap.size, rfl, Nat.le_refl _⟩
  intro W' hW'
  refine ⟨rfl, hm, fun _ => ⟨_, rfl, fun j p hj => ⟨[.int .u8 p], rfl, rfl, fun i u hu => ?_⟩⟩⟩
  obtain ⟨rfl, rfl⟩ : i = 0 ∧ u = .int .u8 p := by
    cases i with
    | zero => simpa using hu.symm
    | succ i => simp at hu
  have hb : W'.heap[W.heap.size]? = some (.cells inner.toArray e (inner.toArray.size, inner.toArray.size + 1)) := by
    rw [hW' _ hfresh (by simp)]
    exact heap_alloc_new W _
  have hs : (Kd.int .u8).sz = 1 := rfl
  rw [hs, add_plain, cell_of_row _ _ _ _ _ _ hb]
  subst hin
  simp [hj]
end
end Kd
end Go.Proofs.YtgggjfbgcadboaaW.PrintWords
