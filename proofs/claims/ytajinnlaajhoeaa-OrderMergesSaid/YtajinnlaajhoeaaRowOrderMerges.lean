/- The row of the law OrderMerges, out of its walk. -/
import Derived.Test.YtajinnlaajhoeaaRows
import Derived.Test.YtajinnlaajhoeaaBOrderMerges
import Derived.WalkKit
import Derived.ProofKit
import Derived.OpenShut
import Derived.ShutString
import Derived.ChangeOld
import Derived.Below
import Derived.SizedLaws
import Derived.SliceStrings
namespace Go.Proofs.Ytajinnlaajhoeaa.orderMerges
open Go.ChangeShapes Go.WideShapes Go.ChangeAt Go.RowKit Go.Proofs.YtajinnlaajhoeaaW.PrintWords Go.Proofs.YtajinnlaajhoeaaW.PrintLast
open Go.ChangeMaps (open_string shut_string)
set_option linter.unusedVariables false
theorem own : ownKnob Try.prog.godebug = none := by kernel_rfl
theorem laidOut : laidOutB Try.prog = true := by kernel_rfl
set_option maxRecDepth 100000 in
theorem lifted (os : Os) (started : os.Started) (H : Type) (enc : TypeId × Value → H) :
    ReturnsInHanded {} Try.checked os 6 .any (Rows.orderMergesSpec.pre6 enc Try.prog Try.f6 Rows.orderMergesRow.domain false) (Rows.orderMergesSpec.post enc Try.prog Try.f6 false true false false) := by
  refine returnsInHanded_of_change_sized (C := Try.checked) own started (by kernel_rfl) Try.func6
    (ChangeSpec.witness6 (enc := enc) (C := Try.checked) false ⟨#[], #[.slice none 0 0, .slice none 0 0, .slice none 0 0], []⟩ 8 (by kernel_rfl) (by kernel_rfl) (by kernel_rfl) (by kernel_rfl)) ?_
  intro W base args ds gs before hval0 hW hcnd hsz0 _
  have hsz : (DataW.weightsEach Try.prog (Try.f6.params.toList ++ Rows.orderMergesSpec.plain.varTypes Try.prog) (ds ++ gs)).all (· ≤ reachBytes) = true := hsz0
  have hval : ∀ (j : Nat) t v, Try.f6.params[j]? = some t → args[j]? = some v → Value.okWide Try.prog W .any base t v := hval0
  have hW' := hW
  obtain ⟨p, q, hA0, hV, rfl, hfz, hnd⟩ := hW
  have hA : DataW.TrodAll enc Try.prog W 0 (fun _ => true) true Try.f6.params.toList args.toList ds p := hA0
  rw [Try.params6] at hA hval hsz
  obtain ⟨v0, vs0, d0, ds0, p0, q0, hargs, rfl, rfl, h0, r0⟩ := trodAll_cons hA
  obtain ⟨v1, vs1, d1, ds1, p1, q1, rfl, rfl, rfl, h1, r1⟩ := trodAll_cons r0
  obtain ⟨v2, vs2, d2, ds2, p2, q2, rfl, rfl, rfl, h2, r2⟩ := trodAll_cons r1
  obtain ⟨rfl, rfl, rfl⟩ := trodAll_nil r2
  obtain rfl : args = #[v0, v1, v2] := by cases args; simp_all
  obtain ⟨rfl, rfl⟩ := trodVars_none hV
  obtain ⟨a0, len0, cap0, rfl⟩ := okWide_slice Try.underlying22 (hval 0 22 v0 rfl rfl)
  have k0 := h0
  have lt0 : ∀ x ∈ p0, x.block < W.heap.size := by obtain ⟨m, hm⟩ := k0; exact DataW.trod_lt m _ _ _ hm
  obtain ⟨z0, e0, c0, w0⟩ : ∃ zs : List ByteArray, zs.length = len0 ∧ len0 ≤ cap0 ∧ Kd.C Kd.string W a0 zs.length zs := by
    obtain ⟨fuel, hf⟩ := h0
    rcases open_strings Try.underlying22 Try.underlying9 (by kernel_rfl) hf with ⟨hcs, _⟩ | ⟨x, l, c, zs, hcs, _, hl, hm, hz, _, hcell, hwz⟩
    · simp [Value.cells] at hcs
      obtain ⟨rfl, rfl, rfl⟩ := hcs
      exact ⟨[], rfl, Nat.le_refl _, Kd.C_nil _ _⟩
    · simp [Value.cells] at hcs
      obtain ⟨rfl, rfl, rfl⟩ := hcs
      have hz2 : zs.length = cap0 := by simpa using hz
      have hl2 : (zs.take len0).length = len0 := by rw [List.length_take]; omega
      refine ⟨zs.take len0, hl2, hl, Kd.C_of_reads (enc := Value.string) (d := ByteArray.empty) (h1 := fun _ => rfl) ⟨rfl, by rw [hl2]; exact Nat.le_trans hl hm, fun _ => ⟨_, rfl, fun j hj => ?_⟩⟩⟩
      have hj2 : j < len0 := by rw [hl2] at hj; exact hj
      rw [hcell j (by omega)]
      simp only [List.getD_eq_getElem?_getD, List.getElem?_take, if_pos hj2]
  subst e0
  obtain ⟨a1, len1, cap1, rfl⟩ := okWide_slice Try.underlying34 (hval 1 34 v1 rfl rfl)
  have k1 := h1
  have lt1 : ∀ x ∈ p1, x.block < W.heap.size := by obtain ⟨m, hm⟩ := k1; exact DataW.trod_lt m _ _ _ hm
  obtain ⟨z1, e1, c1, w1, x1⟩ : ∃ zs : List Int, zs.length = len1 ∧ len1 ≤ cap1 ∧ Kd.C (Kd.int .u8) W a1 zs.length zs ∧ ∀ x ∈ zs, (Lit.int .u8 x).wf = true := by
    obtain ⟨fuel, hf⟩ := h1
    rcases open_ints Try.underlying34 Try.underlying5 (by kernel_rfl) hf with ⟨hcs, _⟩ | ⟨x, l, c, zs, hcs, _, hl, hm, hz, _, hcell, hwz⟩
    · simp [Value.cells] at hcs
      obtain ⟨rfl, rfl, rfl⟩ := hcs
      exact ⟨[], rfl, Nat.le_refl _, Kd.C_nil _ _, fun _ h => by cases h⟩
    · simp [Value.cells] at hcs
      obtain ⟨rfl, rfl, rfl⟩ := hcs
      have hz2 : zs.length = cap1 := by simpa using hz
      have hl2 : (zs.take len1).length = len1 := by rw [List.length_take]; omega
      refine ⟨zs.take len1, hl2, hl, Kd.C_of_reads (enc := (Value.int .u8)) (d := (0 : Int)) (h1 := fun _ => rfl) ⟨rfl, by rw [hl2]; exact Nat.le_trans hl hm, fun _ => ⟨_, rfl, fun j hj => ?_⟩⟩, fun y hy => hwz y (List.mem_of_mem_take hy)⟩
      have hj2 : j < len1 := by rw [hl2] at hj; exact hj
      rw [hcell j (by omega)]
      simp only [List.getD_eq_getElem?_getD, List.getElem?_take, if_pos hj2]
  subst e1
  obtain ⟨a2, len2, cap2, rfl⟩ := okWide_slice Try.underlying34 (hval 2 34 v2 rfl rfl)
  have k2 := h2
  have lt2 : ∀ x ∈ p2, x.block < W.heap.size := by obtain ⟨m, hm⟩ := k2; exact DataW.trod_lt m _ _ _ hm
  obtain ⟨z2, e2, c2, w2, x2⟩ : ∃ zs : List Int, zs.length = len2 ∧ len2 ≤ cap2 ∧ Kd.C (Kd.int .u8) W a2 zs.length zs ∧ ∀ x ∈ zs, (Lit.int .u8 x).wf = true := by
    obtain ⟨fuel, hf⟩ := h2
    rcases open_ints Try.underlying34 Try.underlying5 (by kernel_rfl) hf with ⟨hcs, _⟩ | ⟨x, l, c, zs, hcs, _, hl, hm, hz, _, hcell, hwz⟩
    · simp [Value.cells] at hcs
      obtain ⟨rfl, rfl, rfl⟩ := hcs
      exact ⟨[], rfl, Nat.le_refl _, Kd.C_nil _ _, fun _ h => by cases h⟩
    · simp [Value.cells] at hcs
      obtain ⟨rfl, rfl, rfl⟩ := hcs
      have hz2 : zs.length = cap2 := by simpa using hz
      have hl2 : (zs.take len2).length = len2 := by rw [List.length_take]; omega
      refine ⟨zs.take len2, hl2, hl, Kd.C_of_reads (enc := (Value.int .u8)) (d := (0 : Int)) (h1 := fun _ => rfl) ⟨rfl, by rw [hl2]; exact Nat.le_trans hl hm, fun _ => ⟨_, rfl, fun j hj => ?_⟩⟩, fun y hy => hwz y (List.mem_of_mem_take hy)⟩
      have hj2 : j < len2 := by rw [hl2] at hj; exact hj
      rw [hcell j (by omega)]
      simp only [List.getD_eq_getElem?_getD, List.getElem?_take, if_pos hj2]
  subst e2
  clear hA0 hval0 hsz0 hsz
  refine (Go.Proofs.Ytajinnlaajhoeaa.Pure.OrderMerges_walk a0 cap0 z0 a1 cap1 z1 a2 cap2 z2 W w0 c0 w1 c1 x1 w2 c2 x2).mono fun e W' ⟨he, bel⟩ => ?_
  subst he
  exact ⟨_, rfl, _, _, _, [], _, [], hW', trodAll_mk1 (shut_bool Try.underlying4 _), (trodAll_cons_mk (Below.trod laidOut (by kernel_rfl) (of_decide_eq_true (by kernel_rfl)) k0 bel lt0) (trodAll_cons_mk (Below.trod laidOut (by kernel_rfl) (of_decide_eq_true (by kernel_rfl)) k1 bel lt1) (trodAll_cons_mk (Below.trod laidOut (by kernel_rfl) (of_decide_eq_true (by kernel_rfl)) k2 bel lt2) trodAll_mk0))), rfl, bel.frame _, fun h => by cases h⟩
theorem over : Rows.orderMergesRow.holds Try.pinned (OpenSpec.ofChange Rows.orderMergesSpec) :=
  OpenClaim.holds_of_wide 6 Try.f6 rfl rfl rfl rfl rfl rfl rfl ⟨rfl, rfl, rfl, rfl, rfl⟩ rfl rfl rfl rfl rfl (by kernel_rfl) Try.func6 (by kernel_rfl)
    (of_decide_eq_true (by kernel_rfl)) (by unfold Func.isWrapper; first | (rw [if_pos (by decide +kernel)]; kernel_rfl) | (rw [if_neg (by decide +kernel)]; exact ⟨rfl, rfl⟩))
    (fun os started H enc _ => lifted os started H enc)
theorem proved : Rows.OrderMergesSaid := over
#print axioms proved
end Go.Proofs.Ytajinnlaajhoeaa.orderMerges
namespace Go.Proofs.Ytajinnlaajhoeaa
/-- The row, under a short name, for the claim. -/
theorem orderMerges_holds : Rows.OrderMergesSaid := orderMerges.proved
end Go.Proofs.Ytajinnlaajhoeaa
