/- The row of the law OrderRow, out of its walk. -/
import Derived.Test.YtajinnlaajhoeaaRows
import Derived.Test.YtajinnlaajhoeaaBOrderRow
import Derived.WalkKit
import Derived.ProofKit
import Derived.OpenShut
import Derived.ShutString
import Derived.ChangeOld
import Derived.Below
import Derived.SizedLaws
import Derived.SliceStrings
namespace Go.Proofs.Ytajinnlaajhoeaa.orderRow
open Go.ChangeShapes Go.WideShapes Go.ChangeAt Go.RowKit Go.Proofs.YtajinnlaajhoeaaW.PrintWords Go.Proofs.YtajinnlaajhoeaaW.PrintLast
open Go.ChangeMaps (open_string shut_string)
set_option linter.unusedVariables false
theorem own : ownKnob Try.prog.godebug = none := by kernel_rfl
theorem laidOut : laidOutB Try.prog = true := by kernel_rfl
set_option maxRecDepth 100000 in
theorem lifted (os : Os) (started : os.Started) (H : Type) (enc : TypeId × Value → H) :
    ReturnsInHanded {} Try.checked os 4 .any (Rows.orderRowSpec.pre6 enc Try.prog Try.f4 Rows.orderRowRow.domain false) (Rows.orderRowSpec.post enc Try.prog Try.f4 false true false false) := by
  refine returnsInHanded_of_change_sized (C := Try.checked) own started (by kernel_rfl) Try.func4
    (ChangeSpec.witness6 (enc := enc) (C := Try.checked) false ⟨#[], #[.slice none 0 0], []⟩ 8 (by kernel_rfl) (by kernel_rfl) (by kernel_rfl) (by kernel_rfl)) ?_
  intro W base args ds gs before hval0 hW hcnd hsz0 _
  have hsz : (DataW.weightsEach Try.prog (Try.f4.params.toList ++ Rows.orderRowSpec.plain.varTypes Try.prog) (ds ++ gs)).all (· ≤ reachBytes) = true := hsz0
  have hval : ∀ (j : Nat) t v, Try.f4.params[j]? = some t → args[j]? = some v → Value.okWide Try.prog W .any base t v := hval0
  have hW' := hW
  obtain ⟨p, q, hA0, hV, rfl, hfz, hnd⟩ := hW
  have hA : DataW.TrodAll enc Try.prog W 0 (fun _ => true) true Try.f4.params.toList args.toList ds p := hA0
  rw [Try.params4] at hA hval hsz
  obtain ⟨v0, vs0, d0, ds0, p0, q0, hargs, rfl, rfl, h0, r0⟩ := trodAll_cons hA
  obtain ⟨rfl, rfl, rfl⟩ := trodAll_nil r0
  obtain rfl : args = #[v0] := by cases args; simp_all
  obtain ⟨rfl, rfl⟩ := trodVars_none hV
  obtain ⟨a0, len0, cap0, rfl⟩ := okWide_slice Try.underlying22 (hval 0 22 v0 rfl rfl)
  have k0 := h0
  have lt0 : ∀ x ∈ p0, x.block < W.heap.size := by obtain ⟨m, hm⟩ := k0; exact DataW.trod_lt m _ _ _ hm
  obtain ⟨z0, e0, c0, w0⟩ : ∃ zs : List ByteArray, zs.length = len0 ∧ len0 ≤ cap0 ∧ Kd.C Kd.string W a0 zs.length zs := by
    obtain ⟨fuel, hf⟩ := h0
    rcases open_strings Try.underlying22 Try.underlying9 (by kernel_rfl) hf with ⟨hcs, _⟩ | ⟨x, l, c, zs, hcs, _, hl, hm, hz, _, hcell, hwz⟩
    · simp [Value.cells] at hcs
      obtain ⟨rfl, rfl, rfl⟩ := hcs
      exact ⟨[], rfl, Nat.le_refl _, Kd.C_nil _ _⟩
    · simp [Value.cells] at hcs
      obtain ⟨rfl, rfl, rfl⟩ := hcs
      have hz2 : zs.length = cap0 := by simpa using hz
      have hl2 : (zs.take len0).length = len0 := by rw [List.length_take]; omega
      refine ⟨zs.take len0, hl2, hl, Kd.C_of_reads (enc := Value.string) (d := ByteArray.empty) (h1 := fun _ => rfl) ⟨rfl, by rw [hl2]; exact Nat.le_trans hl hm, fun _ => ⟨_, rfl, fun j hj => ?_⟩⟩⟩
      have hj2 : j < len0 := by rw [hl2] at hj; exact hj
      rw [hcell j (by omega)]
      simp only [List.getD_eq_getElem?_getD, List.getElem?_take, if_pos hj2]
  subst e0
  clear hA0 hval0 hsz0 hsz
  refine (Go.Proofs.Ytajinnlaajhoeaa.Pure.OrderRow_walk a0 cap0 z0 W w0 c0).mono fun e W' ⟨he, bel⟩ => ?_
  subst he
  exact ⟨_, rfl, _, _, _, [], _, [], hW', trodAll_mk1 (shut_bool Try.underlying4 _), (trodAll_cons_mk (Below.trod laidOut (by kernel_rfl) (of_decide_eq_true (by kernel_rfl)) k0 bel lt0) trodAll_mk0), rfl, bel.frame _, fun h => by cases h⟩
theorem over : Rows.orderRowRow.holds Try.pinned (OpenSpec.ofChange Rows.orderRowSpec) :=
  OpenClaim.holds_of_wide 4 Try.f4 rfl rfl rfl rfl rfl rfl rfl ⟨rfl, rfl, rfl, rfl, rfl⟩ rfl rfl rfl rfl rfl (by kernel_rfl) Try.func4 (by kernel_rfl)
    (of_decide_eq_true (by kernel_rfl)) (by unfold Func.isWrapper; first | (rw [if_pos (by decide +kernel)]; kernel_rfl) | (rw [if_neg (by decide +kernel)]; exact ⟨rfl, rfl⟩))
    (fun os started H enc _ => lifted os started H enc)
theorem proved : Rows.OrderRowSaid := over
#print axioms proved
end Go.Proofs.Ytajinnlaajhoeaa.orderRow
namespace Go.Proofs.Ytajinnlaajhoeaa
/-- The row, under a short name, for the claim. -/
theorem orderRow_holds : Rows.OrderRowSaid := orderRow.proved
end Go.Proofs.Ytajinnlaajhoeaa
