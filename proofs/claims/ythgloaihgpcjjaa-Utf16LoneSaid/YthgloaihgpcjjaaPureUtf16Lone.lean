/- A half put alone between scalars is told at its place. -/
import Derived.Test.YthgloaihgpcjjaaPAllx8
import Derived.Test.YthgloaihgpcjjaaLU16
import Derived.Test.YthgloaihgpcjjaaLU16M
namespace Go.Proofs.Ythgloaihgpcjjaa.Pure
open Go.RowKit Go.Proofs.Ythgloaihgpcjjaa.PAll Go.Proofs.YthgloaihgpcjjaaW.PrintWords Go.Proofs.YthgloaihgpcjjaaW.PrintLast
set_option linter.unusedVariables false
set_option linter.unusedSimpArgs false

theorem runes_take {k : Nat} {L : List Int} (h : ∀ c ∈ L, isScal c = true) : ∀ c ∈ L.take k, isScal c = true := fun c hc => h c (List.mem_of_mem_take hc)
theorem Utf16Lone : orthoepylaw03_Utf16Lone.Pure := by
  intro v a u hv0 hv hvw ha hu
  obtain ⟨K, hK⟩ : ∃ K : Nat, 2000 ≤ K := ⟨2000, Nat.le_refl _⟩
  refine ⟨K, ?_⟩
  have hu16 : 0 ≤ u ∧ u ≤ 65535 := wf_u16 (l := [u]) (by simpa using hu) u (by simp)
  unfold orthoepylaw03_Utf16Lone.f
  obtain ⟨L, hL, hs, hl⟩ := runes_val K v (by omega) (by omega)
  rw [hL, Option.bind_some]
  have ew : wrap64 ((L.length : Int) + 1) = (L.length : Int) + 1 := by unfold wrap64; omega
  rw [ew, place_val a _ (by omega) (by omega), Option.bind_some]
  have hp0 := Int.emod_nonneg a (b := (L.length : Int) + 1) (by omega)
  have hp1 := Int.emod_lt_of_pos a (b := (L.length : Int) + 1) (by omega)
  generalize hp : a % ((L.length : Int) + 1) = p at hp0 hp1
  rw [if_pos hp0, if_pos (by omega)]
  have hA : ∀ c ∈ L.take p.toNat, isScal c = true := fun c hc => hs c (List.mem_of_mem_take hc)
  have hB : ∀ c ∈ L.drop p.toNat, isScal c = true := fun c hc => hs c (List.mem_of_mem_drop hc)
  have hlA : (L.take p.toNat).length ≤ 60 := by rw [List.length_take]; omega
  have hlB : (L.drop p.toNat).length ≤ 60 := by rw [List.length_drop]; omega
  generalize L.take p.toNat = A at hA hlA
  generalize L.drop p.toNat = B at hB hlB
  have hfA := flat_len A
  have hfB := flat_len B
  rw [runits_val K A (scal_r32 hA) (by omega) (by omega), Option.bind_some, runits_val K B (scal_r32 hB) (by omega) (by omega), Option.bind_some]
  rw [Option.bind_some]
  have g1 : ([] : List Int).length + (A.flatMap unV).length < 70368744177664 := by
    rw [List.length_nil, Nat.zero_add]
    omega
  have g2 : (A.flatMap unV ++ [IntKind.u16.wrap (55296 + u.tmod 2048)]).length + (B.flatMap unV).length < 70368744177664 := by
    simp only [List.length_append, List.length_cons, List.length_nil]
    omega
  rw [if_pos g1, List.nil_append, Option.bind_some]
  have g3 : (A.flatMap unV).length < 70368744177664 := by omega
  rw [if_pos g3, Option.bind_some, if_pos g2]
  clear g1 g2 g3
  rw [Int.tmod_eq_emod_of_nonneg (by omega), wrap_u16]
  have hh : hiS ((55296 + u % 2048) % 65536) = true ∨ loS ((55296 + u % 2048) % 65536) = true := by
    by_cases h : u % 2048 < 1024
    · refine .inl ?_
      unfold hiS
      exact decide_eq_true (by omega)
    · refine .inr ?_
      unfold loS
      exact decide_eq_true (by omega)
  have hhr : 0 ≤ (55296 + u % 2048) % 65536 ∧ (55296 + u % 2048) % 65536 ≤ 65535 := by omega
  generalize (55296 + u % 2048) % 65536 = x at hh hhr
  have hU : U16 (A.flatMap unV ++ [x] ++ B.flatMap unV) := by
    intro y hy
    simp only [List.mem_append, List.mem_singleton] at hy
    rcases hy with (hy | hy) | hy
    · exact units_u16 A y hy
    · rw [hy]; exact hhr
    · exact units_u16 B y hy
  rw [scal_val K _ hU (by simp only [List.length_append, List.length_cons, List.length_nil]; omega) (by simp only [List.length_append, List.length_cons, List.length_nil]; omega)]
  have hv : scV [] 0 (A.flatMap unV ++ [x] ++ B.flatMap unV) = ([], ((A.flatMap unV).length : Int), false) := by
    rw [List.append_assoc, scV_units A [] 0 _ hA, List.nil_append, Int.zero_add, List.singleton_append]
    generalize ((A.flatMap unV).length : Int) = n
    cases B with
    | nil => simp [scV, hh]
    | cons c B =>
      have hc := hB c (by simp)
      have hn : ∃ y r, (c :: B).flatMap unV = y :: r ∧ loS y = false := by
        rw [List.flatMap_cons]
        unfold unV
        rw [if_pos hc]
        unfold isScal at hc
        simp only [decide_eq_true_eq] at hc
        unfold loS
        split
        · exact ⟨_, _, rfl, decide_eq_false (by omega)⟩
        · exact ⟨_, _, rfl, decide_eq_false (by omega)⟩
      obtain ⟨y, r, e, hy⟩ := hn
      rw [e]
      simp [scV, hy, hh]
  rw [hv]
  simp [orthoepylaw03_awake.f]

end Go.Proofs.Ythgloaihgpcjjaa.Pure
