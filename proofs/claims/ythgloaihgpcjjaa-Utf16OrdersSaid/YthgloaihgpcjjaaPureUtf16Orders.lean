/- The order of units is an order; alike are the same alone; what goes on is more than its beginning. -/
import Derived.Test.YthgloaihgpcjjaaPAllx6
import Derived.Test.YthgloaihgpcjjaaLU16
import Derived.Test.YthgloaihgpcjjaaLU16M
namespace Go.Proofs.Ythgloaihgpcjjaa.Pure
open Go.RowKit Go.Proofs.Ythgloaihgpcjjaa.PAll Go.Proofs.YthgloaihgpcjjaaW.PrintWords Go.Proofs.YthgloaihgpcjjaaW.PrintLast
set_option linter.unusedVariables false
set_option linter.unusedSimpArgs false

theorem orders_j (K : Nat) (hK : 2000 ≤ K) (x y : List Int) (hx : ∀ c ∈ x, isScal c = true) (hy : ∀ c ∈ y, isScal c = true) (hlx : x.length ≤ 60) (hly : y.length ≤ 60) :
    orthoepylaw03_Utf16Orders.j0 (K + 1) x y (cmpV (x.flatMap unV) (y.flatMap unV)) false = some true := by
  have hxl := scal_le hx
  have hyl := scal_le hy
  simp only [orthoepylaw03_Utf16Orders.j0]
  rw [if_neg (by decide)]
  simp only [Option.bind_some, List.nil_append, List.length_nil, Nat.zero_add]
  rw [if_pos (by omega), if_pos (by omega), compare_val K y x (by omega) (by omega) hyl hxl (by omega)]
  simp only [Option.bind_some]
  have hr := cmpV_range (y.flatMap unV) (x.flatMap unV)
  have ew : wrap64 (-(cmpV (y.flatMap unV) (x.flatMap unV))) = -(cmpV (y.flatMap unV) (x.flatMap unV)) := by unfold wrap64; omega
  rw [ew, if_pos (cmpV_neg _ _), dsame_val K x y (by omega) (by omega)]
  simp only [Option.bind_some]
  have he : (cmpV (x.flatMap unV) (y.flatMap unV) == 0) = decide (x = y) := by
    by_cases h : x = y
    · rw [h, cmpV_self]
      simp
    · rw [decide_eq_false h]
      refine beq_eq_false_iff_ne.mpr (fun hh => h ?_)
      exact units_inj x y hx hy (cmpV_eq _ _ hh)
  rw [he, if_pos (by simp), compare_val K x x (by omega) (by omega) hxl hxl (by omega), Option.bind_some, cmpV_self, if_pos rfl]
  by_cases hy0 : (y.length : Int) = 0
  · rw [if_pos hy0]
    simp [orthoepylaw03_awake.f]
  · rw [if_neg hy0]
    have hxy : ∀ c ∈ x ++ y, c ≤ 2147483647 := by
      intro c hc
      rcases List.mem_append.1 hc with h | h
      · exact hxl c h
      · exact hyl c h
    rw [compare_val K x (x ++ y) (by omega) (by simp; omega) hxl hxy (by omega), Option.bind_some, List.flatMap_append]
    have hne : y.flatMap unV ≠ [] := by
      cases y with
      | nil => simp at hy0
      | cons c r =>
        have := unV_ne c (hy c (by simp))
        intro h
        rw [List.flatMap_cons] at h
        exact this (List.append_eq_nil_iff.1 h).1
    rw [cmpV_more _ _ hne]
    simp [orthoepylaw03_awake.f]
theorem Utf16Orders : orthoepylaw03_Utf16Orders.Pure := by
  intro a b c _ ha _ _ hb _ _ hc _
  obtain ⟨K, hK⟩ : ∃ K : Nat, 2000 ≤ K := ⟨2000, Nat.le_refl _⟩
  refine ⟨K + 1, ?_⟩
  unfold orthoepylaw03_Utf16Orders.f
  obtain ⟨x, hx, hxs, hxl⟩ := runes_val (K + 1) a (by omega) (by omega)
  obtain ⟨y, hy, hys, hyl⟩ := runes_val (K + 1) b (by omega) (by omega)
  obtain ⟨z, hz, hzs, hzl⟩ := runes_val (K + 1) c (by omega) (by omega)
  rw [hx, Option.bind_some, hy, Option.bind_some, hz, Option.bind_some, compare_val (K + 1) x y (by omega) (by omega) (scal_le hxs) (scal_le hys) (by omega), Option.bind_some, compare_val (K + 1) y z (by omega) (by omega) (scal_le hys) (scal_le hzs) (by omega), Option.bind_some, compare_val (K + 1) x z (by omega) (by omega) (scal_le hxs) (scal_le hzs) (by omega), Option.bind_some]
  have hj := orders_j K hK x y hxs hys hxl hyl
  have hr := cmpV_range (x.flatMap unV) (y.flatMap unV)
  have n1 : ¬ cmpV (x.flatMap unV) (y.flatMap unV) < -1 := by omega
  have n2 : decide (cmpV (x.flatMap unV) (y.flatMap unV) > 1) = false := decide_eq_false (by omega)
  simp only [n1, n2, if_false, hj]
  by_cases h1 : cmpV (x.flatMap unV) (y.flatMap unV) ≤ 0
  · by_cases h2 : cmpV (y.flatMap unV) (z.flatMap unV) ≤ 0
    · have h3 := cmpV_trans _ _ _ h1 h2
      rw [if_pos h1, if_pos h2, if_neg (by omega)]
    · rw [if_pos h1, if_neg h2]
  · rw [if_neg h1]

end Go.Proofs.Ythgloaihgpcjjaa.Pure
