/- Of whatever runes and units, all that the layer tells is as the document has it. -/
import Derived.Test.YthgloaihgpcjjaaPAllx4
import Derived.Test.YthgloaihgpcjjaaLU16
import Derived.Test.YthgloaihgpcjjaaLU16M
namespace Go.Proofs.Ythgloaihgpcjjaa.Pure
open Go.RowKit Go.Proofs.Ythgloaihgpcjjaa.PAll Go.Proofs.YthgloaihgpcjjaaW.PrintWords Go.Proofs.YthgloaihgpcjjaaW.PrintLast
set_option linter.unusedVariables false
set_option linter.unusedSimpArgs false

theorem Utf16All : orthoepylaw03_Utf16All.Pure := by
  intro l m u _ _ hl _ _ hm _ _ hu
  obtain ⟨K, hK⟩ : ∃ K : Nat, 2000 ≤ K := ⟨2000, Nat.le_refl _⟩
  refine ⟨K + 1, ?_⟩
  have hlr := wf_r32 hl
  have hmr := wf_r32 hm
  have huu := wf_u16 hu
  have ja : orthoepylaw03_Utf16All.j0 (K + 1) l m u true = some true := by
    simp [orthoepylaw03_Utf16All.j0, orthoepylaw03_awake.f]
  have jb : l.length ≤ 200 → m.length ≤ 200 → u.length ≤ 200 → orthoepylaw03_Utf16All.j0 (K + 1) l m u false = some true := by
    intro h1 h2 h3
    have hf := flat_len l
    have hgen : ∀ (n : Nat) (r acc : List Int) (at_ : Int), r.length ≤ n → (scV acc at_ r).1.length ≤ acc.length + r.length := by
      intro n
      induction n with
      | zero =>
        intro r acc at_ h
        obtain rfl : r = [] := List.length_eq_zero_iff.mp (by omega)
        simp [scV]
      | succ n ih =>
        intro r acc at_ h
        match r with
        | [] => simp [scV]
        | [x] =>
          simp only [scV]
          split <;> simp
        | x :: y :: r =>
          simp only [scV]
          simp at h
          split
          · have := ih r (acc ++ [joinV x y]) (at_ + 2) (by omega); simp at this ⊢; omega
          · split
            · simp
            · have := ih (y :: r) (acc ++ [x]) (at_ + 1) (by simp; omega); simp at this ⊢; omega
    have hg := hgen u.length u [] 0 (Nat.le_refl _)
    simp only [List.length_nil, Nat.zero_add] at hg
    simp only [orthoepylaw03_Utf16All.j0]
    rw [if_neg (by decide), scal_val K u huu (by omega) (by omega), rscal_val K u huu (by omega) (by omega), units_val l (by omega) (fun c hc => (hlr c hc).2), runits_val K l hlr (by omega) (by omega)]
    simp only [Option.bind_some]
    rw [lsame_val K _ (by omega) (by omega)]
    simp only [Option.bind_some, if_true]
    rw [same_val K _ (by omega) (by omega)]
    simp only [Option.bind_some, if_true, beq_self_eq_true]
    rw [compare_val K l m (by omega) (by omega) (fun c hc => (hlr c hc).2) (fun c hc => (hmr c hc).2) (by omega), rcompare_val K l m (by omega) (by omega) hlr hmr (by omega)]
    simp [orthoepylaw03_awake.f]
  unfold orthoepylaw03_Utf16All.f
  by_cases h1 : (l.length : Int) > 200
  · rw [if_pos h1]
    exact ja
  · rw [if_neg h1]
    by_cases h2 : (m.length : Int) > 200
    · rw [if_pos h2]
      exact ja
    · rw [if_neg h2]
      by_cases h3 : (u.length : Int) > 200
      · rw [decide_eq_true h3]
        exact ja
      · rw [decide_eq_false h3]
        exact jb (by omega) (by omega) (by omega)

end Go.Proofs.Ythgloaihgpcjjaa.Pure
