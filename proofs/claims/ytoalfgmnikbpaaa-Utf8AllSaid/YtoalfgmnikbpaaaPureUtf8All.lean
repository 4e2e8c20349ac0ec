/- The law Utf8All: of whatever bytes, whatever runes, all that the layer utf8 tells is what the reference tells, where there are at most 400 bytes and 200 runes; no condition. -/
import Derived.Test.YtoalfgmnikbpaaaPAllx7
import Derived.Test.YtoalfgmnikbpaaaLUtf
import Derived.Test.YtoalfgmnikbpaaaLRef
namespace Go.Proofs.Ytoalfgmnikbpaaa.Pure
open Go.RowKit Go.Proofs.Ytoalfgmnikbpaaa.PAll Go.Proofs.YtoalfgmnikbpaaaW.PrintWords Go.Proofs.YtoalfgmnikbpaaaW.PrintLast
set_option linter.unusedVariables false
set_option linter.unusedSimpArgs false

theorem Utf8All : orthoepylaw02_Utf8All.Pure := by
  intro b l c _ _ hb _ _ hl hc
  obtain ⟨K, hK⟩ : ∃ K : Nat, 2000 ≤ K := ⟨2000, Nat.le_refl _⟩
  refine ⟨K + 1, ?_⟩
  have hbb := byt_wf hb
  have hll := r32_wf hl
  have hcc := wf_i32 hc
  have ja : ∀ q : Nat, orthoepylaw02_Utf8All.j0 (K + 1) b l c true = some true := by
    intro q
    simp [orthoepylaw02_Utf8All.j0, orthoepylaw02_awake.f]
  have jb : b.length ≤ 400 → l.length ≤ 200 → orthoepylaw02_Utf8All.j0 (K + 1) b l c false = some true := by
    intro h1 h2
    have ha : (allV [] [] 0 b).1.length ≤ 400 := by
      have hgen : ∀ (r pre acc : List Int) (at_ : Int), (allV pre acc at_ r).1.length ≤ acc.length + r.length := by
        intro r
        induction r with
        | nil => intro pre acc at_; simp only [allV]; split <;> simp
        | cons x r ih =>
          intro pre acc at_
          simp only [allV]
          split
          · have := ih [] (acc ++ [ofV (pre ++ [x])]) (at_ + 1); simp at this ⊢; omega
          · split
            · have := ih (pre ++ [x]) acc (at_ + 1); simp at this ⊢; omega
            · simp
      have := hgen b [] [] 0
      simp at this
      omega
    simp only [orthoepylaw02_Utf8All.j0]
    rw [if_neg (by decide), first_val K b hbb (by omega) (by omega), rfirst_val K b hbb (by omega) (by omega), all_val K b hbb (by omega) (by omega), rall_val K b hbb (by omega) (by omega), text_val K l (by omega) (by omega), rtext_val K l hll (by omega) (by omega), bytes_val, rbytes_val c hcc.1 hcc.2]
    simp only [Option.bind_some]
    rw [same_val K _ (by omega) (by omega)]
    simp [orthoepylaw02_awake.f]
  unfold orthoepylaw02_Utf8All.f
  by_cases h1 : (b.length : Int) > 400
  · rw [if_pos h1]
    exact ja 0
  · rw [if_neg h1]
    by_cases h2 : (l.length : Int) > 200
    · rw [decide_eq_true h2]
      exact ja 0
    · rw [decide_eq_false h2]
      exact jb (by omega) (by omega)

end Go.Proofs.Ytoalfgmnikbpaaa.Pure
