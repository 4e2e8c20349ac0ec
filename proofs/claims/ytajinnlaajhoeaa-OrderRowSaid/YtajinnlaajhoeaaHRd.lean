/- The Sort of the document, plainly. -/
import Derived.Test.YtajinnlaajhoeaaHTot
namespace Go.Proofs.Ytajinnlaajhoeaa.Pure
open Go.RowKit Go.Proofs.Ytajinnlaajhoeaa.PAll Go.Proofs.YtajinnlaajhoeaaW.PrintWords Go.Proofs.YtajinnlaajhoeaaW.PrintLast Go.Proofs.YtajinnlaajhoeaaW.PrintMore
set_option linter.unusedVariables false
set_option linter.unusedSimpArgs false

/-! ### The document's Sort, walked -/
def cutV (p : Int → Bool) (out : List Int) : Nat → Nat
  | 0 => 0
  | n + 1 => if p (rd out (n : Int)) = true then cutV p out n else n + 1
/-- A place into a row in order, behind those that are alike. -/
def insV (p : Int → Bool) (x : Int) (out : List Int) : List Int := (([] : List Int) ++ out.take (cutV p out out.length) ++ [x]) ++ out.drop (cutV p out out.length)
def beforeP (ss : List ByteArray) (x : Int) (y : Int) : Bool := lessS (rdOf ByteArray.empty ss x) (rdOf ByteArray.empty ss y)
def rsortL (ss : List ByteArray) : Nat → List Int
  | 0 => []
  | i + 1 => insV (beforeP ss (i : Int)) (i : Int) (rsortL ss i)
def rsortP (ss : List ByteArray) : List Int := rsortL ss ss.length
theorem cutV_le (p : Int → Bool) (out : List Int) : ∀ n, cutV p out n ≤ n
  | 0 => Nat.le_refl _
  | n + 1 => by
    have := cutV_le p out n
    unfold cutV
    split <;> omega
theorem insV_perm (p : Int → Bool) (x : Int) (out : List Int) : (insV p x out).Perm (x :: out) := by
  unfold insV
  have h : (([] : List Int) ++ out.take (cutV p out out.length) ++ [x]) ++ out.drop (cutV p out out.length) = out.take (cutV p out out.length) ++ (x :: out.drop (cutV p out out.length)) := by simp
  rw [h]
  have h2 := List.perm_middle (a := x) (l₁ := out.take (cutV p out out.length)) (l₂ := out.drop (cutV p out out.length))
  rw [List.take_append_drop] at h2
  exact h2
theorem insV_len (p : Int → Bool) (x : Int) (out : List Int) : (insV p x out).length = out.length + 1 := by
  have := (insV_perm p x out).length_eq
  simpa using this
theorem rsortL_perm (ss : List ByteArray) : ∀ i, (rsortL ss i).Perm ((List.range i).map fun (j : Nat) => (j : Int))
  | 0 => List.Perm.refl _
  | i + 1 => by
    have h := rsortL_perm ss i
    unfold rsortL
    refine (insV_perm _ _ _).trans ?_
    rw [List.range_succ, List.map_append]
    exact (h.cons _).trans (List.perm_append_singleton _ _).symm
theorem rsortL_len (ss : List ByteArray) (i : Nat) : (rsortL ss i).length = i := by
  have := (rsortL_perm ss i).length_eq
  simpa using this
theorem rsortL_mem (ss : List ByteArray) (i : Nat) {p : Int} (h : p ∈ rsortL ss i) : 0 ≤ p ∧ p < i := by
  have h1 := (rsortL_perm ss i).mem_iff.1 h
  obtain ⟨j, h2, rfl⟩ := List.mem_map.1 h1
  have := List.mem_range.1 h2
  omega

end Go.Proofs.Ytajinnlaajhoeaa.Pure
