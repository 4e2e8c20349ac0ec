/- A text by numbers, plainly. -/
import Derived.Test.YtajinnlaajhoeaaPAllx1
import Derived.Test.YtajinnlaajhoeaaPAllx2
import Derived.Test.YtajinnlaajhoeaaPAllx3
import Derived.Test.YtajinnlaajhoeaaPAllx4
import Derived.Test.YtajinnlaajhoeaaPAllx5
import Derived.Test.YtajinnlaajhoeaaPAllx6
import Derived.Test.YtajinnlaajhoeaaPAllx7
import Derived.Test.YtajinnlaajhoeaaLUtf
import Derived.Test.YtajinnlaajhoeaaLRef
import Derived.Test.YtajinnlaajhoeaaLU16
namespace Go.Proofs.Ytajinnlaajhoeaa.Pure
open Go.RowKit Go.Proofs.Ytajinnlaajhoeaa.PAll Go.Proofs.YtajinnlaajhoeaaW.PrintWords Go.Proofs.YtajinnlaajhoeaaW.PrintLast Go.Proofs.YtajinnlaajhoeaaW.PrintMore
set_option linter.unusedVariables false
set_option linter.unusedSimpArgs false

/-! ### Halves, plainly -/
def isNon (c : Int) : Bool := decide (c ≥ 64976 ∧ c ≤ 65007) || (isScal c && decide (c % 65536 ≥ 65534))
theorem is_eq (c : Int) : scalar_Is.f c = orthoepyref01_Is.f c := by rw [is_val, ris_val]
theorem rnon_val (c : Int) : orthoepyref01_Nonchar.f c = some (isNon c) := by
  unfold orthoepyref01_Nonchar.f isNon
  rw [← is_eq, is_val]
  simp only [Option.bind_some]
  have h : isScal c = true → Int.tmod c 65536 = c % 65536 := by
    intro hs
    simp [isScal] at hs
    exact Int.tmod_eq_emod_of_nonneg (by omega)
  cases hs : isScal c with
  | true => rw [h hs]; (repeat' split) <;> simp_all <;> omega
  | false => (repeat' split) <;> simp_all <;> omega

/-! ### Scalars by numbers -/
theorem place_val (n m : Int) (hm : 0 < m) (hm' : m < 4000000000000000000) : orthoepylaw00_Place.f n m = some (n % m) := by
  unfold orthoepylaw00_Place.f
  rw [if_neg (by omega)]
  have h1 := Int.tmod_lt_of_pos n hm
  have h2 := Int.lt_tmod_of_pos n hm
  have h3 : n.tmod m % m = n % m := by rw [Int.tmod_def, Int.sub_mul_emod_self_left]
  by_cases h : Int.tmod n m < 0
  · rw [if_pos h]
    have e : wrap64 (Int.tmod n m + m) = Int.tmod n m + m := by unfold wrap64; omega
    rw [e, ← h3]
    congr 1
    rw [← Int.add_emod_right, Int.emod_eq_of_lt (by omega) (by omega)]
  · rw [if_neg h, ← h3, Int.emod_eq_of_lt (by omega) (by omega)]
theorem rune_val (n : Int) : ∃ c, orthoepylaw00_Rune.f n = some c ∧ 0 ≤ c ∧ c ≤ 2147483647 := by
  have h0 := Int.emod_nonneg n (b := 1099511627776) (by decide)
  have h1 := Int.emod_lt_of_pos n (b := 1099511627776) (by decide)
  refine ⟨runeV (n % 1099511627776), ?_, runeV_bound _ h0⟩
  unfold orthoepylaw00_Rune.f
  rw [place_val n _ (by decide) (by decide)]
  simp only [Option.bind_some]
  rw [if_pos ⟨h0, h1⟩]

/-! ### A text by numbers: scalars, twenty at most, none of them a noncharacter -/
def GoodL (L : List Int) : Prop := (∀ c ∈ L, isScal c = true ∧ isNon c = false) ∧ L.length ≤ 20
theorem lstr_l0 (d : Nat) : ∀ (k : Nat) (x0 acc : List Int) (i : Int), 0 ≤ i → i ≤ 20 → 20 - i = d → 2 * d + 100 ≤ k → (∀ c ∈ acc, isScal c = true ∧ isNon c = false) → (acc.length : Int) ≤ i → x0.length ≤ 140737488355328 →
    ∃ L, GoodL L ∧ orthoepylaw00_Str.l0 k x0 acc i = some (strOfNums (textV L)) := by
  have fin : ∀ (k : Nat) (x0 acc : List Int) (i : Int), 50 ≤ k → (∀ c ∈ acc, isScal c = true ∧ isNon c = false) → acc.length ≤ 20 → ∃ L, GoodL L ∧ orthoepylaw00_Str.j1 k x0 acc i false = some (strOfNums (textV L)) := by
    intro k x0 acc i hk ha hl
    obtain ⟨k, rfl⟩ : ∃ m, k = m + 1 := ⟨k - 1, by omega⟩
    refine ⟨acc, ⟨ha, hl⟩, ?_⟩
    have hr : R32 acc := fun c hc => by
      have := (ha c hc).1
      simp only [isScal, decide_eq_true_eq] at this
      omega
    simp only [orthoepylaw00_Str.j1, Bool.false_eq_true, if_false]
    rw [rtext_val k acc hr (by omega) (by omega)]
    rfl
  induction d with
  | zero =>
    intro k x0 acc i h0 hi hd hk ha hl hx
    obtain ⟨k, rfl⟩ : ∃ m, k = m + 1 := ⟨k - 1, by omega⟩
    obtain rfl : i = 20 := by omega
    simp only [orthoepylaw00_Str.l0]
    split
    · exact fin k x0 acc 20 (by omega) ha (by omega)
    · exact fin k x0 acc 20 (by omega) ha (by omega)
  | succ d ih =>
    intro k x0 acc i h0 hi hd hk ha hl hx
    obtain ⟨k, rfl⟩ : ∃ m, k = m + 2 := ⟨k - 2, by omega⟩
    have ew : wrap64 (i + 1) = i + 1 := by unfold wrap64; omega
    simp only [orthoepylaw00_Str.l0]
    by_cases hlt : i < (x0.length : Int)
    · rw [if_pos hlt, show decide (i < 20) = true from decide_eq_true (by omega)]
      simp only [orthoepylaw00_Str.j1, if_true]
      rw [if_pos h0, if_pos hlt]
      obtain ⟨c, hc, _⟩ := rune_val (rd x0 i)
      rw [hc, Option.bind_some, ris_val, Option.bind_some]
      cases hs : isScal c with
      | true =>
        rw [if_pos rfl, rnon_val, Option.bind_some]
        cases hn : isNon c with
        | true =>
          rw [if_pos rfl, ew]
          exact ih k x0 acc (i + 1) (by omega) (by omega) (by omega) (by omega) ha (by omega) hx
        | false =>
          rw [if_neg (by decide), if_pos (by omega), ew]
          exact ih k x0 (acc ++ [c]) (i + 1) (by omega) (by omega) (by omega) (by omega) (fun q hq => by
            rcases List.mem_append.1 hq with hq | hq
            · exact ha q hq
            · simp at hq; rw [hq]; exact ⟨hs, hn⟩) (by simp; omega) hx
      | false =>
        rw [if_neg (by decide), ew]
        exact ih k x0 acc (i + 1) (by omega) (by omega) (by omega) (by omega) ha (by omega) hx
    · rw [if_neg hlt]
      exact fin (k + 1) x0 acc i (by omega) ha (by omega)
theorem lstr_val (k : Nat) (x0 : List Int) (hk : 200 ≤ k) (hx : x0.length ≤ 140737488355328) : ∃ L, GoodL L ∧ orthoepylaw00_Str.f k x0 = some (strOfNums (textV L)) := by
  unfold orthoepylaw00_Str.f
  exact lstr_l0 20 k x0 [] 0 (by omega) (by omega) (by omega) (by omega) (fun _ h => by cases h) (by simp) hx

end Go.Proofs.Ytajinnlaajhoeaa.Pure
