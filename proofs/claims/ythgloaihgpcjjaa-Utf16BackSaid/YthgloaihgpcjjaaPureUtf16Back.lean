/- Scalars as units, told again, are the scalars. -/
import Derived.Test.YthgloaihgpcjjaaPAllx5
import Derived.Test.YthgloaihgpcjjaaLU16
import Derived.Test.YthgloaihgpcjjaaLU16M
namespace Go.Proofs.Ythgloaihgpcjjaa.Pure
open Go.RowKit Go.Proofs.Ythgloaihgpcjjaa.PAll Go.Proofs.YthgloaihgpcjjaaW.PrintWords Go.Proofs.YthgloaihgpcjjaaW.PrintLast
set_option linter.unusedVariables false
set_option linter.unusedSimpArgs false

theorem back_loop (rest : List Int) : ∀ (k : Nat) (L u : List Int) (s i : Int), 0 ≤ i → L.drop i.toNat = rest → i ≤ L.length → L.length ≤ 60 → (∀ c ∈ L, isScal c = true) → 0 ≤ s → s + (rest.flatMap unV).length = u.length → u.length ≤ 120 → rest.length + 70 < k →
    orthoepylaw03_Utf16Back.l0 k L u L (u.length : Int) true s i = some true := by
  induction rest with
  | nil =>
    intro k L b s i h0 hx hi hl hs hs0 hsum hb hk
    obtain ⟨k, rfl⟩ : ∃ m, k = m + 1 := ⟨k - 1, by omega⟩
    have hlen := drop_nil h0 hi hx
    simp only [orthoepylaw03_Utf16Back.l0]
    simp at hsum
    rw [if_neg (by omega), same_val k L (by omega) (by simp at hk; omega)]
    simp [hsum, orthoepylaw03_awake.f]
  | cons x r ih =>
    intro k L b s i h0 hx hi hl hs hs0 hsum hb hk
    obtain ⟨k, rfl⟩ : ∃ m, k = m + 1 := ⟨k - 1, by omega⟩
    obtain ⟨hrd, hlt, hdrop⟩ := rd_drop L i x r h0 hx
    have hsx : isScal x = true := hs x (List.mem_of_mem_drop (by rw [hx]; simp))
    have ew : wrap64 (i + 1) = i + 1 := by unfold wrap64; omega
    have hun : orthoepyref01_Units.f x = some ((unV x).length : Int) := by
      unfold orthoepyref01_Units.f unV
      rw [ris_val, Option.bind_some, if_pos hsx, if_pos hsx]
      split <;> rfl
    have hu2 := unV_len x
    rw [List.flatMap_cons, List.length_append] at hsum
    simp only [orthoepylaw03_Utf16Back.l0]
    have e2 : wrap64 (s + ((unV x).length : Int)) = s + ((unV x).length : Int) := by unfold wrap64; omega
    rw [if_pos (by omega), if_pos h0, hrd, ew, hun, Option.bind_some, e2]
    exact ih k L b _ (i + 1) (by omega) hdrop (by omega) hl hs (by omega) (by omega) hb (by simp at hk; omega)
theorem Utf16Back : orthoepylaw03_Utf16Back.Pure := by
  intro v hv0 hv hvw
  obtain ⟨K, hK⟩ : ∃ K : Nat, 600 ≤ K := ⟨600, Nat.le_refl _⟩
  refine ⟨K, ?_⟩
  unfold orthoepylaw03_Utf16Back.f
  obtain ⟨L, hL, hs, hl⟩ := runes_val K v (by omega) (by omega)
  rw [hL]
  simp only [Option.bind_some]
  have hf := flat_len L
  rw [units_val L (by omega) (scal_le hs)]
  simp only [Option.bind_some]
  rw [scal_val K (L.flatMap unV) (units_u16 L) (by omega) (by omega), scV_all L hs]
  simp only [Option.bind_some]
  exact back_loop L K L (L.flatMap unV) 0 0 (by omega) rfl (by omega) hl hs (by omega) (by omega) (by omega) (by omega)

end Go.Proofs.Ythgloaihgpcjjaa.Pure
