/- The law Utf8Back: scalars as bytes, told again, are the scalars, in as many bytes as their greatness asks; for every row of numbers; no condition. -/
import Derived.Test.YtoalfgmnikbpaaaPAllx9
import Derived.Test.YtoalfgmnikbpaaaLUtf
namespace Go.Proofs.Ytoalfgmnikbpaaa.Pure
open Go.RowKit Go.Proofs.Ytoalfgmnikbpaaa.PAll Go.Proofs.YtoalfgmnikbpaaaW.PrintWords Go.Proofs.YtoalfgmnikbpaaaW.PrintLast
set_option linter.unusedVariables false
set_option linter.unusedSimpArgs false

theorem back_loop (rest : List Int) : ∀ (k : Nat) (L b : List Int) (s i : Int), 0 ≤ i → L.drop i.toNat = rest → i ≤ L.length → L.length ≤ 60 → (∀ c ∈ L, isScal c = true) → 0 ≤ s → s + (textV rest).length = b.length → b.length ≤ 240 → rest.length + 70 < k →
    orthoepylaw02_Utf8Back.l0 k L b L (b.length : Int) true s i = some true := by
  induction rest with
  | nil =>
    intro k L b s i h0 hx hi hl hs hs0 hsum hb hk
    obtain ⟨k, rfl⟩ : ∃ m, k = m + 1 := ⟨k - 1, by omega⟩
    have hlen : (L.length : Int) = i := by
      have := congrArg List.length hx
      simp at this
      omega
    simp only [orthoepylaw02_Utf8Back.l0]
    simp [textV] at hsum
    rw [if_neg (by omega), same_val k L (by omega) (by simp at hk; omega)]
    simp [hsum, orthoepylaw02_awake.f]
  | cons x r ih =>
    intro k L b s i h0 hx hi hl hs hs0 hsum hb hk
    obtain ⟨k, rfl⟩ : ∃ m, k = m + 1 := ⟨k - 1, by omega⟩
    obtain ⟨hrd, hlt, hdrop⟩ := rd_drop L i x r h0 hx
    have hsx : isScal x = true := hs x (List.mem_of_mem_drop (by rw [hx]; simp))
    have ew : wrap64 (i + 1) = i + 1 := by unfold wrap64; omega
    have hlen : ((encV x).length : Int) = if x < 128 then 1 else if x < 2048 then 2 else if x < 65536 then 3 else 4 := by
      unfold encV
      rw [if_pos hsx]
      (repeat' split) <;> rfl
    rw [textV_cons] at hsum
    simp only [List.length_append] at hsum
    have hst : ((textV r).length : Int) ≥ 0 := by omega
    simp only [orthoepylaw02_Utf8Back.l0]
    rw [if_pos (by omega), if_pos h0, hrd, ew]
    have go : ∀ d : Int, (d = 1 ∨ d = 2 ∨ d = 3 ∨ d = 4) → ((encV x).length : Int) = d → orthoepylaw02_Utf8Back.l0 k L b L (b.length : Int) true (wrap64 (s + d)) (i + 1) = some true := by
      intro d hd he
      have ed : wrap64 (s + d) = s + d := by unfold wrap64; omega
      rw [ed]
      exact ih k L b (s + d) (i + 1) (by omega) hdrop (by omega) hl hs (by omega) (by omega) hb (by simp at hk; omega)
    by_cases c1 : x < 128
    · rw [if_pos c1]
      exact go 1 (by simp) (by rw [hlen, if_pos c1])
    · rw [if_neg c1]
      by_cases c2 : x < 2048
      · rw [if_pos c2]
        exact go 2 (by simp) (by rw [hlen, if_neg c1, if_pos c2])
      · rw [if_neg c2]
        by_cases c3 : x < 65536
        · rw [if_pos c3]
          exact go 3 (by simp) (by rw [hlen, if_neg c1, if_neg c2, if_pos c3])
        · rw [if_neg c3]
          exact go 4 (by simp) (by rw [hlen, if_neg c1, if_neg c2, if_neg c3])
theorem Utf8Back : orthoepylaw02_Utf8Back.Pure := by
  intro v hv0 hv hvw
  obtain ⟨K, hK⟩ : ∃ K : Nat, 400 ≤ K := ⟨400, Nat.le_refl _⟩
  refine ⟨K, ?_⟩
  unfold orthoepylaw02_Utf8Back.f
  obtain ⟨L, hL, hs, hl⟩ := runes_val K v (by omega) (by omega)
  rw [hL]
  simp only [Option.bind_some]
  have ht := textV_len L
  rw [text_val K L (by omega) (by omega)]
  simp only [Option.bind_some]
  rw [all_val K (textV L) (textV_byt L) (by omega) (by omega), allV_text L hs [] 0]
  simp only [Option.bind_some, List.nil_append, Int.zero_add]
  exact back_loop L K L (textV L) 0 0 (by omega) rfl (by omega) hl hs (by omega) (by omega) (by omega) (by omega)

end Go.Proofs.Ytoalfgmnikbpaaa.Pure
