/- The law HangulBack: each syllable, split and joined from the left, is itself, its parts are of the kinds 1, 2, 3; for every number; no condition. -/
import Derived.Test.YtabgbcgllcopeaaPHangulBackx2
namespace Go.Proofs.Ytabgbcgllcopeaa.Pure
open Go.RowKit Go.Proofs.Ytabgbcgllcopeaa.PHangulBack Go.Proofs.YtabgbcgllcopeaaW.PrintWords Go.Proofs.YtabgbcgllcopeaaW.PrintLast
set_option linter.unusedVariables false
set_option linter.unusedSimpArgs false

theorem wf_i32 {n : Int} (h : (Lit.int .i32 n).wf = true) : -2147483648 ≤ n ∧ n ≤ 2147483647 := by
  simp [Lit.wf, IntKind.min, IntKind.max, IntKind.bits, IntKind.signed] at h
  omega
/-- What a code point is in a syllable. -/
def kindV (c : Int) : Int :=
  if 4352 ≤ c ∧ c ≤ 4370 then 1 else if 4449 ≤ c ∧ c ≤ 4469 then 2 else if 4520 ≤ c ∧ c ≤ 4546 then 3 else if c < 44032 ∨ c > 55203 then 0 else if (c - 44032) % 28 = 0 then 4 else 5
theorem in_val (c a m : Int) (h0 : -2147483648 ≤ c) (h1 : c ≤ 2147483647) (ha : 0 ≤ a) (ha' : a ≤ 2147483647) : hangul_in.f c a m = some (decide (a ≤ c ∧ c - a < m)) := by
  unfold hangul_in.f
  by_cases h : c ≥ a
  · rw [if_pos h]
    have e : wrap32 (c - a) = c - a := by unfold wrap32; omega
    rw [e]
    congr 1
    rw [Bool.eq_iff_iff]
    simp only [decide_eq_true_eq]
    omega
  · rw [if_neg h]
    congr 1
    symm
    simp only [decide_eq_false_iff_not]
    omega
theorem of_val (k : Nat) (c : Int) (h0 : -2147483648 ≤ c) (h1 : c ≤ 2147483647) : hangul_of.f (k + 1) c = some (kindV c) := by
  unfold hangul_of.f kindV
  rw [in_val c _ _ h0 h1 (by decide) (by decide), in_val c _ _ h0 h1 (by decide) (by decide), in_val c _ _ h0 h1 (by decide) (by decide)]
  simp only [Option.bind_some, decide_eq_true_eq]
  by_cases c1 : 4352 ≤ c ∧ c ≤ 4370
  · rw [if_pos c1, if_pos (by omega)]
  · rw [if_neg c1, if_neg (by omega)]
    by_cases c2 : 4449 ≤ c ∧ c ≤ 4469
    · rw [if_pos c2, if_pos (by omega)]
    · rw [if_neg c2, if_neg (by omega)]
      by_cases c3 : 4520 ≤ c ∧ c ≤ 4546
      · rw [if_pos c3, if_pos (by omega)]
      · rw [if_neg c3, if_neg (by omega)]
        by_cases c4 : c < 44032 ∨ c > 55203
        · rw [if_pos c4]
          by_cases c5 : c < 44032
          · simp [hangul_of.j0, c5]
          · have c6 : c > 55203 := by omega
            simp [hangul_of.j0, c5, c6]
        · rw [if_neg c4]
          have c5 : ¬ c < 44032 := by omega
          have c6 : ¬ c > 55203 := by omega
          have e : Int.tmod (wrap32 (c - 44032)) 28 = (c - 44032) % 28 := by
            have e : wrap32 (c - 44032) = c - 44032 := by unfold wrap32; omega
            rw [e, Int.tmod_eq_emod_of_nonneg (by omega)]
          rw [if_neg c5]
          simp only [hangul_of.j0, c6, decide_false, Bool.false_eq_true, if_false, e]
          split <;> rfl
theorem kind_val (k : Nat) (c : Int) (h0 : -2147483648 ≤ c) (h1 : c ≤ 2147483647) : hangul_Kind.f (k + 1) c = some (kindV c) := by
  unfold hangul_Kind.f
  rw [of_val k c h0 h1]
  rfl
/-- Its parts. -/
def splitV (c : Int) : List Int :=
  if kindV c = 4 then [4352 + (c - 44032) / 588, 4449 + (c - 44032) % 588 / 28] else if kindV c = 5 then [4352 + (c - 44032) / 588, 4449 + (c - 44032) % 588 / 28, 4519 + (c - 44032) % 28] else []
theorem kindV_ge {c : Int} (h : kindV c = 4 ∨ kindV c = 5) : 44032 ≤ c ∧ c ≤ 55203 := by
  unfold kindV at h
  (repeat' split at h) <;> omega
theorem kindV_4 {c : Int} : kindV c = 4 ↔ 44032 ≤ c ∧ c ≤ 55203 ∧ (c - 44032) % 28 = 0 := by
  unfold kindV
  (repeat' split) <;> omega
theorem kindV_5 {c : Int} : kindV c = 5 ↔ 44032 ≤ c ∧ c ≤ 55203 ∧ (c - 44032) % 28 ≠ 0 := by
  unfold kindV
  (repeat' split) <;> omega
theorem kindV_range (c : Int) : 0 ≤ kindV c ∧ kindV c ≤ 5 := by
  unfold kindV
  (repeat' split) <;> omega
theorem parts_wrap (c : Int) (h0 : 44032 ≤ c) (h1 : c ≤ 55203) :
    wrap32 (c - 44032) = c - 44032 ∧ wrap32 (4352 + (wrap32 (Int.tdiv (c - 44032) 588))) = 4352 + (c - 44032) / 588 ∧
    wrap32 (4449 + (wrap32 (Int.tdiv (Int.tmod (c - 44032) 588) 28))) = 4449 + (c - 44032) % 588 / 28 ∧ Int.tmod (c - 44032) 28 = (c - 44032) % 28 ∧ wrap32 (4519 + (c - 44032) % 28) = 4519 + (c - 44032) % 28 := by
  have e1 : Int.tdiv (c - 44032) 588 = (c - 44032) / 588 := Int.tdiv_eq_ediv_of_nonneg (by omega)
  have e2 : Int.tmod (c - 44032) 588 = (c - 44032) % 588 := Int.tmod_eq_emod_of_nonneg (by omega)
  have e3 : Int.tmod (c - 44032) 28 = (c - 44032) % 28 := Int.tmod_eq_emod_of_nonneg (by omega)
  have e4 : Int.tdiv ((c - 44032) % 588) 28 = (c - 44032) % 588 / 28 := Int.tdiv_eq_ediv_of_nonneg (by omega)
  rw [e1, e2, e3, e4]
  refine ⟨by unfold wrap32; omega, by unfold wrap32; omega, by unfold wrap32; omega, rfl, by unfold wrap32; omega⟩
theorem split_val (k : Nat) (c : Int) (h0 : -2147483648 ≤ c) (h1 : c ≤ 2147483647) : hangul_Split.f (k + 1) c = some (splitV c) := by
  unfold hangul_Split.f splitV
  rw [of_val k c h0 h1]
  simp only [Option.bind_some]
  by_cases c4 : kindV c = 4
  · obtain ⟨p0, p1⟩ := kindV_ge (.inl c4)
    obtain ⟨e1, e2, e3, e4, e5⟩ := parts_wrap c p0 p1
    rw [if_pos c4, if_pos c4]
    simp only [hangul_Split.j0]
    rw [if_pos (by simp [c4]), e1, e2, e3]
    simp only [Option.bind_some, List.length_nil, List.length_cons, Nat.zero_add, List.nil_append]
    rw [if_pos (by decide), if_neg (by omega)]
  · rw [if_neg c4, if_neg c4]
    simp only [hangul_Split.j0]
    by_cases c5 : kindV c = 5
    · obtain ⟨p0, p1⟩ := kindV_ge (.inr c5)
      obtain ⟨e1, e2, e3, e4, e5⟩ := parts_wrap c p0 p1
      rw [if_pos (by simp [c5]), if_pos c5, e1, e2, e3, e4, e5]
      simp only [Option.bind_some, List.length_nil, List.length_cons, Nat.zero_add, List.nil_append]
      rw [if_pos (by decide), if_pos c5, if_pos (by decide)]
      rfl
    · rw [if_neg (by simp [c5]), if_neg c5]
/-- What two parts are joined. -/
def joinV (a b : Int) : Int × Bool :=
  if kindV a = 1 ∧ kindV b = 2 then (44032 + (a - 4352) * 588 + (b - 4449) * 28, true) else if kindV a = 4 ∧ kindV b = 3 then (a + b - 4519, true) else (0, false)
theorem kindV_1 {c : Int} : kindV c = 1 ↔ 4352 ≤ c ∧ c ≤ 4370 := by
  unfold kindV
  (repeat' split) <;> omega
theorem kindV_2 {c : Int} : kindV c = 2 ↔ 4449 ≤ c ∧ c ≤ 4469 := by
  unfold kindV
  (repeat' split) <;> omega
theorem kindV_3 {c : Int} : kindV c = 3 ↔ 4520 ≤ c ∧ c ≤ 4546 := by
  unfold kindV
  (repeat' split) <;> omega
theorem join_val (k : Nat) (a b : Int) (h0 : -2147483648 ≤ a) (h1 : a ≤ 2147483647) (h2 : -2147483648 ≤ b) (h3 : b ≤ 2147483647) : hangul_Join.f (k + 1) a b = some (joinV a b) := by
  unfold hangul_Join.f joinV
  rw [of_val k a h0 h1, of_val k b h2 h3]
  simp only [Option.bind_some, hangul_Join.j0]
  by_cases c1 : kindV a = 1
  · have p1 := kindV_1.1 c1
    by_cases c2 : kindV b = 2
    · have p2 := kindV_2.1 c2
      have e : wrap32 (wrap32 (44032 + wrap32 (wrap32 (a - 4352) * 588)) + wrap32 (wrap32 (b - 4449) * 28)) = 44032 + (a - 4352) * 588 + (b - 4449) * 28 := by unfold wrap32; omega
      simp [c1, c2, e]
    · simp [c1, c2]
  · by_cases c4 : kindV a = 4
    · have p1 := kindV_4.1 c4
      by_cases c5 : kindV b = 3
      · have p2 := kindV_3.1 c5
        have e : wrap32 (wrap32 (a + b) - 4519) = a + b - 4519 := by unfold wrap32; omega
        simp [c4, c5, e]
      · simp [c4, c5]
    · simp [c1, c4]
theorem awake_true (k : Nat) : orthoepylaw06_awake.f (k + 1) = some true := by
  unfold orthoepylaw06_awake.f
  have e1 : joinV 4352 4449 = (44032, true) := by decide
  have e2 : joinV 44032 4520 = (44033, true) := by decide
  have e3 : joinV 44033 4520 = (0, false) := by decide
  have e4 : splitV 44033 = [4352, 4449, 4520] := by decide
  have e5 : kindV 44032 = 4 := by decide
  have e6 : kindV 44033 = 5 := by decide
  have e7 : kindV 97 = 0 := by decide
  rw [split_val k 44033 (by decide) (by decide), join_val k 4352 4449 (by decide) (by decide) (by decide) (by decide), e1, e4]
  simp only [Option.bind_some]
  rw [join_val k 44032 4520 (by decide) (by decide) (by decide) (by decide), e2]
  simp only [Option.bind_some]
  rw [join_val k 44033 4520 (by decide) (by decide) (by decide) (by decide), e3, kind_val k 44032 (by decide) (by decide), e5, kind_val k 44033 (by decide) (by decide), e6, kind_val k 97 (by decide) (by decide), e7]
  decide

theorem place_val (n m : Int) (hm : 0 < m) (hm' : m < 1000000) : orthoepylaw00_Place.f n m = some (n % m) := by
  unfold orthoepylaw00_Place.f
  rw [if_neg (by omega)]
  have h1 := Int.tmod_lt_of_pos n hm
  have h2 := Int.lt_tmod_of_pos n hm
  have h3 : n.tmod m % m = n % m := by rw [Int.tmod_def, Int.sub_mul_emod_self_left]
  by_cases h : Int.tmod n m < 0
  · rw [if_pos h]
    have e : wrap64 (Int.tmod n m + m) = Int.tmod n m + m := by unfold wrap64; omega
    rw [e, ← h3]
    congr 1
    rw [← Int.add_emod_right, Int.emod_eq_of_lt (by omega) (by omega)]
  · rw [if_neg h, ← h3, Int.emod_eq_of_lt (by omega) (by omega)]
theorem back_j1 (k : Nat) (c : Int) (h0 : 44032 ≤ c) (h1 : c ≤ 55203) (hk : kindV c = 5) : orthoepylaw06_HangulBack.j1 (k + 2) c (splitV c) (44032 + (c - 44032) / 588 * 588 + (c - 44032) % 588 / 28 * 28) true true = some true := by
  have hs : splitV c = [4352 + (c - 44032) / 588, 4449 + (c - 44032) % 588 / 28, 4519 + (c - 44032) % 28] := by
    unfold splitV
    rw [if_neg (by omega), if_pos hk]
  have p := kindV_5.1 hk
  have hl : ((splitV c).length : Int) = 3 := by rw [hs]; rfl
  have e2 : rd (splitV c) 2 = 4519 + (c - 44032) % 28 := by rw [hs]; rfl
  have e3 : kindV (4519 + (c - 44032) % 28) = 3 := kindV_3.2 (by omega)
  have e4 : kindV (44032 + (c - 44032) / 588 * 588 + (c - 44032) % 588 / 28 * 28) = 4 := kindV_4.2 (by omega)
  have e5 : joinV (44032 + (c - 44032) / 588 * 588 + (c - 44032) % 588 / 28 * 28) (4519 + (c - 44032) % 28) = (c, true) := by
    unfold joinV
    rw [if_neg (by omega), if_pos ⟨e4, e3⟩]
    congr 1
    omega
  simp only [orthoepylaw06_HangulBack.j1, hl]
  rw [e2, join_val k _ _ (by omega) (by omega) (by omega) (by omega), e5, awake_true]
  simp [kind_val k (4519 + (c - 44032) % 28) (by omega) (by omega), e3]
theorem HangulBack : orthoepylaw06_HangulBack.Pure := by
  intro n hn
  refine ⟨3, ?_⟩
  unfold orthoepylaw06_HangulBack.f
  rw [place_val n 11172 (by decide) (by decide)]
  simp only [Option.bind_some]
  have hr0 := Int.emod_nonneg n (b := 11172) (by decide)
  have hr1 := Int.emod_lt_of_pos n (b := 11172) (by decide)
  generalize hc : 44032 + n % 11172 = c
  have e : wrap32 (wrap64 c) = c := by unfold wrap32 wrap64; omega
  rw [e, split_val 2 c (by omega) (by omega)]
  simp only [Option.bind_some]
  have k4 : kindV c = 4 ∨ kindV c = 5 := by
    by_cases h : (c - 44032) % 28 = 0
    · exact .inl (kindV_4.2 (by omega))
    · exact .inr (kindV_5.2 (by omega))
  have kp : kindV (4352 + (c - 44032) / 588) = 1 := kindV_1.2 (by omega)
  have kq : kindV (4449 + (c - 44032) % 588 / 28) = 2 := kindV_2.2 (by omega)
  have ej : joinV (4352 + (c - 44032) / 588) (4449 + (c - 44032) % 588 / 28) = (44032 + (c - 44032) / 588 * 588 + (c - 44032) % 588 / 28 * 28, true) := by
    unfold joinV
    rw [if_pos ⟨kp, kq⟩]
    congr 1
    omega
  have r0 : rd (splitV c) 0 = 4352 + (c - 44032) / 588 := by
    unfold splitV
    rcases k4 with k4 | k5
    · rw [if_pos k4]; rfl
    · rw [if_neg (by omega), if_pos k5]; rfl
  have r1 : rd (splitV c) 1 = 4449 + (c - 44032) % 588 / 28 := by
    unfold splitV
    rcases k4 with k4 | k5
    · rw [if_pos k4]; rfl
    · rw [if_neg (by omega), if_pos k5]; rfl
  have v0 := kind_val 2 (4352 + (c - 44032) / 588) (by omega) (by omega)
  have v1 := kind_val 2 (4449 + (c - 44032) % 588 / 28) (by omega) (by omega)
  have v2 := kind_val 2 c (by omega) (by omega)
  have v3 := join_val 1 (4352 + (c - 44032) / 588) (4449 + (c - 44032) % 588 / 28) (by omega) (by omega) (by omega) (by omega)
  rw [kp] at v0
  rw [kq] at v1
  rw [ej] at v3
  rcases k4 with k4 | k5
  · have hl : ((splitV c).length : Int) = 2 := by unfold splitV; rw [if_pos k4]; rfl
    have p := kindV_4.1 k4
    have e6 : 44032 + (c - 44032) / 588 * 588 + (c - 44032) % 588 / 28 * 28 = c := by omega
    rw [k4] at v2
    rw [e6] at v3
    simp [hl, r0, r1, v0, v1, v2, orthoepylaw06_HangulBack.j0, orthoepylaw06_HangulBack.j1, v3, awake_true]
  · have hl : ((splitV c).length : Int) = 3 := by unfold splitV; rw [if_neg (by omega), if_pos k5]; rfl
    have hj := back_j1 0 c (by omega) (by omega) k5
    rw [k5] at v2
    simp only [Nat.zero_add] at hj v0 v1 v2 v3
    simp only [hl, r0, r1, v0, v1, v2, orthoepylaw06_HangulBack.j0, v3, Option.bind_some]
    simpa using hj

end Go.Proofs.Ytabgbcgllcopeaa.Pure
