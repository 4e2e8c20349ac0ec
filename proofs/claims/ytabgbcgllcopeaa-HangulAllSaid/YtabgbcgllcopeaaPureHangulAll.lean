/- The law HangulAll: of whatever runes, kind, parts and what two are joined are what the reference tells; no condition. -/
import Derived.Test.YtabgbcgllcopeaaPHangulAllx2
namespace Go.Proofs.Ytabgbcgllcopeaa.Pure
open Go.RowKit Go.Proofs.Ytabgbcgllcopeaa.PHangulAll Go.Proofs.YtabgbcgllcopeaaW.PrintWords Go.Proofs.YtabgbcgllcopeaaW.PrintLast
set_option linter.unusedVariables false
set_option linter.unusedSimpArgs false

theorem wf_i32 {n : Int} (h : (Lit.int .i32 n).wf = true) : -2147483648 ≤ n ∧ n ≤ 2147483647 := by
  simp [Lit.wf, IntKind.min, IntKind.max, IntKind.bits, IntKind.signed] at h
  omega
/-- What a code point is in a syllable. -/
def kindV (c : Int) : Int :=
  if 4352 ≤ c ∧ c ≤ 4370 then 1 else if 4449 ≤ c ∧ c ≤ 4469 then 2 else if 4520 ≤ c ∧ c ≤ 4546 then 3 else if c < 44032 ∨ c > 55203 then 0 else if (c - 44032) % 28 = 0 then 4 else 5
theorem in_val (c a m : Int) (h0 : -2147483648 ≤ c) (h1 : c ≤ 2147483647) (ha : 0 ≤ a) (ha' : a ≤ 2147483647) : hangul_in.f c a m = some (decide (a ≤ c ∧ c - a < m)) := by
  unfold hangul_in.f
  by_cases h : c ≥ a
  · rw [if_pos h]
    have e : wrap32 (c - a) = c - a := by unfold wrap32; omega
    rw [e]
    congr 1
    rw [Bool.eq_iff_iff]
    simp only [decide_eq_true_eq]
    omega
  · rw [if_neg h]
    congr 1
    symm
    simp only [decide_eq_false_iff_not]
    omega
theorem of_val (k : Nat) (c : Int) (h0 : -2147483648 ≤ c) (h1 : c ≤ 2147483647) : hangul_of.f (k + 1) c = some (kindV c) := by
  unfold hangul_of.f kindV
  rw [in_val c _ _ h0 h1 (by decide) (by decide), in_val c _ _ h0 h1 (by decide) (by decide), in_val c _ _ h0 h1 (by decide) (by decide)]
  simp only [Option.bind_some, decide_eq_true_eq]
  by_cases c1 : 4352 ≤ c ∧ c ≤ 4370
  · rw [if_pos c1, if_pos (by omega)]
  · rw [if_neg c1, if_neg (by omega)]
    by_cases c2 : 4449 ≤ c ∧ c ≤ 4469
    · rw [if_pos c2, if_pos (by omega)]
    · rw [if_neg c2, if_neg (by omega)]
      by_cases c3 : 4520 ≤ c ∧ c ≤ 4546
      · rw [if_pos c3, if_pos (by omega)]
      · rw [if_neg c3, if_neg (by omega)]
        by_cases c4 : c < 44032 ∨ c > 55203
        · rw [if_pos c4]
          by_cases c5 : c < 44032
          · simp [hangul_of.j0, c5]
          · have c6 : c > 55203 := by omega
            simp [hangul_of.j0, c5, c6]
        · rw [if_neg c4]
          have c5 : ¬ c < 44032 := by omega
          have c6 : ¬ c > 55203 := by omega
          have e : Int.tmod (wrap32 (c - 44032)) 28 = (c - 44032) % 28 := by
            have e : wrap32 (c - 44032) = c - 44032 := by unfold wrap32; omega
            rw [e, Int.tmod_eq_emod_of_nonneg (by omega)]
          rw [if_neg c5]
          simp only [hangul_of.j0, c6, decide_false, Bool.false_eq_true, if_false, e]
          split <;> rfl
theorem kind_val (k : Nat) (c : Int) (h0 : -2147483648 ≤ c) (h1 : c ≤ 2147483647) : hangul_Kind.f (k + 1) c = some (kindV c) := by
  unfold hangul_Kind.f
  rw [of_val k c h0 h1]
  rfl
/-- Its parts. -/
def splitV (c : Int) : List Int :=
  if kindV c = 4 then [4352 + (c - 44032) / 588, 4449 + (c - 44032) % 588 / 28] else if kindV c = 5 then [4352 + (c - 44032) / 588, 4449 + (c - 44032) % 588 / 28, 4519 + (c - 44032) % 28] else []
theorem kindV_ge {c : Int} (h : kindV c = 4 ∨ kindV c = 5) : 44032 ≤ c ∧ c ≤ 55203 := by
  unfold kindV at h
  (repeat' split at h) <;> omega
theorem kindV_4 {c : Int} : kindV c = 4 ↔ 44032 ≤ c ∧ c ≤ 55203 ∧ (c - 44032) % 28 = 0 := by
  unfold kindV
  (repeat' split) <;> omega
theorem kindV_5 {c : Int} : kindV c = 5 ↔ 44032 ≤ c ∧ c ≤ 55203 ∧ (c - 44032) % 28 ≠ 0 := by
  unfold kindV
  (repeat' split) <;> omega
theorem kindV_range (c : Int) : 0 ≤ kindV c ∧ kindV c ≤ 5 := by
  unfold kindV
  (repeat' split) <;> omega
theorem parts_wrap (c : Int) (h0 : 44032 ≤ c) (h1 : c ≤ 55203) :
    wrap32 (c - 44032) = c - 44032 ∧ wrap32 (4352 + (wrap32 (Int.tdiv (c - 44032) 588))) = 4352 + (c - 44032) / 588 ∧
    wrap32 (4449 + (wrap32 (Int.tdiv (Int.tmod (c - 44032) 588) 28))) = 4449 + (c - 44032) % 588 / 28 ∧ Int.tmod (c - 44032) 28 = (c - 44032) % 28 ∧ wrap32 (4519 + (c - 44032) % 28) = 4519 + (c - 44032) % 28 := by
  have e1 : Int.tdiv (c - 44032) 588 = (c - 44032) / 588 := Int.tdiv_eq_ediv_of_nonneg (by omega)
  have e2 : Int.tmod (c - 44032) 588 = (c - 44032) % 588 := Int.tmod_eq_emod_of_nonneg (by omega)
  have e3 : Int.tmod (c - 44032) 28 = (c - 44032) % 28 := Int.tmod_eq_emod_of_nonneg (by omega)
  have e4 : Int.tdiv ((c - 44032) % 588) 28 = (c - 44032) % 588 / 28 := Int.tdiv_eq_ediv_of_nonneg (by omega)
  rw [e1, e2, e3, e4]
  refine ⟨by unfold wrap32; omega, by unfold wrap32; omega, by unfold wrap32; omega, rfl, by unfold wrap32; omega⟩
theorem split_val (k : Nat) (c : Int) (h0 : -2147483648 ≤ c) (h1 : c ≤ 2147483647) : hangul_Split.f (k + 1) c = some (splitV c) := by
  unfold hangul_Split.f splitV
  rw [of_val k c h0 h1]
  simp only [Option.bind_some]
  by_cases c4 : kindV c = 4
  · obtain ⟨p0, p1⟩ := kindV_ge (.inl c4)
    obtain ⟨e1, e2, e3, e4, e5⟩ := parts_wrap c p0 p1
    rw [if_pos c4, if_pos c4]
    simp only [hangul_Split.j0]
    rw [if_pos (by simp [c4]), e1, e2, e3]
    simp only [Option.bind_some, List.length_nil, List.length_cons, Nat.zero_add, List.nil_append]
    rw [if_pos (by decide), if_neg (by omega)]
  · rw [if_neg c4, if_neg c4]
    simp only [hangul_Split.j0]
    by_cases c5 : kindV c = 5
    · obtain ⟨p0, p1⟩ := kindV_ge (.inr c5)
      obtain ⟨e1, e2, e3, e4, e5⟩ := parts_wrap c p0 p1
      rw [if_pos (by simp [c5]), if_pos c5, e1, e2, e3, e4, e5]
      simp only [Option.bind_some, List.length_nil, List.length_cons, Nat.zero_add, List.nil_append]
      rw [if_pos (by decide), if_pos c5, if_pos (by decide)]
      rfl
    · rw [if_neg (by simp [c5]), if_neg c5]
/-- What two parts are joined. -/
def joinV (a b : Int) : Int × Bool :=
  if kindV a = 1 ∧ kindV b = 2 then (44032 + (a - 4352) * 588 + (b - 4449) * 28, true) else if kindV a = 4 ∧ kindV b = 3 then (a + b - 4519, true) else (0, false)
theorem kindV_1 {c : Int} : kindV c = 1 ↔ 4352 ≤ c ∧ c ≤ 4370 := by
  unfold kindV
  (repeat' split) <;> omega
theorem kindV_2 {c : Int} : kindV c = 2 ↔ 4449 ≤ c ∧ c ≤ 4469 := by
  unfold kindV
  (repeat' split) <;> omega
theorem kindV_3 {c : Int} : kindV c = 3 ↔ 4520 ≤ c ∧ c ≤ 4546 := by
  unfold kindV
  (repeat' split) <;> omega
theorem join_val (k : Nat) (a b : Int) (h0 : -2147483648 ≤ a) (h1 : a ≤ 2147483647) (h2 : -2147483648 ≤ b) (h3 : b ≤ 2147483647) : hangul_Join.f (k + 1) a b = some (joinV a b) := by
  unfold hangul_Join.f joinV
  rw [of_val k a h0 h1, of_val k b h2 h3]
  simp only [Option.bind_some, hangul_Join.j0]
  by_cases c1 : kindV a = 1
  · have p1 := kindV_1.1 c1
    by_cases c2 : kindV b = 2
    · have p2 := kindV_2.1 c2
      have e : wrap32 (wrap32 (44032 + wrap32 (wrap32 (a - 4352) * 588)) + wrap32 (wrap32 (b - 4449) * 28)) = 44032 + (a - 4352) * 588 + (b - 4449) * 28 := by unfold wrap32; omega
      simp [c1, c2, e]
    · simp [c1, c2]
  · by_cases c4 : kindV a = 4
    · have p1 := kindV_4.1 c4
      by_cases c5 : kindV b = 3
      · have p2 := kindV_3.1 c5
        have e : wrap32 (wrap32 (a + b) - 4519) = a + b - 4519 := by unfold wrap32; omega
        simp [c4, c5, e]
      · simp [c4, c5]
    · simp [c1, c4]
theorem awake_true (k : Nat) : orthoepylaw06_awake.f (k + 1) = some true := by
  unfold orthoepylaw06_awake.f
  have e1 : joinV 4352 4449 = (44032, true) := by decide
  have e2 : joinV 44032 4520 = (44033, true) := by decide
  have e3 : joinV 44033 4520 = (0, false) := by decide
  have e4 : splitV 44033 = [4352, 4449, 4520] := by decide
  have e5 : kindV 44032 = 4 := by decide
  have e6 : kindV 44033 = 5 := by decide
  have e7 : kindV 97 = 0 := by decide
  rw [split_val k 44033 (by decide) (by decide), join_val k 4352 4449 (by decide) (by decide) (by decide) (by decide), e1, e4]
  simp only [Option.bind_some]
  rw [join_val k 44032 4520 (by decide) (by decide) (by decide) (by decide), e2]
  simp only [Option.bind_some]
  rw [join_val k 44033 4520 (by decide) (by decide) (by decide) (by decide), e3, kind_val k 44032 (by decide) (by decide), e5, kind_val k 44033 (by decide) (by decide), e6, kind_val k 97 (by decide) (by decide), e7]
  decide

theorem rkind_val (k : Nat) (c : Int) (h0 : -2147483648 ≤ c) (h1 : c ≤ 2147483647) : orthoepyref06_Kind.f (k + 4) c = some (kindV c) := by
  unfold orthoepyref06_Kind.f kindV
  have e28 : ¬ (c < 44032 ∨ c > 55203) → Int.tmod (wrap32 (c - 44032)) 28 = (c - 44032) % 28 := by
    intro h
    have e : wrap32 (c - 44032) = c - 44032 := by unfold wrap32; omega
    rw [e, Int.tmod_eq_emod_of_nonneg (by omega)]
  have j3 : ∀ b, b = decide (c < 44032 ∨ c > 55203) → orthoepyref06_Kind.j3 (k + 1) c b = some (if c < 44032 ∨ c > 55203 then 0 else if (c - 44032) % 28 = 0 then 4 else 5) := by
    intro b hb
    subst hb
    simp only [orthoepyref06_Kind.j3, decide_eq_true_eq]
    by_cases h : c < 44032 ∨ c > 55203
    · rw [if_pos h, if_pos h]
    · rw [if_neg h, if_neg h, e28 h]
      split <;> rfl
  have j2 : ∀ b, b = decide (4520 ≤ c ∧ c ≤ 4546) → orthoepyref06_Kind.j2 (k + 2) c b = some (if 4520 ≤ c ∧ c ≤ 4546 then 3 else if c < 44032 ∨ c > 55203 then 0 else if (c - 44032) % 28 = 0 then 4 else 5) := by
    intro b hb
    subst hb
    simp only [orthoepyref06_Kind.j2, decide_eq_true_eq]
    by_cases h : 4520 ≤ c ∧ c ≤ 4546
    · rw [if_pos h, if_pos h]
    · rw [if_neg h, if_neg h]
      by_cases h' : c < 44032
      · rw [if_pos h', j3 true (by simp [h'])]
      · rw [if_neg h', j3 _ (by simp [h'])]
  have j1 : ∀ b, b = decide (4449 ≤ c ∧ c ≤ 4469) → orthoepyref06_Kind.j1 (k + 3) c b = some (if 4449 ≤ c ∧ c ≤ 4469 then 2 else if 4520 ≤ c ∧ c ≤ 4546 then 3 else if c < 44032 ∨ c > 55203 then 0 else if (c - 44032) % 28 = 0 then 4 else 5) := by
    intro b hb
    subst hb
    simp only [orthoepyref06_Kind.j1, decide_eq_true_eq]
    by_cases h : 4449 ≤ c ∧ c ≤ 4469
    · rw [if_pos h, if_pos h]
    · rw [if_neg h, if_neg h]
      by_cases h' : c ≥ 4520
      · rw [if_pos h', j2 _ (by simp [h'])]
      · rw [if_neg h', j2 _ (by symm; simp only [decide_eq_false_iff_not]; omega)]
  have j0 : ∀ b, b = decide (4352 ≤ c ∧ c ≤ 4370) → orthoepyref06_Kind.j0 (k + 4) c b = some (if 4352 ≤ c ∧ c ≤ 4370 then 1 else if 4449 ≤ c ∧ c ≤ 4469 then 2 else if 4520 ≤ c ∧ c ≤ 4546 then 3 else if c < 44032 ∨ c > 55203 then 0 else if (c - 44032) % 28 = 0 then 4 else 5) := by
    intro b hb
    subst hb
    simp only [orthoepyref06_Kind.j0, decide_eq_true_eq]
    by_cases h : 4352 ≤ c ∧ c ≤ 4370
    · rw [if_pos h, if_pos h]
    · rw [if_neg h, if_neg h]
      by_cases h' : c ≥ 4449
      · rw [if_pos h', j1 _ (by simp [h'])]
      · rw [if_neg h', j1 _ (by symm; simp only [decide_eq_false_iff_not]; omega)]
  by_cases h' : c ≥ 4352
  · rw [if_pos h', j0 _ (by simp [h'])]
  · rw [if_neg h', j0 _ (by symm; simp only [decide_eq_false_iff_not]; omega)]
theorem rsplit_val (k : Nat) (c : Int) (h0 : -2147483648 ≤ c) (h1 : c ≤ 2147483647) : orthoepyref06_Split.f (k + 4) c = some (splitV c) := by
  unfold orthoepyref06_Split.f splitV
  rw [rkind_val k c h0 h1]
  simp only [Option.bind_some]
  by_cases c4 : kindV c = 4
  · obtain ⟨p0, p1⟩ := kindV_ge (.inl c4)
    obtain ⟨e1, e2, e3, e4, e5⟩ := parts_wrap c p0 p1
    have p2 := kindV_4.1 c4
    rw [if_neg (by omega), if_pos c4, e1, e2, e3, e4]
    simp only [Option.bind_some, List.length_nil, List.length_cons]
    rw [if_neg (by omega)]
  · rw [if_neg c4]
    by_cases c5 : kindV c = 5
    · obtain ⟨p0, p1⟩ := kindV_ge (.inr c5)
      obtain ⟨e1, e2, e3, e4, e5⟩ := parts_wrap c p0 p1
      have p2 := kindV_5.1 c5
      rw [if_neg (by omega), if_pos c5, e1, e2, e3, e4, e5]
      simp only [Option.bind_some, List.length_nil, List.length_cons]
      rw [if_pos (by omega), if_pos (by decide)]
      rfl
    · have := kindV_range c
      rw [if_pos (by omega), if_neg c5]
theorem rjoin_val (k : Nat) (a b : Int) (h0 : -2147483648 ≤ a) (h1 : a ≤ 2147483647) (h2 : -2147483648 ≤ b) (h3 : b ≤ 2147483647) : orthoepyref06_Join.f (k + 5) a b = some (joinV a b) := by
  have j0 : ∀ q, q = decide (kindV a = 1 ∧ kindV b = 2) → orthoepyref06_Join.j0 (k + 5) a b q = some (joinV a b) := by
    intro q hq
    subst hq
    simp only [orthoepyref06_Join.j0, decide_eq_true_eq]
    unfold joinV
    by_cases c : kindV a = 1 ∧ kindV b = 2
    · have p1 := kindV_1.1 c.1
      have p2 := kindV_2.1 c.2
      rw [if_pos c, if_pos c]
      congr 2
      unfold wrap32
      omega
    · rw [if_neg c, if_neg c, rkind_val k a h0 h1, rkind_val k b h2 h3]
      simp only [Option.bind_some]
      by_cases c4 : kindV a = 4
      · rw [if_pos c4]
        by_cases c5 : kindV b = 3
        · have p1 := kindV_4.1 c4
          have p2 := kindV_3.1 c5
          rw [if_pos c5, if_pos ⟨c4, c5⟩]
          congr 2
          unfold wrap32
          omega
        · rw [if_neg c5, if_neg (by simp [c5])]
      · rw [if_neg c4, if_neg (by simp [c4])]
  unfold orthoepyref06_Join.f
  rw [show k + 5 = (k + 1) + 4 from rfl, rkind_val (k + 1) a h0 h1, rkind_val (k + 1) b h2 h3]
  simp only [Option.bind_some]
  by_cases c1 : kindV a = 1
  · rw [if_pos c1]
    exact j0 _ (by simp [c1]; rw [Bool.eq_iff_iff]; simp)
  · rw [if_neg c1]
    exact j0 _ (by simp [c1])
theorem same_l (xs : List Int) (d : Nat) : ∀ (k : Nat) (i : Int), 0 ≤ i → (xs.length : Int) - i = d → d < k → xs.length < 1000 → orthoepyref07_Same.l0 k xs xs i = some true := by
  induction d with
  | zero =>
    intro k i h0 hd hk hl
    obtain ⟨k, rfl⟩ : ∃ m, k = m + 1 := ⟨k - 1, by omega⟩
    simp only [orthoepyref07_Same.l0]
    rw [if_neg (by omega)]
  | succ d ih =>
    intro k i h0 hd hk hl
    obtain ⟨k, rfl⟩ : ∃ m, k = m + 1 := ⟨k - 1, by omega⟩
    simp only [orthoepyref07_Same.l0]
    have e : wrap64 (i + 1) = i + 1 := by unfold wrap64; omega
    rw [if_pos (show i < (xs.length : Int) by omega), if_pos h0, if_pos (show i < (xs.length : Int) by omega), e]
    simp only [if_true]
    exact ih k (i + 1) (by omega) (by omega) (by omega) hl
theorem HangulAll : orthoepylaw06_HangulAll.Pure := by
  intro c a b hc ha hb
  have hc := wf_i32 hc
  have ha := wf_i32 ha
  have hb := wf_i32 hb
  refine ⟨9, ?_⟩
  unfold orthoepylaw06_HangulAll.f
  rw [join_val 8 a b ha.1 ha.2 hb.1 hb.2, rjoin_val 4 a b ha.1 ha.2 hb.1 hb.2, kind_val 8 c hc.1 hc.2, rkind_val 5 c hc.1 hc.2, kind_val 8 a ha.1 ha.2, rkind_val 5 a ha.1 ha.2, split_val 8 c hc.1 hc.2, rsplit_val 5 c hc.1 hc.2, awake_true]
  have hs : (splitV c).length ≤ 3 := by unfold splitV; (repeat' split) <;> simp
  have es : orthoepyref07_Same.f 9 (splitV c) (splitV c) = some true := by
    unfold orthoepyref07_Same.f
    rw [if_pos rfl]
    exact same_l _ (splitV c).length 9 0 (by omega) (by omega) (by omega) (by omega)
  simp [es]

end Go.Proofs.Ytabgbcgllcopeaa.Pure
