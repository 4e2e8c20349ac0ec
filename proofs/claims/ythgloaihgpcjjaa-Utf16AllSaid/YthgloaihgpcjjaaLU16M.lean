/- UTF-16 by hand: units told again, and the order of units. -/
import Derived.Test.YthgloaihgpcjjaaLU16
import Derived.Test.YthgloaihgpcjjaaPAllx5
namespace Go.Proofs.Ythgloaihgpcjjaa.Pure
open Go.RowKit Go.Proofs.Ythgloaihgpcjjaa.PAll Go.Proofs.YthgloaihgpcjjaaW.PrintWords Go.Proofs.YthgloaihgpcjjaaW.PrintLast Go.Proofs.YthgloaihgpcjjaaW.PrintMore
set_option linter.unusedVariables false
set_option linter.unusedSimpArgs false

/-! ### Scalars by numbers -/
theorem place_val (n m : Int) (hm : 0 < m) (hm' : m < 4000000000000000000) : orthoepylaw00_Place.f n m = some (n % m) := by
  unfold orthoepylaw00_Place.f
  rw [if_neg (by omega)]
  have h1 := Int.tmod_lt_of_pos n hm
  have h2 := Int.lt_tmod_of_pos n hm
  have h3 : n.tmod m % m = n % m := by rw [Int.tmod_def, Int.sub_mul_emod_self_left]
  by_cases h : Int.tmod n m < 0
  · rw [if_pos h]
    have e : wrap64 (Int.tmod n m + m) = Int.tmod n m + m := by unfold wrap64; omega
    rw [e, ← h3]
    congr 1
    rw [← Int.add_emod_right, Int.emod_eq_of_lt (by omega) (by omega)]
  · rw [if_neg h, ← h3, Int.emod_eq_of_lt (by omega) (by omega)]
theorem rune_val (n : Int) : ∃ c, orthoepylaw00_Rune.f n = some c ∧ 0 ≤ c ∧ c ≤ 2147483647 := by
  have h0 := Int.emod_nonneg n (b := 1099511627776) (by decide)
  have h1 := Int.emod_lt_of_pos n (b := 1099511627776) (by decide)
  refine ⟨runeV (n % 1099511627776), ?_, runeV_bound _ h0⟩
  unfold orthoepylaw00_Rune.f
  rw [place_val n _ (by decide) (by decide)]
  simp only [Option.bind_some]
  rw [if_pos ⟨h0, h1⟩]
theorem runes_l0 (d : Nat) : ∀ (k : Nat) (x0 acc : List Int) (i : Int), 0 ≤ i → i ≤ 60 → 60 - i = d → 2 * d + 2 ≤ k → (∀ c ∈ acc, isScal c = true) → (acc.length : Int) ≤ i → x0.length ≤ 140737488355328 →
    ∃ L, orthoepylaw00_Runes.l0 k x0 acc i = some L ∧ (∀ c ∈ L, isScal c = true) ∧ L.length ≤ 60 := by
  induction d with
  | zero =>
    intro k x0 acc i h0 hi hd hk ha hl hx
    obtain ⟨k, rfl⟩ : ∃ m, k = m + 2 := ⟨k - 2, by omega⟩
    obtain rfl : i = 60 := by omega
    simp only [orthoepylaw00_Runes.l0, orthoepylaw00_Runes.j1]
    split <;> exact ⟨acc, by simp, ha, by omega⟩
  | succ d ih =>
    intro k x0 acc i h0 hi hd hk ha hl hx
    obtain ⟨k, rfl⟩ : ∃ m, k = m + 2 := ⟨k - 2, by omega⟩
    have ew : wrap64 (i + 1) = i + 1 := by unfold wrap64; omega
    simp only [orthoepylaw00_Runes.l0, orthoepylaw00_Runes.j1]
    by_cases hlt : i < (x0.length : Int)
    · rw [if_pos hlt, if_pos (by simp; omega), if_pos h0]
      simp only [hlt, if_true]
      obtain ⟨c, hc, _⟩ := rune_val (rd x0 i)
      rw [hc]
      simp only [Option.bind_some]
      rw [ris_val]
      simp only [Option.bind_some]
      cases hs : isScal c with
      | true =>
        simp only [if_true]
        rw [if_pos (by omega), ew]
        exact ih k x0 (acc ++ [c]) (i + 1) (by omega) (by omega) (by omega) (by omega) (fun q hq => by
          rcases List.mem_append.1 hq with hq | hq
          · exact ha q hq
          · simp at hq; rw [hq]; exact hs) (by simp; omega) hx
      | false =>
        simp only [Bool.false_eq_true, if_false]
        rw [ew]
        exact ih k x0 acc (i + 1) (by omega) (by omega) (by omega) (by omega) ha (by omega) hx
    · rw [if_neg hlt]
      exact ⟨acc, by simp, ha, by omega⟩
theorem runes_val (k : Nat) (x0 : List Int) (hk : 122 ≤ k) (hx : x0.length ≤ 140737488355328) : ∃ L, orthoepylaw00_Runes.f k x0 = some L ∧ (∀ c ∈ L, isScal c = true) ∧ L.length ≤ 60 := by
  unfold orthoepylaw00_Runes.f
  exact runes_l0 60 k x0 [] 0 (by omega) (by omega) (by omega) (by omega) (fun _ h => by cases h) (by simp) hx
theorem same_l (xs : List Int) (d : Nat) : ∀ (k : Nat) (i : Int), 0 ≤ i → (xs.length : Int) - i = d → d < k → xs.length < 1000000000000 → orthoepyref07_Same.l0 k xs xs i = some true := by
  induction d with
  | zero =>
    intro k i h0 hd hk hl
    obtain ⟨k, rfl⟩ : ∃ m, k = m + 1 := ⟨k - 1, by omega⟩
    simp only [orthoepyref07_Same.l0]
    rw [if_neg (by omega)]
  | succ d ih =>
    intro k i h0 hd hk hl
    obtain ⟨k, rfl⟩ : ∃ m, k = m + 1 := ⟨k - 1, by omega⟩
    simp only [orthoepyref07_Same.l0]
    have e : wrap64 (i + 1) = i + 1 := by unfold wrap64; omega
    rw [if_pos (show i < (xs.length : Int) by omega), if_pos h0, if_pos (show i < (xs.length : Int) by omega), e]
    simp only [if_true]
    exact ih k (i + 1) (by omega) (by omega) (by omega) hl
theorem same_val (k : Nat) (xs : List Int) (hl : xs.length < 1000000000000) (hk : xs.length < k) : orthoepyref07_Same.f k xs xs = some true := by
  unfold orthoepyref07_Same.f
  rw [if_pos rfl]
  exact same_l xs xs.length k 0 (by omega) (by omega) hk hl

/-! ### Units told again; the order -/
theorem scV_nosur (acc : List Int) (at_ u : Int) (r : List Int) (h1 : hiS u = false) (h2 : loS u = false) : scV acc at_ (u :: r) = scV (acc ++ [u]) (at_ + 1) r := by
  cases r with
  | nil => simp [scV, h1, h2]
  | cons v r => simp [scV, h1, h2]
theorem scV_unit (acc : List Int) (at_ c : Int) (r : List Int) (hc : isScal c = true) : scV acc at_ (unV c ++ r) = scV (acc ++ [c]) (at_ + (unV c).length) r := by
  have hb : 0 ≤ c ∧ c ≤ 1114111 ∧ (c < 55296 ∨ c > 57343) := by
    unfold isScal at hc
    simpa only [decide_eq_true_eq] using hc
  unfold unV
  rw [if_pos hc]
  by_cases h : c < 65536
  · rw [if_pos h]
    have h1 : hiS c = false := by
      unfold hiS
      exact decide_eq_false (by omega)
    have h2 : loS c = false := by
      unfold loS
      exact decide_eq_false (by omega)
    simpa using scV_nosur acc at_ c r h1 h2
  · rw [if_neg h]
    have h1 : hiS (55296 + (c - 65536) / 1024) = true := by
      unfold hiS
      exact decide_eq_true (by omega)
    have h2 : loS (56320 + (c - 65536) % 1024) = true := by
      unfold loS
      exact decide_eq_true (by omega)
    have h3 : joinV (55296 + (c - 65536) / 1024) (56320 + (c - 65536) % 1024) = c := by
      unfold joinV
      omega
    simp [scV, h1, h2, h3]
theorem scV_units (l : List Int) : ∀ (acc : List Int) (at_ : Int) (r : List Int), (∀ c ∈ l, isScal c = true) → scV acc at_ (l.flatMap unV ++ r) = scV (acc ++ l) (at_ + (l.flatMap unV).length) r := by
  induction l with
  | nil => intro acc at_ r _; simp
  | cons c l ih =>
    intro acc at_ r h
    rw [List.flatMap_cons, List.append_assoc, scV_unit _ _ _ _ (h c (by simp)), ih _ _ _ (fun d hd => h d (by simp [hd]))]
    rw [List.append_assoc, List.length_append]
    simp only [List.singleton_append]
    congr 1
    omega
theorem scV_all (l : List Int) (h : ∀ c ∈ l, isScal c = true) : scV [] 0 (l.flatMap unV) = (l, ((l.flatMap unV).length : Int), true) := by
  have := scV_units l [] 0 [] h
  simpa [scV] using this
theorem units_inj (l m : List Int) (hl : ∀ c ∈ l, isScal c = true) (hm : ∀ c ∈ m, isScal c = true) (h : l.flatMap unV = m.flatMap unV) : l = m := by
  have h1 := scV_all l hl
  rw [h, scV_all m hm] at h1
  exact (congrArg (·.1) h1).symm
theorem units_u16 (l : List Int) : U16 (l.flatMap unV) := by
  intro x hx
  obtain ⟨c, _, hc⟩ := List.mem_flatMap.1 hx
  unfold unV at hc
  split at hc
  · rename_i hs
    unfold isScal at hs
    simp only [decide_eq_true_eq] at hs
    split at hc
    · simp at hc; omega
    · simp at hc; omega
  · cases hc
theorem cmpV_range : ∀ (p q : List Int), cmpV p q = -1 ∨ cmpV p q = 0 ∨ cmpV p q = 1
  | [], [] => by simp [cmpV]
  | [], _ :: _ => by simp [cmpV]
  | _ :: _, [] => by simp [cmpV]
  | a :: r, b :: s => by
    simp only [cmpV]
    split
    · simp
    · split
      · simp
      · exact cmpV_range r s
theorem cmpV_self : ∀ p : List Int, cmpV p p = 0
  | [] => rfl
  | a :: r => by simp [cmpV, cmpV_self r]
theorem cmpV_eq : ∀ (p q : List Int), cmpV p q = 0 → p = q
  | [], [], _ => rfl
  | [], _ :: _, h => by simp [cmpV] at h
  | _ :: _, [], h => by simp [cmpV] at h
  | a :: r, b :: s, h => by
    simp only [cmpV] at h
    split at h
    · cases h
    · split at h
      · cases h
      · rw [cmpV_eq r s h]
        congr 1
        omega
theorem cmpV_neg : ∀ (p q : List Int), cmpV p q = -(cmpV q p)
  | [], [] => rfl
  | [], _ :: _ => rfl
  | _ :: _, [] => rfl
  | a :: r, b :: s => by
    simp only [cmpV]
    by_cases h1 : a < b
    · rw [if_pos h1, if_neg (by omega), if_pos (by omega)]
    · rw [if_neg h1]
      by_cases h2 : a > b
      · rw [if_pos h2, if_pos (by omega)]
        rfl
      · rw [if_neg h2, if_neg (by omega), if_neg (by omega)]
        exact cmpV_neg r s
theorem cmpV_trans : ∀ (p q t : List Int), cmpV p q ≤ 0 → cmpV q t ≤ 0 → cmpV p t ≤ 0
  | [], q, t, _, _ => by cases t <;> simp [cmpV]
  | a :: r, [], t, h, _ => by simp [cmpV] at h
  | a :: r, b :: s, [], _, h => by simp [cmpV] at h
  | a :: r, b :: s, c :: t, h, h' => by
    simp only [cmpV] at h h' ⊢
    by_cases h1 : a < b
    · by_cases h3 : b > c
      · rw [if_neg (by omega), if_pos h3] at h'
        omega
      · rw [if_pos (by omega)]
        omega
    · rw [if_neg h1] at h
      by_cases h2 : a > b
      · rw [if_pos h2] at h
        omega
      · rw [if_neg h2] at h
        by_cases h3 : b < c
        · rw [if_pos (by omega)]
          omega
        · rw [if_neg h3] at h'
          by_cases h4 : b > c
          · rw [if_pos h4] at h'
            omega
          · rw [if_neg h4] at h'
            rw [if_neg (by omega), if_neg (by omega)]
            exact cmpV_trans r s t h h'
theorem cmpV_more : ∀ (p q : List Int), q ≠ [] → cmpV p (p ++ q) = -1
  | [], [], h => absurd rfl h
  | [], _ :: _, _ => rfl
  | a :: r, q, h => by simp [cmpV, cmpV_more r q h]
theorem unV_ne (c : Int) (h : isScal c = true) : unV c ≠ [] := by
  unfold unV
  rw [if_pos h]
  split <;> simp
theorem dsame_l (d : Nat) : ∀ (k : Nat) (p q xs ys : List Int) (i : Int), 0 ≤ i → i ≤ xs.length → xs.drop i.toNat = p → ys.drop i.toNat = q → xs.length = ys.length → p.length = d → d < k → xs.length < 1000000000000 → orthoepyref07_Same.l0 k xs ys i = some (decide (p = q)) := by
  induction d with
  | zero =>
    intro k p q xs ys i h0 hi hp hq hxy hd hk hl
    obtain ⟨k, rfl⟩ : ∃ m, k = m + 1 := ⟨k - 1, by omega⟩
    have hn : p = [] := List.length_eq_zero_iff.mp (by omega)
    have e1 := drop_nil h0 hi (by rw [hp, hn])
    have hqn : q = [] := by
      rw [← hq]
      exact List.drop_eq_nil_of_le (by omega)
    simp only [orthoepyref07_Same.l0]
    rw [if_neg (by omega), hn, hqn]
    simp
  | succ d ih =>
    intro k p q xs ys i h0 hi hp hq hxy hd hk hl
    obtain ⟨k, rfl⟩ : ∃ m, k = m + 1 := ⟨k - 1, by omega⟩
    cases p with
    | nil => simp at hd
    | cons a r =>
      obtain ⟨hra, hlt, hdrop⟩ := rd_drop xs i a r h0 hp
      cases q with
      | nil =>
        have e1 := drop_nil h0 (by omega) hq
        omega
      | cons b s =>
        obtain ⟨hrb, hlt1, hdrop1⟩ := rd_drop ys i b s h0 hq
        have ew : wrap64 (i + 1) = i + 1 := by unfold wrap64; omega
        simp only [orthoepyref07_Same.l0]
        rw [if_pos (by omega), if_pos h0, if_pos (by omega), hra, hrb, ew]
        by_cases h : a = b
        · rw [if_pos h, ih k r s xs ys (i + 1) (by omega) (by omega) hdrop hdrop1 hxy (by simpa using hd) (by omega) hl]
          simp [h]
        · rw [if_neg h]
          simp [h]
theorem dsame_val (k : Nat) (xs ys : List Int) (hl : xs.length < 1000000000000) (hk : xs.length < k) : orthoepyref07_Same.f k xs ys = some (decide (xs = ys)) := by
  unfold orthoepyref07_Same.f
  by_cases h : (xs.length : Int) = ys.length
  · rw [if_pos h]
    exact dsame_l xs.length k xs ys xs ys 0 (by omega) (by omega) rfl rfl (by omega) rfl hk hl
  · rw [if_neg h]
    congr 1
    symm
    exact decide_eq_false (fun hh => h (by rw [hh]))
theorem scal_le {l : List Int} (h : ∀ c ∈ l, isScal c = true) : ∀ c ∈ l, c ≤ 2147483647 := by
  intro c hc
  have := h c hc
  unfold isScal at this
  simp only [decide_eq_true_eq] at this
  omega
theorem scal_r32 {l : List Int} (h : ∀ c ∈ l, isScal c = true) : R32 l := by
  intro c hc
  have := h c hc
  unfold isScal at this
  simp only [decide_eq_true_eq] at this
  omega
theorem wf_r32 {l : List Int} (h : ∀ x ∈ l, (Lit.int .i32 x).wf = true) : R32 l := by
  intro x hx
  have := h x hx
  simp [Lit.wf, IntKind.min, IntKind.max, IntKind.bits, IntKind.signed] at this
  omega
theorem wf_u16 {l : List Int} (h : ∀ x ∈ l, (Lit.int .u16 x).wf = true) : U16 l := by
  intro x hx
  have := h x hx
  simp [Lit.wf, IntKind.min, IntKind.max, IntKind.bits, IntKind.signed] at this
  omega

end Go.Proofs.Ythgloaihgpcjjaa.Pure
