/- Where no scalar is great the order of units is the order of scalars, and of their bytes; with one great and one from E000 on it is turned. -/
import Derived.Test.YthgloaihgpcjjaaPAllx7
import Derived.Test.YthgloaihgpcjjaaLU16
import Derived.Test.YthgloaihgpcjjaaLU16M
namespace Go.Proofs.Ythgloaihgpcjjaa.Pure
open Go.RowKit Go.Proofs.Ythgloaihgpcjjaa.PAll Go.Proofs.YthgloaihgpcjjaaW.PrintWords Go.Proofs.YthgloaihgpcjjaaW.PrintLast
set_option linter.unusedVariables false
set_option linter.unusedSimpArgs false

/-- The order of rows of bytes. -/
def lexB : List Int → List Int → Bool
  | _, [] => false
  | [], _ :: _ => true
  | a :: x, b :: y => if a < b then true else if a = b then lexB x y else false
def encV (c : Int) : List Int :=
  if c < 128 then [c] else if c < 2048 then [192 + c / 64, 128 + c % 64]
  else if c < 65536 then [224 + c / 4096, 128 + c / 64 % 64, 128 + c % 64]
  else [240 + c / 262144, 128 + c / 4096 % 64, 128 + c / 64 % 64, 128 + c % 64]
theorem u8_lt (a b : Int) (ha : 0 ≤ a ∧ a ≤ 255) (hb : 0 ≤ b ∧ b ≤ 255) : (UInt8.ofNat a.toNat < UInt8.ofNat b.toNat) ↔ a < b := by
  rw [UInt8.lt_iff_toNat_lt, UInt8.toNat_ofNat', UInt8.toNat_ofNat', Nat.mod_eq_of_lt (by omega), Nat.mod_eq_of_lt (by omega)]
  omega
theorem u8_eq (a b : Int) (ha : 0 ≤ a ∧ a ≤ 255) (hb : 0 ≤ b ∧ b ≤ 255) : (UInt8.ofNat a.toNat = UInt8.ofNat b.toNat) ↔ a = b := by
  rw [← UInt8.toNat_inj, UInt8.toNat_ofNat', UInt8.toNat_ofNat', Nat.mod_eq_of_lt (by omega), Nat.mod_eq_of_lt (by omega)]
  omega
theorem less_lex : ∀ (x y : List Int), (∀ a ∈ x, 0 ≤ a ∧ a ≤ 255) → (∀ a ∈ y, 0 ≤ a ∧ a ≤ 255) → Op.bytesLess (x.map fun a => UInt8.ofNat a.toNat) (y.map fun a => UInt8.ofNat a.toNat) = lexB x y
  | x, [], _, _ => by cases x <;> simp [Op.bytesLess, lexB]
  | [], b :: y, _, _ => by simp [Op.bytesLess, lexB]
  | a :: x, b :: y, hx, hy => by
    have ha := hx a (by simp)
    have hb := hy b (by simp)
    simp only [List.map_cons, Op.bytesLess, lexB]
    rw [less_lex x y (fun c hc => hx c (by simp [hc])) (fun c hc => hy c (by simp [hc]))]
    by_cases h : a < b
    · rw [if_pos h, decide_eq_true ((u8_lt a b ha hb).2 h), Bool.true_or]
    · rw [if_neg h, decide_eq_false (fun hh => h ((u8_lt a b ha hb).1 hh)), Bool.false_or]
      by_cases h2 : a = b
      · rw [if_pos h2, h2, beq_self_eq_true, Bool.true_and]
      · rw [if_neg h2, beq_eq_false_iff_ne.mpr (fun hh => h2 ((u8_eq a b ha hb).1 hh)), Bool.false_and]
theorem rbytes_enc (c : Int) (h : isScal c = true) : orthoepyref02_Bytes.f c = some (encV c) := by
  have hb : 0 ≤ c ∧ c ≤ 1114111 := by
    unfold isScal at h
    simp only [decide_eq_true_eq] at h
    omega
  unfold orthoepyref02_Bytes.f encV
  rw [ris_val, Option.bind_some, if_pos h]
  rw [Int.tdiv_eq_ediv_of_nonneg hb.1, Int.tdiv_eq_ediv_of_nonneg hb.1, Int.tdiv_eq_ediv_of_nonneg hb.1, Int.tmod_eq_emod_of_nonneg hb.1]
  rw [w32 (c / 64) (by omega) (by omega), w32 (c / 4096) (by omega) (by omega), w32 (c / 262144) (by omega) (by omega), Int.tmod_eq_emod_of_nonneg (by omega), Int.tmod_eq_emod_of_nonneg (by omega)]
  rw [w32 (192 + c / 64) (by omega) (by omega), w32 (128 + c % 64) (by omega) (by omega), w32 (224 + c / 4096) (by omega) (by omega), w32 (128 + c / 64 % 64) (by omega) (by omega), w32 (240 + c / 262144) (by omega) (by omega), w32 (128 + c / 4096 % 64) (by omega) (by omega)]
  (repeat' split) <;> (congr 1; simp only [List.cons.injEq, and_true]; omega)
theorem enc_byt (c : Int) (h : isScal c = true) : ∀ a ∈ encV c, 0 ≤ a ∧ a ≤ 255 := by
  have hb : 0 ≤ c ∧ c ≤ 1114111 := by
    unfold isScal at h
    simp only [decide_eq_true_eq] at h
    omega
  intro a ha
  unfold encV at ha
  split at ha
  · simp only [List.mem_cons, List.not_mem_nil, or_false] at ha; omega
  · split at ha
    · simp only [List.mem_cons, List.not_mem_nil, or_false] at ha; omega
    · split at ha <;> (simp only [List.mem_cons, List.not_mem_nil, or_false] at ha; omega)
theorem enc_lex (c d : Int) (h : isScal c = true) (h' : isScal d = true) : lexB (encV c) (encV d) = decide (c < d) := by
  have hb : 0 ≤ c ∧ c ≤ 1114111 := by
    unfold isScal at h
    simp only [decide_eq_true_eq] at h
    omega
  have hd : 0 ≤ d ∧ d ≤ 1114111 := by
    unfold isScal at h'
    simp only [decide_eq_true_eq] at h'
    omega
  clear h h'
  unfold encV
  (repeat' split) <;> (simp only [lexB]; (repeat' split) <;> (first | (symm; exact decide_eq_true (by omega)) | (symm; exact decide_eq_false (by omega))))
theorem one_units (c : Int) : [c].flatMap unV = unV c := by simp
theorem scal_cmp (c d : Int) (h : isScal c = true) (h' : isScal d = true) : cmpV (unV c) (unV d) = if c = d then 0 else if (c < d) ↔ ¬ ((65536 ≤ c ∧ 57344 ≤ d ∧ d < 65536) ∨ (65536 ≤ d ∧ 57344 ≤ c ∧ c < 65536)) then -1 else 1 := by
  unfold unV
  rw [if_pos h, if_pos h']
  unfold isScal at h h'
  simp only [decide_eq_true_eq] at h h'
  by_cases e : c = d
  · subst e
    rw [if_pos rfl, cmpV_self]
  · rw [if_neg e]
    by_cases h1 : c < 65536
    · by_cases h2 : d < 65536
      · rw [if_pos h1, if_pos h2]
        simp only [cmpV]
        by_cases h3 : c < d
        · rw [if_pos h3, if_pos (by omega)]
        · rw [if_neg h3, if_pos (by omega), if_neg (by omega)]
      · rw [if_pos h1, if_neg h2]
        simp only [cmpV]
        by_cases h3 : c < 55296
        · rw [if_pos (by omega), if_pos (by omega)]
        · rw [if_neg (by omega), if_pos (by omega), if_neg (by omega)]
    · by_cases h2 : d < 65536
      · rw [if_neg h1, if_pos h2]
        simp only [cmpV]
        by_cases h3 : d < 55296
        · rw [if_neg (by omega), if_pos (by omega), if_neg (by omega)]
        · rw [if_pos (by omega), if_pos (by omega)]
      · rw [if_neg h1, if_neg h2]
        simp only [cmpV]
        by_cases h3 : c < d
        · rw [if_pos (show (c < d ↔ _) by omega)]
          by_cases h4 : (c - 65536) / 1024 < (d - 65536) / 1024
          · rw [if_pos (by omega)]
          · rw [if_neg (by omega), if_neg (by omega), if_pos (by omega)]
        · rw [if_neg (show ¬ (c < d ↔ _) by omega)]
          by_cases h4 : (c - 65536) / 1024 > (d - 65536) / 1024
          · rw [if_neg (by omega), if_pos (by omega)]
          · rw [if_neg (by omega), if_neg (by omega), if_neg (by omega), if_pos (by omega)]

theorem nums_list (xs : List Int) : (strOfNums xs).toList = xs.map fun a => UInt8.ofNat a.toNat := by
  rw [ByteArray.toList_eq]
  rfl
theorem scalars_fin (c d : Int) (q : Prop) [Decidable q] (hcd : q → c ≠ d) :
    (if (decide (c < d) != decide q) = true then (if (decide ((if c = d then (0 : Int) else if c < d ↔ ¬q then -1 else 1) < 0) == (c != d)) = true then (if (((if c = d then (0 : Int) else if c < d ↔ ¬q then -1 else 1) == 0) == (c == d)) = true then (orthoepylaw03_awake.f.bind fun t => some t) else some false) else some false)
      else (if (decide ((if c = d then (0 : Int) else if c < d ↔ ¬q then -1 else 1) < 0) == false) = true then (if (((if c = d then (0 : Int) else if c < d ↔ ¬q then -1 else 1) == 0) == (c == d)) = true then (orthoepylaw03_awake.f.bind fun t => some t) else some false) else some false)) = some true := by
  by_cases e : c = d
  · subst e
    have hnq : ¬ q := fun hh => hcd hh rfl
    simp [hnq, orthoepylaw03_awake.f]
  · by_cases l : c < d
    · by_cases hq : q <;> simp [e, l, hq, orthoepylaw03_awake.f]
    · by_cases hq : q <;> simp [e, l, hq, orthoepylaw03_awake.f]
theorem scalars_j1 (K : Nat) (hK : 100 ≤ K) (c d n : Int) (h : isScal c = true) (h' : isScal d = true) :
    orthoepylaw03_Utf16Scalars.j1 (K + 1) n c d (cmpV (unV c) (unV d)) (decide (c < d)) (decide ((65536 ≤ c ∧ 57344 ≤ d ∧ d < 65536) ∨ (65536 ≤ d ∧ 57344 ≤ c ∧ c < 65536))) = some true := by
  have h0 := Int.emod_nonneg n (b := 1048576) (by decide)
  have h1 := Int.emod_lt_of_pos n (b := 1048576) (by decide)
  simp only [orthoepylaw03_Utf16Scalars.j1]
  rw [place_val n _ (by decide) (by decide), Option.bind_some]
  generalize n % 1048576 = m at h0 h1
  have ew : wrap32 (wrap64 (65536 + m)) = 65536 + m := by
    unfold wrap32 wrap64
    omega
  rw [ew]
  have hm : isScal (65536 + m) = true := by
    unfold isScal
    exact decide_eq_true (by omega)
  have c1 : utf16_Compare.f K [65536 + m] [57344] = some (-1) := by
    rw [compare_val K _ _ (by simp) (by simp) (by simp; omega) (by simp) (by simp; omega), one_units, one_units, scal_cmp _ _ hm (by decide), if_neg (by omega), if_pos (by omega)]
  have c2 : utf16_Compare.f K [65536 + m] [55295] = some 1 := by
    rw [compare_val K _ _ (by simp) (by simp) (by simp; omega) (by simp) (by simp; omega), one_units, one_units, scal_cmp _ _ hm (by decide), if_neg (by omega), if_neg (by omega)]
  rw [c1, c2, scal_cmp c d h h']
  clear c1 c2 hm ew
  simp only [Option.bind_some, if_true]
  refine scalars_fin c d _ (fun hh => ?_)
  omega
theorem Utf16Scalars : orthoepylaw03_Utf16Scalars.Pure := by
  intro n m k hn hm hk
  obtain ⟨K, hK⟩ : ∃ K : Nat, 100 ≤ K := ⟨100, Nat.le_refl _⟩
  refine ⟨K + 2, ?_⟩
  unfold orthoepylaw03_Utf16Scalars.f
  obtain ⟨c, hc, _, hc2⟩ := rune_val n
  obtain ⟨d, hd, _, hd2⟩ := rune_val m
  rw [hc, Option.bind_some, hd, Option.bind_some, ris_val, Option.bind_some, ris_val]
  simp only [Option.bind_some]
  have ja : orthoepylaw03_Utf16Scalars.j0 (K + 2) k c d true = some true := by
    simp [orthoepylaw03_Utf16Scalars.j0, orthoepylaw03_awake.f]
  by_cases h : isScal c = true
  · by_cases h' : isScal d = true
    · rw [if_pos h, h']
      simp only [Bool.not_true, orthoepylaw03_Utf16Scalars.j0]
      rw [if_neg (by decide), compare_val (K + 1) _ _ (by simp) (by simp) (by simpa using hc2) (by simpa using hd2) (by simp; omega), one_units, one_units, Option.bind_some, rbytes_enc c h, Option.bind_some, rbytes_enc d h', Option.bind_some]
      rw [nums_list, nums_list]
      have hbl : Op.bytesLess ((encV c).map fun a => UInt8.ofNat a.toNat) ((encV d).map fun a => UInt8.ofNat a.toNat) = decide (c < d) := by
        rw [← enc_lex c d h h']
        exact less_lex _ _ (enc_byt c h) (enc_byt d h')
      rw [hbl]
      have hj := scalars_j1 K hK c d k h h'
      have go : ∀ b : Bool, (b = true ↔ ((65536 ≤ c ∧ 57344 ≤ d ∧ d < 65536) ∨ (65536 ≤ d ∧ 57344 ≤ c ∧ c < 65536))) → orthoepylaw03_Utf16Scalars.j1 (K + 1) k c d (cmpV (unV c) (unV d)) (decide (c < d)) b = some true := by
        intro b hb
        rw [← hj]
        congr 1
        rw [Bool.eq_iff_iff, hb, decide_eq_true_eq]
      (repeat' split) <;> (refine go _ ?_; simp only [decide_eq_true_eq, Bool.false_eq_true, true_iff, false_iff]; omega)
    · rw [if_pos h, show isScal d = false by simpa using h']
      exact ja
  · rw [if_neg h]
    exact ja

end Go.Proofs.Ythgloaihgpcjjaa.Pure
