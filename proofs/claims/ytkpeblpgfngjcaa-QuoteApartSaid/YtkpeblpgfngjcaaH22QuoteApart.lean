/- QuoteApart: what is written of one text is not the beginning of what is written of another one. -/
import Derived.Test.YtkpeblpgfngjcaaPAllx1
import Derived.Test.YtkpeblpgfngjcaaPAllx2
import Derived.Test.YtkpeblpgfngjcaaPAllx3
import Derived.Test.YtkpeblpgfngjcaaPAllx4
import Derived.Test.YtkpeblpgfngjcaaPAllx5
import Derived.Test.YtkpeblpgfngjcaaHKit
import Derived.Test.YtkpeblpgfngjcaaLUtf
import Derived.Test.YtkpeblpgfngjcaaLRef
import Derived.Test.YtkpeblpgfngjcaaH12U
import Derived.Test.YtkpeblpgfngjcaaHQuote
import Derived.Test.YtkpeblpgfngjcaaHForms
import Derived.Test.YtkpeblpgfngjcaaHBuild
import Derived.Test.YtkpeblpgfngjcaaHBack
import Derived.Outline
import Derived.OwnWalk
import Derived.Laws.DeepStrings4
import Derived.Laws.Strings3
import Derived.Laws.Concat
import Derived.Lib.Strings
namespace Go.Proofs.Ytkpeblpgfngjcaa.Pure
open Go.RowKit Go.Proofs.Ytkpeblpgfngjcaa.PAll Go.Proofs.YtkpeblpgfngjcaaW.PrintWords Go.Proofs.YtkpeblpgfngjcaaW.PrintLast Go.Proofs.YtkpeblpgfngjcaaW.PrintMore
set_option linter.unusedVariables false
set_option linter.unusedSimpArgs false

/-! ### Laws over two texts -/
theorem bnums_cat (a b : ByteArray) : bnums (a ++ b) = bnums a ++ bnums b := by
  unfold bnums
  rw [← List.map_append]
  congr 1
theorem str_bnums (s : ByteArray) : strOfNums (bnums s) = s := by
  apply ByteArray.ext
  apply Array.ext'
  unfold strOfNums bnums
  simp only [List.map_map]
  conv => rhs; rw [← List.map_id s.data.toList]
  apply List.map_congr_left
  intro b _
  simp
theorem quote_cat (a b : List Int) : strOfNums (quoteL (a ++ b)) = strOfNums (34 :: a.flatMap qB) ++ strOfNums (b.flatMap qB ++ [34]) := by
  rw [str_app]
  unfold quoteL
  simp
theorem str_from_one (m : List Int) : (strOfNums (34 :: m)).extract 1 (strOfNums (34 :: m)).size = strOfNums m := by
  rw [str_size]
  apply ByteArray.ext
  simp only [ByteArray.data_extract, strOfNums]
  apply Array.ext'
  simp [List.take_of_length_le]
theorem str_but_last (m : List Int) (x : Int) : (strOfNums (m ++ [x])).extract 0 ((strOfNums (m ++ [x])).size - 1) = strOfNums m := by
  rw [str_size]
  apply ByteArray.ext
  simp only [ByteArray.data_extract, strOfNums]
  apply Array.ext'
  simp
theorem quote_head (a : List Int) : (strOfNums (quoteL a)).extract 0 ((strOfNums (quoteL a)).size - 1) = strOfNums (34 :: a.flatMap qB) := by
  have e : quoteL a = (34 :: a.flatMap qB) ++ [34] := rfl
  rw [e]
  exact str_but_last _ _
theorem quote_tail (a : List Int) : (strOfNums (quoteL a)).extract 1 (strOfNums (quoteL a)).size = strOfNums (a.flatMap qB ++ [34]) := by
  have e : quoteL a = 34 :: (a.flatMap qB ++ [34]) := rfl
  rw [e]
  exact str_from_one _
theorem quote_len (a : List Int) : (strOfNums (quoteL a)).size = (a.flatMap qB).length + 2 := by
  rw [str_size]
  unfold quoteL
  simp
theorem size_quote (l : List Int) : ((strOfNums (quoteL l)).size : Int) = ((quoteL l).length : Int) := by rw [str_size]

/-! ### What is written is no beginning of what is written of another text, plainly -/
def decB : List Int → Option (Int × List Int)
  | [] => none
  | z :: r => if z = 92 then (match r with
      | [] => none
      | y :: r => if y = 34 then some (34, r) else if y = 92 then some (92, r) else if y = 98 then some (8, r) else if y = 116 then some (9, r) else if y = 110 then some (10, r) else if y = 102 then some (12, r) else if y = 114 then some (13, r) else
        (match r with
          | _ :: _ :: d :: e :: r => some ((d - 48) * 16 + (if e < 58 then e - 48 else e - 87), r)
          | _ => none)) else some (z, r)
theorem decB_qB (x : Int) (r : List Int) : decB (qB x ++ r) = some (x, r) := by
  unfold qB
  by_cases h1 : x = 34 ∨ x = 92
  · rw [if_pos h1]
    rcases h1 with rfl | rfl <;> simp [decB]
  · rw [if_neg h1]
    by_cases h2 : x < 32
    · rw [if_pos h2]
      unfold oneL
      by_cases e8 : x = 8
      · rw [if_pos e8, e8]; rfl
      rw [if_neg e8]
      by_cases e9 : x = 9
      · rw [if_pos e9, e9]; rfl
      rw [if_neg e9]
      by_cases e10 : x = 10
      · rw [if_pos e10, e10]; rfl
      rw [if_neg e10]
      by_cases e12 : x = 12
      · rw [if_pos e12, e12]; rfl
      rw [if_neg e12]
      by_cases e13 : x = 13
      · rw [if_pos e13, e13]; rfl
      rw [if_neg e13]
      simp [decB]
      split
      · rw [if_pos (by omega)]; omega
      · rw [if_neg (by omega)]; omega
    · rw [if_neg h2]
      have h3 : ¬ x = 92 := fun q => h1 (.inr q)
      simp [decB, h3]
theorem qB_no34 (x : Int) (r t : List Int) : qB x ++ r ≠ 34 :: t := by
  intro e
  unfold qB oneL at e
  by_cases h1 : x = 34 ∨ x = 92
  · rw [if_pos h1] at e
    injection e with e _
    omega
  · rw [if_neg h1] at e
    split at e
    · (repeat' split at e) <;> (injection e with e _; omega)
    · injection e with e _
      exact h1 (.inl e)
theorem quote_prefix : ∀ (a b C : List Int), a.flatMap qB ++ [34] ++ C = b.flatMap qB ++ [34] → a = b
  | [], [], _, _ => rfl
  | [], y :: b, C, h => by
    have h2 : qB y ++ (b.flatMap qB ++ [34]) = 34 :: C := by simpa [List.append_assoc] using h.symm
    exact absurd h2 (qB_no34 y _ _)
  | x :: a, [], C, h => by
    rw [List.flatMap_cons, List.append_assoc, List.append_assoc] at h
    exact absurd h (qB_no34 x _ _)
  | x :: a, y :: b, C, h => by
    rw [List.flatMap_cons, List.flatMap_cons] at h
    have h2 : qB x ++ (a.flatMap qB ++ [34] ++ C) = qB y ++ (b.flatMap qB ++ [34]) := by simpa [List.append_assoc] using h
    have h3 := congrArg decB h2
    rw [decB_qB, decB_qB] at h3
    injection h3 with h3
    injection h3 with h4 h5
    rw [h4, quote_prefix a b C h5]
theorem quote_apart (a b : List Int) (k : Nat) (hk : k = min (quoteL a).length (quoteL b).length) (h : (quoteL a).take k = (quoteL b).take k) : a = b := by
  have ea : quoteL a = 34 :: (a.flatMap qB ++ [34]) := rfl
  have eb : quoteL b = 34 :: (b.flatMap qB ++ [34]) := rfl
  rcases Nat.le_total (quoteL a).length (quoteL b).length with hl | hl
  · rw [Nat.min_eq_left hl] at hk
    rw [hk, List.take_length] at h
    have h2 : quoteL a ++ (quoteL b).drop (quoteL a).length = quoteL b := by rw [h, List.length_take, Nat.min_eq_left hl, List.take_append_drop]
    rw [ea] at h2
    have h3 : (34 :: (a.flatMap qB ++ [34])) ++ (quoteL b).drop (34 :: (a.flatMap qB ++ [34])).length = 34 :: (b.flatMap qB ++ [34]) := h2
    injection h3 with _ h3
    exact quote_prefix a b _ h3
  · rw [Nat.min_eq_right hl] at hk
    rw [hk, List.take_length] at h
    have h2 : quoteL b ++ (quoteL a).drop (quoteL b).length = quoteL a := by rw [← h, List.length_take, Nat.min_eq_left hl, List.take_append_drop]
    rw [eb] at h2
    have h3 : (34 :: (b.flatMap qB ++ [34])) ++ (quoteL a).drop (34 :: (b.flatMap qB ++ [34])).length = 34 :: (a.flatMap qB ++ [34]) := h2
    injection h3 with _ h3
    exact (quote_prefix b a _ h3).symm
theorem nums_ext (s : ByteArray) (k : Nat) : bnums (s.extract 0 k) = (bnums s).take k := by
  unfold bnums
  simp
set_option maxHeartbeats 8000000 in
set_option maxRecDepth 100000 in
theorem quoteapart_any (a b : ByteArray) (w : World) :
    Calls Try.prog 9 #[.string a, .string b] w fun e w' => e = .returned (.bool true) ∧ Below w.heap.size w w' := by
  by_cases h1 : (200 : Int) < (a.size : Int)
  · have t1 : decide ((200 : Int) < (a.size : Int)) = true := decide_eq_true h1
    go_enter Try.func9, Try.ntmps9
    go_wp2_with (go_at_call 10; refine (awake_any _).mono ?_; rintro e w2 ⟨rfl, hk⟩; have HK2 := Aside0.mk hk; clear hk)
    go_ret
    exact ⟨rfl, HK2.out.below (fun _ q => q.elim) (Nat.le_refl _)⟩
  have t1 : decide ((200 : Int) < (a.size : Int)) = false := decide_eq_false h1
  by_cases h2 : (200 : Int) < (b.size : Int)
  · have t2 : decide ((200 : Int) < (b.size : Int)) = true := decide_eq_true h2
    go_enter Try.func9, Try.ntmps9
    go_wp2_with (go_at_call 10; refine (awake_any _).mono ?_; rintro e w2 ⟨rfl, hk⟩; have HK2 := Aside0.mk hk; clear hk)
    go_ret
    exact ⟨rfl, HK2.out.below (fun _ q => q.elim) (Nat.le_refl _)⟩
  have t2 : decide ((200 : Int) < (b.size : Int)) = false := decide_eq_false h2
  have ha : a.size ≤ 200 := by omega
  have hb : b.size ≤ 200 := by omega
  have hra := fun W => right_any a W (by omega)
  have hrb := fun W => right_any b W (by omega)
  obtain ⟨pa, hpa⟩ : ∃ p, (allV [] [] 0 (bnums a)).2.2 = p := ⟨_, rfl⟩
  obtain ⟨pb, hpb⟩ : ∃ p, (allV [] [] 0 (bnums b)).2.2 = p := ⟨_, rfl⟩
  simp only [hpa] at hra
  simp only [hpb] at hrb
  have HRA := Aside0.mk hra
  have HRB := Aside0.mk hrb
  clear hra hrb hpa hpb h1 h2
  cases pa with
  | false =>
    go_enter Try.func9, Try.ntmps9
    go_wp2_with (first
      | (go_at_call 13; refine (HRA.out _).mono ?_; rintro e w1 ⟨rfl, hk⟩; have HK1 := Aside0.mk hk; clear hk)
      | (go_at_call 10; refine (awake_any _).mono ?_; rintro e w2 ⟨rfl, hk⟩; have HK2 := Aside0.mk (HK1.out.trans hk (fun _ q => q.elim)); clear hk))
    go_ret
    exact ⟨rfl, HK2.out.below (fun _ q => q.elim) (Nat.le_refl _)⟩
  | true =>
    cases pb with
    | false =>
      go_enter Try.func9, Try.ntmps9
      go_wp2_with (first
        | (go_at_call 13; refine (HRA.out _).mono ?_; rintro e w1 ⟨rfl, hk⟩; have HK1 := Aside0.mk hk; clear hk HRA)
        | (go_at_call 13; refine (HRB.out _).mono ?_; rintro e w2 ⟨rfl, hk⟩; have HK2 := Aside0.mk (HK1.out.trans hk (fun _ q => q.elim)); clear hk HRB)
        | (go_at_call 10; refine (awake_any _).mono ?_; rintro e w3 ⟨rfl, hk⟩; have HK3 := Aside0.mk (HK2.out.trans hk (fun _ q => q.elim)); clear hk))
      go_ret
      exact ⟨rfl, HK3.out.below (fun _ q => q.elim) (Nat.le_refl _)⟩
    | true =>
      have hqa := fun W => quote_any a W (by omega)
      have hqb := fun W => quote_any b W (by omega)
      have hfa := flat_len (bnums a)
      have hfb := flat_len (bnums b)
      rw [bnums_len] at hfa hfb
      have hza := quote_len (bnums a)
      have hzb := quote_len (bnums b)
      have hba := bnums_nums (quoteL (bnums a)) (byt_app (byt_app (byt_nums rfl) (flat_byt (bnums_byt a))) (byt_nums rfl))
      have hbb := bnums_nums (quoteL (bnums b)) (byt_app (byt_app (byt_nums rfl) (flat_byt (bnums_byt b))) (byt_nums rfl))
      by_cases hab : a = b
      · subst hab
        obtain ⟨X, hX⟩ : ∃ X, strOfNums (quoteL (bnums a)) = X := ⟨_, rfl⟩
        simp only [hX] at hqa hqb
        rw [hX] at hza
        have hXs : 2 ≤ X.size ∧ X.size ≤ 1202 := by omega
        have hXi : (0 : Int) ≤ (X.size : Int) := by omega
        have t3 : decide ((2 : Int) ≤ (X.size : Int)) = true := decide_eq_true (by omega)
        have hs1 : (Instr.slice 9 (.string X) none (some (.int .i64 (X.size : Int))) none).run Try.prog = fun w => .ok (.string X) w := by
          funext w
          rw [run_slice_string_to_if w _ _ _ _ Try.underlying9, if_pos ⟨by omega, by omega⟩, Int.toNat_natCast]
          congr 2
          apply ByteArray.ext
          rw [ByteArray.data_extract]
          exact Array.extract_size
        have hmn : min (X.size : Int) (X.size : Int) = (X.size : Int) := Int.min_self _
        have HQA := Aside0.mk hqa
        have HQB := Aside0.mk hqb
        clear hqa hqb hfa hfb hza hzb hX hba hbb
        go_enter Try.func9, Try.ntmps9
        go_wp2_with (first
          | (go_at_call 13; refine (HRA.out _).mono ?_; rintro e w1 ⟨rfl, hk⟩; have HK1 := Aside0.mk hk; clear hk HRA)
          | (go_at_call 13; refine (HRB.out _).mono ?_; rintro e w2 ⟨rfl, hk⟩; have HK2 := Aside0.mk (HK1.out.trans hk (fun _ q => q.elim)); clear hk HRB)
          | (go_at_call 15; refine (HQA.out _).mono ?_; rintro e w3 ⟨rfl, hk⟩; have HK3 := Aside0.mk (HK2.out.trans hk (fun _ q => q.elim)); clear hk HQA)
          | (go_at_call 15; refine (HQB.out _).mono ?_; rintro e w4 ⟨rfl, hk⟩; have HK4 := Aside0.mk (HK3.out.trans hk (fun _ q => q.elim)); clear hk HQB))
        have hs0 : Same w4 w4 := Same.refl0 w4
        go_region_held3 (fun w' => Same w4 w')
          (first | assumption | (apply Same.drew; assumption) | (apply Same.drewN; assumption))
          (first | (go_at_call 10; refine (awake_any _).mono ?_; rintro e w' ⟨rfl, hk⟩; have hs := Same.on (by assumption) hk; clear hk))
        go_wp2
        go_ret
        exact ⟨rfl, (HK4.out.trans (Same.out (by assumption)) (fun _ q => q.elim)).below (fun _ q => q.elim) (Nat.le_refl _)⟩
      · obtain ⟨X, hX⟩ : ∃ X, strOfNums (quoteL (bnums a)) = X := ⟨_, rfl⟩
        obtain ⟨Y, hY⟩ : ∃ X, strOfNums (quoteL (bnums b)) = X := ⟨_, rfl⟩
        obtain ⟨k, hk⟩ : ∃ k, min X.size Y.size = k := ⟨_, rfl⟩
        simp only [hX] at hqa
        simp only [hY] at hqb
        rw [hX] at hza hba
        rw [hY] at hzb hbb
        have hXs : 2 ≤ X.size ∧ X.size ≤ 1202 := by omega
        have hYs : 2 ≤ Y.size ∧ Y.size ≤ 1202 := by omega
        have hkx : 2 ≤ k ∧ k ≤ X.size ∧ k ≤ Y.size := by omega
        have hmn : min (X.size : Int) (Y.size : Int) = (k : Int) := by omega
        have t3 : decide ((2 : Int) ≤ (k : Int)) = true := decide_eq_true (by omega)
        have hs1 : (Instr.slice 9 (.string X) none (some (.int .i64 (k : Int))) none).run Try.prog = fun w => .ok (.string (X.extract 0 k)) w := by
          funext w
          rw [run_slice_string_to_if w _ _ _ _ Try.underlying9, if_pos ⟨by omega, by omega⟩, Int.toNat_natCast]
        have hs2 : (Instr.slice 9 (.string Y) none (some (.int .i64 (k : Int))) none).run Try.prog = fun w => .ok (.string (Y.extract 0 k)) w := by
          funext w
          rw [run_slice_string_to_if w _ _ _ _ Try.underlying9, if_pos ⟨by omega, by omega⟩, Int.toNat_natCast]
        have hd : X.extract 0 k ≠ Y.extract 0 k := fun e => hab (by
          have h1 := congrArg bnums e
          rw [nums_ext, nums_ext, hba, hbb] at h1
          have h2 := quote_apart (bnums a) (bnums b) k (by rw [← hk, ← hX, ← hY, str_size, str_size]) h1
          rw [← str_bnums a, ← str_bnums b, h2])
        obtain ⟨X1, hX1⟩ : ∃ X1, X.extract 0 k = X1 := ⟨_, rfl⟩
        obtain ⟨Y1, hY1⟩ : ∃ Y1, Y.extract 0 k = Y1 := ⟨_, rfl⟩
        rw [hX1] at hs1 hd
        rw [hY1] at hs2 hd
        have ne_of : ∀ p q : ByteArray, p ≠ q → (p.toList == q.toList) = false := fun p q hn => beq_eq_false_iff_ne.mpr (fun e => hn (by
          rw [Lib.toList_data, Lib.toList_data] at e
          apply ByteArray.ext
          apply Array.ext'
          exact e))
        have t4 := ne_of X1 Y1 hd
        have t5 := ne_of a b hab
        have HQA := Aside0.mk hqa
        have HQB := Aside0.mk hqb
        have HKX := Aside0.mk hkx
        clear hqa hqb hfa hfb hza hzb hX hY hba hbb hd hab ne_of hX1 hY1 hk hkx
        go_enter Try.func9, Try.ntmps9
        go_wp2_with (first
          | (go_at_call 13; refine (HRA.out _).mono ?_; rintro e w1 ⟨rfl, hk⟩; have HK1 := Aside0.mk hk; clear hk HRA)
          | (go_at_call 13; refine (HRB.out _).mono ?_; rintro e w2 ⟨rfl, hk⟩; have HK2 := Aside0.mk (HK1.out.trans hk (fun _ q => q.elim)); clear hk HRB)
          | (go_at_call 15; refine (HQA.out _).mono ?_; rintro e w3 ⟨rfl, hk⟩; have HK3 := Aside0.mk (HK2.out.trans hk (fun _ q => q.elim)); clear hk HQA)
          | (go_at_call 15; refine (HQB.out _).mono ?_; rintro e w4 ⟨rfl, hk⟩; have HK4 := Aside0.mk (HK3.out.trans hk (fun _ q => q.elim)); clear hk HQB))
        have hs0 : Same w4 w4 := Same.refl0 w4
        go_region_held3 (fun w' => Same w4 w')
          (first | assumption | (apply Same.drew; assumption) | (apply Same.drewN; assumption))
          (first | (go_at_call 10; refine (awake_any _).mono ?_; rintro e w' ⟨rfl, hk⟩; have hs := Same.on (by assumption) hk; clear hk))
        go_wp2
        go_ret
        exact ⟨rfl, (HK4.out.trans (Same.out (by assumption)) (fun _ q => q.elim)).below (fun _ q => q.elim) (Nat.le_refl _)⟩
theorem orthoepylaw22_QuoteApart.walk (a0 a1 : ByteArray) (w : World) (w0 : a0.size ≤ 140737488351232) (w1 : a1.size ≤ 140737488351232) :
    Calls Try.prog 9 #[.string a0, .string a1] w fun e w' => e = .returned (.bool true) ∧ Below w.heap.size w w' := quoteapart_any a0 a1 w

end Go.Proofs.Ytkpeblpgfngjcaa.Pure
