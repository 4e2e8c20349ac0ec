/- QuoteJoins: what is written of two texts in one. -/
import Derived.Test.YtkpeblpgfngjcaaPAllx1
import Derived.Test.YtkpeblpgfngjcaaPAllx2
import Derived.Test.YtkpeblpgfngjcaaPAllx3
import Derived.Test.YtkpeblpgfngjcaaPAllx4
import Derived.Test.YtkpeblpgfngjcaaPAllx5
import Derived.Test.YtkpeblpgfngjcaaHKit
import Derived.Test.YtkpeblpgfngjcaaLUtf
import Derived.Test.YtkpeblpgfngjcaaLRef
import Derived.Test.YtkpeblpgfngjcaaH12U
import Derived.Test.YtkpeblpgfngjcaaHQuote
import Derived.Test.YtkpeblpgfngjcaaHForms
import Derived.Test.YtkpeblpgfngjcaaHBuild
import Derived.Test.YtkpeblpgfngjcaaHBack
import Derived.Outline
import Derived.OwnWalk
import Derived.Laws.DeepStrings4
import Derived.Laws.Strings3
import Derived.Laws.Concat
import Derived.Lib.Strings
namespace Go.Proofs.Ytkpeblpgfngjcaa.Pure
open Go.RowKit Go.Proofs.Ytkpeblpgfngjcaa.PAll Go.Proofs.YtkpeblpgfngjcaaW.PrintWords Go.Proofs.YtkpeblpgfngjcaaW.PrintLast Go.Proofs.YtkpeblpgfngjcaaW.PrintMore
set_option linter.unusedVariables false
set_option linter.unusedSimpArgs false

/-! ### Laws over two texts -/
theorem bnums_cat (a b : ByteArray) : bnums (a ++ b) = bnums a ++ bnums b := by
  unfold bnums
  rw [← List.map_append]
  congr 1
theorem str_bnums (s : ByteArray) : strOfNums (bnums s) = s := by
  apply ByteArray.ext
  apply Array.ext'
  unfold strOfNums bnums
  simp only [List.map_map]
  conv => rhs; rw [← List.map_id s.data.toList]
  apply List.map_congr_left
  intro b _
  simp
theorem quote_cat (a b : List Int) : strOfNums (quoteL (a ++ b)) = strOfNums (34 :: a.flatMap qB) ++ strOfNums (b.flatMap qB ++ [34]) := by
  rw [str_app]
  unfold quoteL
  simp
theorem str_from_one (m : List Int) : (strOfNums (34 :: m)).extract 1 (strOfNums (34 :: m)).size = strOfNums m := by
  rw [str_size]
  apply ByteArray.ext
  simp only [ByteArray.data_extract, strOfNums]
  apply Array.ext'
  simp [List.take_of_length_le]
theorem str_but_last (m : List Int) (x : Int) : (strOfNums (m ++ [x])).extract 0 ((strOfNums (m ++ [x])).size - 1) = strOfNums m := by
  rw [str_size]
  apply ByteArray.ext
  simp only [ByteArray.data_extract, strOfNums]
  apply Array.ext'
  simp
theorem quote_head (a : List Int) : (strOfNums (quoteL a)).extract 0 ((strOfNums (quoteL a)).size - 1) = strOfNums (34 :: a.flatMap qB) := by
  have e : quoteL a = (34 :: a.flatMap qB) ++ [34] := rfl
  rw [e]
  exact str_but_last _ _
theorem quote_tail (a : List Int) : (strOfNums (quoteL a)).extract 1 (strOfNums (quoteL a)).size = strOfNums (a.flatMap qB ++ [34]) := by
  have e : quoteL a = 34 :: (a.flatMap qB ++ [34]) := rfl
  rw [e]
  exact str_from_one _
theorem quote_len (a : List Int) : (strOfNums (quoteL a)).size = (a.flatMap qB).length + 2 := by
  rw [str_size]
  unfold quoteL
  simp
theorem size_quote (l : List Int) : ((strOfNums (quoteL l)).size : Int) = ((quoteL l).length : Int) := by rw [str_size]

/-! ### QuoteJoins, walked -/
set_option maxHeartbeats 8000000 in
set_option maxRecDepth 100000 in
theorem quotejoins_any (a b : ByteArray) (w : World) :
    Calls Try.prog 7 #[.string a, .string b] w fun e w' => e = .returned (.bool true) ∧ Below w.heap.size w w' := by
  by_cases h1 : (200 : Int) < (a.size : Int)
  · have t1 : decide ((200 : Int) < (a.size : Int)) = true := decide_eq_true h1
    go_enter Try.func7, Try.ntmps7
    go_wp2_with (go_at_call 10; refine (awake_any _).mono ?_; rintro e w2 ⟨rfl, hk⟩; have HK2 := Aside0.mk hk; clear hk)
    go_ret
    exact ⟨rfl, HK2.out.below (fun _ q => q.elim) (Nat.le_refl _)⟩
  have t1 : decide ((200 : Int) < (a.size : Int)) = false := decide_eq_false h1
  by_cases h2 : (200 : Int) < (b.size : Int)
  · have t2 : decide ((200 : Int) < (b.size : Int)) = true := decide_eq_true h2
    go_enter Try.func7, Try.ntmps7
    go_wp2_with (go_at_call 10; refine (awake_any _).mono ?_; rintro e w2 ⟨rfl, hk⟩; have HK2 := Aside0.mk hk; clear hk)
    go_ret
    exact ⟨rfl, HK2.out.below (fun _ q => q.elim) (Nat.le_refl _)⟩
  have t2 : decide ((200 : Int) < (b.size : Int)) = false := decide_eq_false h2
  have ha : a.size ≤ 200 := by omega
  have hb : b.size ≤ 200 := by omega
  have hra := fun W => right_any a W (by omega)
  have hrb := fun W => right_any b W (by omega)
  obtain ⟨pa, hpa⟩ : ∃ p, (allV [] [] 0 (bnums a)).2.2 = p := ⟨_, rfl⟩
  obtain ⟨pb, hpb⟩ : ∃ p, (allV [] [] 0 (bnums b)).2.2 = p := ⟨_, rfl⟩
  simp only [hpa] at hra
  simp only [hpb] at hrb
  have HRA := Aside0.mk hra
  have HRB := Aside0.mk hrb
  clear hra hrb hpa hpb h1 h2
  cases pa with
  | false =>
    go_enter Try.func7, Try.ntmps7
    go_wp2_with (first
      | (go_at_call 13; refine (HRA.out _).mono ?_; rintro e w1 ⟨rfl, hk⟩; have HK1 := Aside0.mk hk; clear hk)
      | (go_at_call 10; refine (awake_any _).mono ?_; rintro e w2 ⟨rfl, hk⟩; have HK2 := Aside0.mk (HK1.out.trans hk (fun _ q => q.elim)); clear hk))
    go_ret
    exact ⟨rfl, HK2.out.below (fun _ q => q.elim) (Nat.le_refl _)⟩
  | true =>
    cases pb with
    | false =>
      go_enter Try.func7, Try.ntmps7
      go_wp2_with (first
        | (go_at_call 13; refine (HRA.out _).mono ?_; rintro e w1 ⟨rfl, hk⟩; have HK1 := Aside0.mk hk; clear hk HRA)
        | (go_at_call 13; refine (HRB.out _).mono ?_; rintro e w2 ⟨rfl, hk⟩; have HK2 := Aside0.mk (HK1.out.trans hk (fun _ q => q.elim)); clear hk HRB)
        | (go_at_call 10; refine (awake_any _).mono ?_; rintro e w3 ⟨rfl, hk⟩; have HK3 := Aside0.mk (HK2.out.trans hk (fun _ q => q.elim)); clear hk))
      go_ret
      exact ⟨rfl, HK3.out.below (fun _ q => q.elim) (Nat.le_refl _)⟩
    | true =>
      have hab : (a ++ b).size ≤ 400 := by rw [ByteArray.size_append]; omega
      have hqa := fun W => quote_any a W (by omega)
      have hqb := fun W => quote_any b W (by omega)
      have hqc := fun W => quote_any (a ++ b) W (by omega)
      have hla := fun W => len_any a W (by omega)
      have hlb := fun W => len_any b W (by omega)
      have hlc := fun W => len_any (a ++ b) W (by omega)
      simp only [← size_quote] at hla hlb hlc
      simp only [bnums_cat] at hqc hlc
      have hne : (strOfNums (quoteL (bnums a ++ bnums b))).size + 2 = (strOfNums (quoteL (bnums a))).size + (strOfNums (quoteL (bnums b))).size := by
        rw [quote_len, quote_len, quote_len, List.flatMap_append, List.length_append]
        omega
      have hfa := flat_len (bnums a)
      have hfb := flat_len (bnums b)
      rw [bnums_len] at hfa hfb
      have hza := quote_len (bnums a)
      have hzb := quote_len (bnums b)
      have hh := quote_head (bnums a)
      have ht := quote_tail (bnums b)
      rw [quote_cat] at hne
      simp only [quote_cat] at hqc hlc
      obtain ⟨X1, hX1⟩ : ∃ X, strOfNums (34 :: (bnums a).flatMap qB) = X := ⟨_, rfl⟩
      obtain ⟨Y1, hY1⟩ : ∃ X, strOfNums ((bnums b).flatMap qB ++ [34]) = X := ⟨_, rfl⟩
      have hX1s : X1.size ≤ 1201 := by rw [← hX1, str_size]; simp at hfa ⊢; omega
      have hY1s : Y1.size ≤ 1201 := by rw [← hY1, str_size]; simp at hfb ⊢; omega
      obtain ⟨X, hX⟩ : ∃ X, strOfNums (quoteL (bnums a)) = X := ⟨_, rfl⟩
      obtain ⟨Y, hY⟩ : ∃ X, strOfNums (quoteL (bnums b)) = X := ⟨_, rfl⟩
      rw [hX1, hY1, hX, hY] at hne
      rw [hX1, hX] at hh
      rw [hY1, hY] at ht
      rw [hX] at hza
      rw [hY] at hzb
      simp only [hX] at hqa hla
      simp only [hY] at hqb hlb
      simp only [hX1, hY1] at hqc hlc
      have hXs : 2 ≤ X.size ∧ X.size ≤ 1202 := by omega
      have hYs : 2 ≤ Y.size ∧ Y.size ≤ 1202 := by omega
      have hs1 : (Instr.slice 9 (.string X) none (some (.int .i64 ((X.size : Int) - 1))) none).run Try.prog = fun w => .ok (.string X1) w := by
        funext w
        rw [run_slice_string_to_if w _ _ _ _ Try.underlying9, if_pos ⟨by omega, by omega⟩, ← hh, show ((X.size : Int) - 1).toNat = X.size - 1 by omega]
      have hs2 : (Instr.slice 9 (.string Y) (some (.int .i64 1)) none none).run Try.prog = fun w => .ok (.string Y1) w := by
        funext w
        rw [run_slice_string_from_if w _ _ _ _ Try.underlying9, if_pos ⟨by omega, by omega⟩, ← ht]
        rfl
      have hcat : (Op.stringOp .add a b).run Try.prog = fun w => .ok (.string (a ++ b)) w := by
        funext w
        exact run_string_add_sum w a b (by omega)
      have hcat2 : (Op.stringOp .add X1 Y1).run Try.prog = fun w => .ok (.string (X1 ++ Y1)) w := by
        funext w
        exact run_string_add_sum w X1 Y1 (by omega)
      have hw2 : IntKind.i64.wrap ((X.size : Int) + (Y.size : Int)) = (X.size : Int) + (Y.size : Int) := by simp [IntKind.wrap, IntKind.bits, IntKind.signed]; omega
      have hw3 : IntKind.i64.wrap ((X.size : Int) + (Y.size : Int) - 2) = (X.size : Int) + (Y.size : Int) - 2 := by simp [IntKind.wrap, IntKind.bits, IntKind.signed]; omega
      have hw1 : IntKind.i64.wrap ((X.size : Int) - 1) = (X.size : Int) - 1 := by simp [IntKind.wrap, IntKind.bits, IntKind.signed]; omega
      have hlc2 : ∀ W, Calls Try.prog 16 #[.string (a ++ b)] W fun e w' => e = .returned (.int .i64 ((X.size : Int) + (Y.size : Int) - 2)) ∧ Keeps (fun _ => False) W w' := fun W => by
        have := hlc W
        rw [show (((X1 ++ Y1).size : Nat) : Int) = (X.size : Int) + (Y.size : Int) - 2 by omega] at this
        exact this
      have HQA := Aside0.mk hqa
      have HQB := Aside0.mk hqb
      have HQC := Aside0.mk hqc
      have HLA := Aside0.mk hla
      have HLB := Aside0.mk hlb
      have HLC := Aside0.mk hlc2
      clear hqa hqb hqc hla hlb hlc hlc2 hne hfa hfb hza hzb hh ht hX1 hY1 hX hY hab
      go_enter Try.func7, Try.ntmps7
      go_wp2_with (first
        | (go_at_call 13; refine (HRA.out _).mono ?_; rintro e w1 ⟨rfl, hk⟩; have HK1 := Aside0.mk hk; clear hk HRA)
        | (go_at_call 13; refine (HRB.out _).mono ?_; rintro e w2 ⟨rfl, hk⟩; have HK2 := Aside0.mk (HK1.out.trans hk (fun _ q => q.elim)); clear hk HRB)
        | (go_at_call 15; refine (HQA.out _).mono ?_; rintro e w3 ⟨rfl, hk⟩; have HK3 := Aside0.mk (HK2.out.trans hk (fun _ q => q.elim)); clear hk HQA)
        | (go_at_call 15; refine (HQB.out _).mono ?_; rintro e w4 ⟨rfl, hk⟩; have HK4 := Aside0.mk (HK3.out.trans hk (fun _ q => q.elim)); clear hk HQB))
      have hs0 : Same w4 w4 := Same.refl0 w4
      go_region_held3 (fun w' => Same w4 w')
        (first | assumption | (apply Same.drew; assumption) | (apply Same.drewN; assumption))
        (first
          | (go_at_call 15; (with_reducible refine (HQC.out _).mono ?_); rintro e w' ⟨rfl, hk⟩; have hs := Same.on (by assumption) hk; clear hk)
          | (go_at_call 16; (with_reducible refine (HLC.out _).mono ?_); rintro e w' ⟨rfl, hk⟩; have hs := Same.on (by assumption) hk; clear hk)
          | (go_at_call 16; (with_reducible refine (HLA.out _).mono ?_); rintro e w' ⟨rfl, hk⟩; have hs := Same.on (by assumption) hk; clear hk)
          | (go_at_call 16; (with_reducible refine (HLB.out _).mono ?_); rintro e w' ⟨rfl, hk⟩; have hs := Same.on (by assumption) hk; clear hk)
          | (go_at_call 10; refine (awake_any _).mono ?_; rintro e w' ⟨rfl, hk⟩; have hs := Same.on (by assumption) hk; clear hk))
      go_wp2
      go_ret
      exact ⟨rfl, (HK4.out.trans (Same.out (by assumption)) (fun _ q => q.elim)).below (fun _ q => q.elim) (Nat.le_refl _)⟩
theorem orthoepylaw22_QuoteJoins.walk (a0 a1 : ByteArray) (w : World) (w0 : a0.size ≤ 140737488351232) (w1 : a1.size ≤ 140737488351232) :
    Calls Try.prog 7 #[.string a0, .string a1] w fun e w' => e = .returned (.bool true) ∧ Below w.heap.size w w' := quotejoins_any a0 a1 w

end Go.Proofs.Ytkpeblpgfngjcaa.Pure
