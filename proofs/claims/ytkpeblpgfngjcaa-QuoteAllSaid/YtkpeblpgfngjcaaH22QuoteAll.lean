/- QuoteAll: how whatever text is written; what whatever quoted says. -/
import Derived.Test.YtkpeblpgfngjcaaPAllx1
import Derived.Test.YtkpeblpgfngjcaaPAllx2
import Derived.Test.YtkpeblpgfngjcaaPAllx3
import Derived.Test.YtkpeblpgfngjcaaPAllx4
import Derived.Test.YtkpeblpgfngjcaaPAllx5
import Derived.Test.YtkpeblpgfngjcaaHKit
import Derived.Test.YtkpeblpgfngjcaaLUtf
import Derived.Test.YtkpeblpgfngjcaaLRef
import Derived.Test.YtkpeblpgfngjcaaH12U
import Derived.Test.YtkpeblpgfngjcaaHQuote
import Derived.Test.YtkpeblpgfngjcaaHForms
import Derived.Test.YtkpeblpgfngjcaaHBuild
import Derived.Test.YtkpeblpgfngjcaaHBack
import Derived.Outline
import Derived.OwnWalk
import Derived.Laws.DeepStrings4
import Derived.Lib.Strings
namespace Go.Proofs.Ytkpeblpgfngjcaa.Pure
open Go.RowKit Go.Proofs.Ytkpeblpgfngjcaa.PAll Go.Proofs.YtkpeblpgfngjcaaW.PrintWords Go.Proofs.YtkpeblpgfngjcaaW.PrintLast Go.Proofs.YtkpeblpgfngjcaaW.PrintMore
set_option linter.unusedVariables false
set_option linter.unusedSimpArgs false

/-! ### QuoteAll, walked -/
theorem size_quote (l : List Int) : ((strOfNums (quoteL l)).size : Int) = ((quoteL l).length : Int) := by rw [str_size]
set_option maxHeartbeats 4000000 in
set_option maxRecDepth 100000 in
theorem quoteall_any (s q : ByteArray) (w : World) :
    Calls Try.prog 3 #[.string s, .string q] w fun e w' => e = .returned (.bool true) ∧ Below w.heap.size w w' := by
  by_cases h1 : (300 : Int) < (s.size : Int)
  · have t1 : decide ((300 : Int) < (s.size : Int)) = true := decide_eq_true h1
    go_enter Try.func3, Try.ntmps3
    go_wp2_with (go_at_call 10; refine (awake_any _).mono ?_; rintro e w2 ⟨rfl, hk⟩; have HK2 := Aside0.mk hk; clear hk)
    go_ret
    exact ⟨rfl, HK2.out.below (fun _ q => q.elim) (Nat.le_refl _)⟩
  have t1 : decide ((300 : Int) < (s.size : Int)) = false := decide_eq_false h1
  by_cases h2 : (300 : Int) < (q.size : Int)
  · have t2 : decide ((300 : Int) < (q.size : Int)) = true := decide_eq_true h2
    go_enter Try.func3, Try.ntmps3
    go_wp2_with (go_at_call 10; refine (awake_any _).mono ?_; rintro e w2 ⟨rfl, hk⟩; have HK2 := Aside0.mk hk; clear hk)
    go_ret
    exact ⟨rfl, HK2.out.below (fun _ q => q.elim) (Nat.le_refl _)⟩
  have t2 : decide ((300 : Int) < (q.size : Int)) = false := decide_eq_false h2
  have hs : s.size ≤ 300 := by omega
  have hq : q.size ≤ 300 := by omega
  have hb := fun W => qback_any q W (by omega)
  have hr := fun W => rqback_any q W (by omega)
  obtain ⟨X, hX⟩ : ∃ X, strOfNums (backV (bnums q)).1 = X := ⟨_, rfl⟩
  obtain ⟨B, hB⟩ : ∃ B, (backV (bnums q)).2 = B := ⟨_, rfl⟩
  simp only [hX, hB] at hb hr
  have ht := fun W => right_any s W (by omega)
  have hu := fun W => rquote_any s W (by omega)
  have hv := fun W => quote_any s W (by omega)
  have hl := fun W => len_any s W (by omega)
  simp only [← size_quote] at hl
  obtain ⟨Y, hY⟩ : ∃ Y, strOfNums (quoteL (bnums s)) = Y := ⟨_, rfl⟩
  simp only [hY] at hu hv hl
  have HB := Aside0.mk hb
  have HR := Aside0.mk hr
  have HU := Aside0.mk hu
  have HV := Aside0.mk hv
  have HL := Aside0.mk hl
  have hbb : ∀ b, (allV [] [] 0 (bnums s)).2.2 = b → ∀ W, Calls Try.prog 13 #[.string s] W fun e w' => e = .returned (.bool b) ∧ Keeps (fun _ => False) W w' := fun b e W => by
    have := ht W
    rw [e] at this
    exact this
  cases hbool : (allV [] [] 0 (bnums s)).2.2 with
  | false =>
    have HT := Aside0.mk (hbb false hbool)
    clear hb hr hu hv hl ht hX hB hY hbb hbool h1 h2
    go_enter Try.func3, Try.ntmps3
    go_wp2_with (first
      | (go_at_call 11; refine (HB.out _).mono ?_; rintro e w1 ⟨rfl, hk⟩; have HK1 := Aside0.mk hk; clear hk)
      | (go_at_call 12; refine (HR.out _).mono ?_; rintro e w2 ⟨rfl, hk⟩; have HK2 := Aside0.mk (HK1.out.trans hk (fun _ q => q.elim)); clear hk)
      | (go_at_call 13; refine (HT.out _).mono ?_; rintro e w3 ⟨rfl, hk⟩; have HK3 := Aside0.mk (HK2.out.trans hk (fun _ q => q.elim)); clear hk)
      | (go_at_call 10; refine (awake_any _).mono ?_; rintro e w4 ⟨rfl, hk⟩; have HK4 := Aside0.mk (HK3.out.trans hk (fun _ q => q.elim)); clear hk))
    go_ret
    exact ⟨rfl, HK4.out.below (fun _ q => q.elim) (Nat.le_refl _)⟩
  | true =>
    have HT := Aside0.mk (hbb true hbool)
    clear hb hr hu hv hl ht hX hB hY hbb hbool h1 h2
    go_enter Try.func3, Try.ntmps3
    go_wp2_with (first
      | (go_at_call 11; refine (HB.out _).mono ?_; rintro e w1 ⟨rfl, hk⟩; have HK1 := Aside0.mk hk; clear hk)
      | (go_at_call 12; refine (HR.out _).mono ?_; rintro e w2 ⟨rfl, hk⟩; have HK2 := Aside0.mk (HK1.out.trans hk (fun _ q => q.elim)); clear hk)
      | (go_at_call 13; refine (HT.out _).mono ?_; rintro e w3 ⟨rfl, hk⟩; have HK3 := Aside0.mk (HK2.out.trans hk (fun _ q => q.elim)); clear hk)
      | (go_at_call 14; refine (HU.out _).mono ?_; rintro e w4 ⟨rfl, n4, rfl⟩; have HK4 := Aside0.mk (HK3.out.drewN n4))
      | (go_at_call 15; refine (HV.out _).mono ?_; rintro e w5 ⟨rfl, hk⟩; have HK5 := Aside0.mk (HK4.out.trans hk (fun _ q => q.elim)); clear hk)
      | (go_at_call 16; refine (HL.out _).mono ?_; rintro e w6 ⟨rfl, hk⟩; have HK6 := Aside0.mk (HK5.out.trans hk (fun _ q => q.elim)); clear hk)
      | (go_at_call 10; refine (awake_any _).mono ?_; rintro e w7 ⟨rfl, hk⟩; have HK7 := Aside0.mk (HK6.out.trans hk (fun _ q => q.elim)); clear hk))
    go_ret
    exact ⟨rfl, HK7.out.below (fun _ q => q.elim) (Nat.le_refl _)⟩
theorem orthoepylaw22_QuoteAll.walk (a0 a1 : ByteArray) (w : World) (w0 : a0.size ≤ 140737488351232) (w1 : a1.size ≤ 140737488351232) :
    Calls Try.prog 3 #[.string a0, .string a1] w fun e w' => e = .returned (.bool true) ∧ Below w.heap.size w w' := quoteall_any a0 a1 w

end Go.Proofs.Ytkpeblpgfngjcaa.Pure
