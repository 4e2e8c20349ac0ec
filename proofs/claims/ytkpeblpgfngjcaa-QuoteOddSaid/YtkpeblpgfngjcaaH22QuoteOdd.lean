/- QuoteOdd: a text in quotes, any of its scalars escaped, says the text. -/
import Derived.Test.YtkpeblpgfngjcaaPAllx1
import Derived.Test.YtkpeblpgfngjcaaPAllx2
import Derived.Test.YtkpeblpgfngjcaaPAllx3
import Derived.Test.YtkpeblpgfngjcaaPAllx4
import Derived.Test.YtkpeblpgfngjcaaPAllx5
import Derived.Test.YtkpeblpgfngjcaaPAllx6
import Derived.Test.YtkpeblpgfngjcaaHOdd
import Derived.Test.YtkpeblpgfngjcaaHKit
import Derived.Test.YtkpeblpgfngjcaaLUtf
import Derived.Test.YtkpeblpgfngjcaaLRef
import Derived.Test.YtkpeblpgfngjcaaH12U
import Derived.Test.YtkpeblpgfngjcaaHQuote
import Derived.Test.YtkpeblpgfngjcaaHForms
import Derived.Test.YtkpeblpgfngjcaaHBuild
import Derived.Test.YtkpeblpgfngjcaaHBack
import Derived.Outline
import Derived.OwnWalk
import Derived.Laws.DeepStrings4
import Derived.Laws.Strings3
import Derived.Laws.Concat
import Derived.Lib.Strings
namespace Go.Proofs.Ytkpeblpgfngjcaa.Pure
open Go.RowKit Go.Proofs.Ytkpeblpgfngjcaa.PAll Go.Proofs.YtkpeblpgfngjcaaW.PrintWords Go.Proofs.YtkpeblpgfngjcaaW.PrintLast Go.Proofs.YtkpeblpgfngjcaaW.PrintMore
set_option linter.unusedVariables false
set_option linter.unusedSimpArgs false

/-! ### Laws over two texts -/
theorem bnums_cat (a b : ByteArray) : bnums (a ++ b) = bnums a ++ bnums b := by
  unfold bnums
  rw [← List.map_append]
  congr 1
theorem str_bnums (s : ByteArray) : strOfNums (bnums s) = s := by
  apply ByteArray.ext
  apply Array.ext'
  unfold strOfNums bnums
  simp only [List.map_map]
  conv => rhs; rw [← List.map_id s.data.toList]
  apply List.map_congr_left
  intro b _
  simp
theorem quote_cat (a b : List Int) : strOfNums (quoteL (a ++ b)) = strOfNums (34 :: a.flatMap qB) ++ strOfNums (b.flatMap qB ++ [34]) := by
  rw [str_app]
  unfold quoteL
  simp
theorem str_from_one (m : List Int) : (strOfNums (34 :: m)).extract 1 (strOfNums (34 :: m)).size = strOfNums m := by
  rw [str_size]
  apply ByteArray.ext
  simp only [ByteArray.data_extract, strOfNums]
  apply Array.ext'
  simp [List.take_of_length_le]
theorem str_but_last (m : List Int) (x : Int) : (strOfNums (m ++ [x])).extract 0 ((strOfNums (m ++ [x])).size - 1) = strOfNums m := by
  rw [str_size]
  apply ByteArray.ext
  simp only [ByteArray.data_extract, strOfNums]
  apply Array.ext'
  simp
theorem quote_head (a : List Int) : (strOfNums (quoteL a)).extract 0 ((strOfNums (quoteL a)).size - 1) = strOfNums (34 :: a.flatMap qB) := by
  have e : quoteL a = (34 :: a.flatMap qB) ++ [34] := rfl
  rw [e]
  exact str_but_last _ _
theorem quote_tail (a : List Int) : (strOfNums (quoteL a)).extract 1 (strOfNums (quoteL a)).size = strOfNums (a.flatMap qB ++ [34]) := by
  have e : quoteL a = 34 :: (a.flatMap qB ++ [34]) := rfl
  rw [e]
  exact str_from_one _
theorem quote_len (a : List Int) : (strOfNums (quoteL a)).size = (a.flatMap qB).length + 2 := by
  rw [str_size]
  unfold quoteL
  simp
theorem size_quote (l : List Int) : ((strOfNums (quoteL l)).size : Int) = ((quoteL l).length : Int) := by rw [str_size]

/-! ### What a quoted says, plainly -/
theorem back_written (L P : List Int) (hL : ∀ c ∈ L, isScal c = true ∧ isNon c = false) (h : Written L P) : backL (P ++ [34]) = (textV L, true) := by
  unfold backL
  have := play_written L P [] [34] 0 hL h
  rw [List.nil_append, Nat.zero_add] at this
  rw [show playV RV.zero (P ++ [34]) 0 = (P.length, 0, true, ⟨L, [], 0, [], 0, true⟩) from this]
  unfold backZ
  rw [if_pos ⟨rfl, rfl, by simp⟩]
theorem back_behind (L P : List Int) (x : Int) (hL : ∀ c ∈ L, isScal c = true ∧ isNon c = false) (h : Written L P) : backL (P ++ [34] ++ [x]) = ([], false) := by
  unfold backL
  have := play_written L P [] [34, x] 0 hL h
  rw [List.nil_append, Nat.zero_add] at this
  rw [show P ++ [34] ++ [x] = P ++ [34, x] by simp, show playV RV.zero (P ++ [34, x]) 0 = (P.length, 0, true, ⟨L, [], 0, [], 0, true⟩) from this]
  exact backZ_no (fun q => by have := q.2.2; simp at this)
theorem back_less (L P : List Int) (hL : ∀ c ∈ L, isScal c = true ∧ isNon c = false) (h : Written L P) : backL P = ([], false) := by
  unfold backL
  have := play_written L P [] [] 0 hL h
  rw [List.nil_append, Nat.zero_add, List.append_nil] at this
  rw [show playV RV.zero P 0 = (P.length, 0, false, ⟨L, [], 0, [], 0, false⟩) from this]
  exact backZ_no (fun q => by have := q.2.1; simp at this)
theorem qback_of (q : ByteArray) (l R : List Int) (b : Bool) (hq : bnums q = 34 :: l) (hs : q.size ≤ 100000) (h : backL l = (R, b)) (S : ByteArray) (hS : strOfNums R = S) (w : World) :
    Calls Try.prog 11 #[.string q] w fun e w' => e = .returned (.tuple #[.string S, .bool b]) ∧ Keeps (fun _ => False) w w' := by
  have := qback_any q w hs
  rw [hq, show backV (34 :: l) = backL l from rfl, h, hS] at this
  exact this

/-! ### QuoteOdd, walked -/
set_option maxHeartbeats 8000000 in
set_option maxRecDepth 100000 in
theorem quoteodd_any (A : Option Addr) (c : Nat) (l : List Int) (n : Int) (w : World) (hr : Kd.C (Kd.int .i64) w A l.length l) (hc : l.length ≤ c) (hx : l.length ≤ 140737488355328) :
    Calls Try.prog 6 #[.slice A l.length c, .int .i64 n] w fun e w' => e = .returned (.bool true) ∧ Below w.heap.size w w' := by
  obtain ⟨K, hK⟩ : ∃ K : Nat, 200 ≤ K := ⟨200, Nat.le_refl _⟩
  obtain ⟨L, hG, hL⟩ := lstr_val K l hK hx
  have hsc : ∀ c ∈ L, isScal c = true := fun c hc => (hG.1 c hc).1
  have hl20 := hG.2
  obtain ⟨s, hs⟩ : ∃ s, strOfNums (textV L) = s := ⟨_, rfl⟩
  rw [hs] at hL
  have hqd := fun W => quoted_any n L hsc (by omega) s hs W
  have HL := Aside0.mk hL
  have HQD := Aside0.mk hqd
  have HG := Aside0.mk hG
  have HS := Aside0.mk hs
  have HR := Aside0.mk hr
  have HCL := Aside0.mk hc
  clear hL hqd hG hsc hs hK hr hc hx
  go_enter Try.func6, Try.ntmps6
  go_wp2_with (first
    | (go_at_call 20; refine (orthoepylaw00_Str.calls K A c l s _ HR.out HCL.out HL.out).mono ?_; rintro e w1 ⟨rfl, hb⟩; have HK1 := Aside0.mk (Keeps.of_below hb (fun _ => False)); clear hb)
    | (go_at_call 21; refine (HQD.out _).mono ?_; rintro e w2 ⟨P, hp, rfl, hk⟩; have HW := Aside0.mk hp; have HK2 := Aside0.mk (HK1.out.trans hk (fun _ q => q.elim)); have hpl := (written_byt (fun c hc => (HG.out.1 c hc).1) hp).2; have hqs : (strOfNums (34 :: (P ++ [34]))).size = P.length + 2 := (by rw [str_size]; simp); generalize hQ : strOfNums (34 :: (P ++ [34])) = Q at hqs ⊢; have HQ := Aside0.mk hQ; have HQS := Aside0.mk hqs; have hQ2 : 2 ≤ Q.size ∧ Q.size ≤ 500 := (by omega); clear hp hk hpl hQ hqs))
  have hby := (written_byt (fun c hc => (HG.out.1 c hc).1) HW.out).1
  have hq1 : bnums Q = 34 :: (P ++ [34]) := by
    rw [← HQ.out]
    exact bnums_nums _ (byt_cons (by omega) (byt_app hby (byt_nums rfl)))
  have hq2 : bnums (Q ++ ⟨#[32]⟩) = 34 :: (P ++ [34] ++ [32]) := by
    rw [bnums_cat, hq1]
    rfl
  have hq3 : bnums (strOfNums (34 :: P)) = 34 :: P := bnums_nums _ (byt_cons (by omega) hby)
  have hex : Q.extract 0 (Q.size - 1) = strOfNums (34 :: P) := by
    rw [← HQ.out]
    exact str_but_last (34 :: P) 34
  have hs3 : (strOfNums (34 :: P)).size ≤ 500 := by
    have := HQS.out
    rw [str_size]
    simp
    omega
  have hb1 := fun W => qback_of Q _ _ _ hq1 (by omega) (back_written L P HG.out.1 HW.out) s HS.out W
  have hb2 := fun W => qback_of (Q ++ ⟨#[32]⟩) _ _ _ hq2 (by rw [ByteArray.size_append]; have : (⟨#[32]⟩ : ByteArray).size = 1 := rfl; omega) (back_behind L P 32 HG.out.1 HW.out) ⟨#[]⟩ rfl W
  have hb3 := fun W => qback_of (strOfNums (34 :: P)) _ _ _ hq3 (by omega) (back_less L P HG.out.1 HW.out) ⟨#[]⟩ rfl W
  obtain ⟨Q3, hQ3⟩ : ∃ Q3, strOfNums (34 :: P) = Q3 := ⟨_, rfl⟩
  rw [hQ3] at hex
  simp only [hQ3] at hb3
  have hsl : (Instr.slice 9 (.string Q) none (some (.int .i64 ((Q.size : Int) - 1))) none).run Try.prog = fun w => .ok (.string Q3) w := by
    funext w
    rw [run_slice_string_to_if w _ _ _ _ Try.underlying9, if_pos ⟨by omega, by omega⟩, ← hex, show ((Q.size : Int) - 1).toNat = Q.size - 1 by omega]
  have HB1 := Aside0.mk hb1
  have HB2 := Aside0.mk hb2
  have HB3 := Aside0.mk hb3
  clear hb1 hb2 hb3 hq1 hq2 hq3 hex hQ3 hby hs3
  refine (HB1.out _).mono ?_
  rintro e w3 ⟨rfl, hk⟩
  have HK3 := Aside0.mk (HK2.out.trans hk (fun _ q => q.elim))
  clear hk HB1
  go_wp2_with (first
    | (go_at_call 11; refine (HB2.out _).mono ?_; rintro e w4 ⟨rfl, hk⟩; have HK4 := Aside0.mk (HK3.out.trans hk (fun _ q => q.elim)); clear hk HB2)
    | (go_at_call 11; refine (HB3.out _).mono ?_; rintro e w5 ⟨rfl, hk⟩; have HK5 := Aside0.mk (HK4.out.trans hk (fun _ q => q.elim)); clear hk HB3)
    | (go_at_call 10; refine (awake_any _).mono ?_; rintro e w6 ⟨rfl, hk⟩; have HK6 := Aside0.mk (HK5.out.trans hk (fun _ q => q.elim)); clear hk))
  go_ret
  exact ⟨rfl, HK6.out.below (fun _ q => q.elim) (Nat.le_refl _)⟩
theorem orthoepylaw22_QuoteOdd.walk (a0 : Option Addr) (len0 cap0 : Nat) (z0 : List Int) (a1 : Int) (w : World) (w0 : (a0 = none ∧ len0 = 0 ∧ cap0 = 0 ∧ z0 = []) ∨
    ∃ x, a0 = some x ∧ len0 ≤ cap0 ∧ cap0 ≤ maxLen ∧ z0.length = cap0 ∧ (∀ i, i < z0.length → w.cell? (x.add i) = some (.int .i64 (z0.getD i 0))) ∧ ∀ n ∈ z0, (Lit.int .i64 n).wf = true) (y0 : len0 * 8 ≤ 140737488351232) (w1 : (Lit.int .i64 a1).wf = true) :
    Calls Try.prog 6 #[.slice a0 len0 cap0, .int .i64 a1] w fun e w' => e = .returned (.bool true) ∧ Below w.heap.size w w' := by
  obtain ⟨l0, rfl, hr0, hm0, hw0, hc0⟩ := ReadsInt.ofRowC w0
  exact quoteodd_any a0 cap0 l0 a1 w (Kd.C_of_reads (d := (0 : Int)) (h1 := fun _ => rfl) hr0) hc0 (by omega)

end Go.Proofs.Ytkpeblpgfngjcaa.Pure
