/- What is written says the text again. -/
import Derived.Test.YtkpeblpgfngjcaaPAllx1
import Derived.Test.YtkpeblpgfngjcaaPAllx2
import Derived.Test.YtkpeblpgfngjcaaPAllx3
import Derived.Test.YtkpeblpgfngjcaaPAllx4
import Derived.Test.YtkpeblpgfngjcaaPAllx5
import Derived.Test.YtkpeblpgfngjcaaPAllx6
import Derived.Test.YtkpeblpgfngjcaaHOdd
import Derived.Test.YtkpeblpgfngjcaaHKit
import Derived.Test.YtkpeblpgfngjcaaLUtf
import Derived.Test.YtkpeblpgfngjcaaLRef
import Derived.Test.YtkpeblpgfngjcaaH12U
import Derived.Test.YtkpeblpgfngjcaaHQuote
import Derived.Test.YtkpeblpgfngjcaaHForms
import Derived.Test.YtkpeblpgfngjcaaHBuild
import Derived.Test.YtkpeblpgfngjcaaHBack
import Derived.Outline
import Derived.OwnWalk
import Derived.Laws.DeepStrings4
import Derived.Laws.Strings3
import Derived.Laws.Concat
import Derived.Lib.Strings
namespace Go.Proofs.Ytkpeblpgfngjcaa.Pure
open Go.RowKit Go.Proofs.Ytkpeblpgfngjcaa.PAll Go.Proofs.YtkpeblpgfngjcaaW.PrintWords Go.Proofs.YtkpeblpgfngjcaaW.PrintLast Go.Proofs.YtkpeblpgfngjcaaW.PrintMore
set_option linter.unusedVariables false
set_option linter.unusedSimpArgs false

/-! ### Laws over two texts -/
theorem bnums_cat (a b : ByteArray) : bnums (a ++ b) = bnums a ++ bnums b := by
  unfold bnums
  rw [← List.map_append]
  congr 1
theorem str_bnums (s : ByteArray) : strOfNums (bnums s) = s := by
  apply ByteArray.ext
  apply Array.ext'
  unfold strOfNums bnums
  simp only [List.map_map]
  conv => rhs; rw [← List.map_id s.data.toList]
  apply List.map_congr_left
  intro b _
  simp
theorem quote_cat (a b : List Int) : strOfNums (quoteL (a ++ b)) = strOfNums (34 :: a.flatMap qB) ++ strOfNums (b.flatMap qB ++ [34]) := by
  rw [str_app]
  unfold quoteL
  simp
theorem str_from_one (m : List Int) : (strOfNums (34 :: m)).extract 1 (strOfNums (34 :: m)).size = strOfNums m := by
  rw [str_size]
  apply ByteArray.ext
  simp only [ByteArray.data_extract, strOfNums]
  apply Array.ext'
  simp [List.take_of_length_le]
theorem str_but_last (m : List Int) (x : Int) : (strOfNums (m ++ [x])).extract 0 ((strOfNums (m ++ [x])).size - 1) = strOfNums m := by
  rw [str_size]
  apply ByteArray.ext
  simp only [ByteArray.data_extract, strOfNums]
  apply Array.ext'
  simp
theorem quote_head (a : List Int) : (strOfNums (quoteL a)).extract 0 ((strOfNums (quoteL a)).size - 1) = strOfNums (34 :: a.flatMap qB) := by
  have e : quoteL a = (34 :: a.flatMap qB) ++ [34] := rfl
  rw [e]
  exact str_but_last _ _
theorem quote_tail (a : List Int) : (strOfNums (quoteL a)).extract 1 (strOfNums (quoteL a)).size = strOfNums (a.flatMap qB ++ [34]) := by
  have e : quoteL a = 34 :: (a.flatMap qB ++ [34]) := rfl
  rw [e]
  exact str_from_one _
theorem quote_len (a : List Int) : (strOfNums (quoteL a)).size = (a.flatMap qB).length + 2 := by
  rw [str_size]
  unfold quoteL
  simp
theorem size_quote (l : List Int) : ((strOfNums (quoteL l)).size : Int) = ((quoteL l).length : Int) := by rw [str_size]

/-! ### What a quoted says, plainly -/
theorem back_written (L P : List Int) (hL : ∀ c ∈ L, isScal c = true ∧ isNon c = false) (h : Written L P) : backL (P ++ [34]) = (textV L, true) := by
  unfold backL
  have := play_written L P [] [34] 0 hL h
  rw [List.nil_append, Nat.zero_add] at this
  rw [show playV RV.zero (P ++ [34]) 0 = (P.length, 0, true, ⟨L, [], 0, [], 0, true⟩) from this]
  unfold backZ
  rw [if_pos ⟨rfl, rfl, by simp⟩]
theorem back_behind (L P : List Int) (x : Int) (hL : ∀ c ∈ L, isScal c = true ∧ isNon c = false) (h : Written L P) : backL (P ++ [34] ++ [x]) = ([], false) := by
  unfold backL
  have := play_written L P [] [34, x] 0 hL h
  rw [List.nil_append, Nat.zero_add] at this
  rw [show P ++ [34] ++ [x] = P ++ [34, x] by simp, show playV RV.zero (P ++ [34, x]) 0 = (P.length, 0, true, ⟨L, [], 0, [], 0, true⟩) from this]
  exact backZ_no (fun q => by have := q.2.2; simp at this)
theorem back_less (L P : List Int) (hL : ∀ c ∈ L, isScal c = true ∧ isNon c = false) (h : Written L P) : backL P = ([], false) := by
  unfold backL
  have := play_written L P [] [] 0 hL h
  rw [List.nil_append, Nat.zero_add, List.append_nil] at this
  rw [show playV RV.zero P 0 = (P.length, 0, false, ⟨L, [], 0, [], 0, false⟩) from this]
  exact backZ_no (fun q => by have := q.2.1; simp at this)
theorem qback_of (q : ByteArray) (l R : List Int) (b : Bool) (hq : bnums q = 34 :: l) (hs : q.size ≤ 100000) (h : backL l = (R, b)) (S : ByteArray) (hS : strOfNums R = S) (w : World) :
    Calls Try.prog 11 #[.string q] w fun e w' => e = .returned (.tuple #[.string S, .bool b]) ∧ Keeps (fun _ => False) w w' := by
  have := qback_any q w hs
  rw [hq, show backV (34 :: l) = backL l from rfl, h, hS] at this
  exact this

/-! ### Nothing says a text in fewer bytes, plainly -/
def flatL (L : List Int) : List Int := (textV L).flatMap qB
theorem flat_snoc (L : List Int) (c : Int) : (flatL (L ++ [c])).length = (flatL L).length + ((encV c).flatMap qB).length := by
  unfold flatL
  rw [textV_snoc, List.flatMap_append, List.length_append]
def pend (t : RV) : Nat := t.B.length + (if t.Wait = 0 then 0 else 6) + (if t.Esc = 1 then 1 else if t.Esc = 2 then 2 + t.Hex.length else 0)
def cost (t : RV) : Nat := (flatL t.Out).length + pend t
def GoodO (t : RV) : Prop := ∀ c ∈ t.Out, isNon c = false
theorem enc_flat (c : Int) (hs : isScal c = true) : (128 ≤ c → c < 65536 → ((encV c).flatMap qB).length ≤ 3) ∧ (65536 ≤ c → ((encV c).flatMap qB).length = 4) ∧ (c < 65536 → ((encV c).flatMap qB).length ≤ 6) ∧ (128 ≤ c → c < 2048 → ((encV c).flatMap qB).length ≤ 2) ∧
    (c < 128 → ((encV c).flatMap qB).length = (qB c).length) := by
  by_cases h : c < 128
  · have e : encV c = [c] := by unfold encV; rw [if_pos hs, if_pos h]
    have e2 : ((encV c).flatMap qB).length = (qB c).length := by rw [e]; simp
    have := qB_len c
    refine ⟨fun q => by omega, fun q => by omega, fun _ => by omega, fun q => by omega, fun _ => e2⟩
  · rw [flat_high _ (enc_high c hs (by omega))]
    have e : (encV c).length = if c < 2048 then 2 else if c < 65536 then 3 else 4 := by
      unfold encV
      rw [if_pos hs, if_neg h]
      (repeat' split) <;> rfl
    rw [e]
    (repeat' split) <;> omega
theorem esc_flat {x c : Int} (h : escC x = some c) : ((encV c).flatMap qB).length ≤ 2 ∧ isNon c = false := by
  unfold escC at h
  (repeat' split at h) <;> (first | (cases h; done) | (obtain rfl := Option.some.inj h; exact ⟨by decide, rfl⟩))
theorem whole_big {b : List Int} (hb : Byt b) (h : howV b = 2) (hl : 2 ≤ b.length) : 128 ≤ ofV b ∧ (b.length = 2 → ofV b < 2048) ∧ (b.length = 3 → ofV b < 65536) ∧ b.length ≤ 4 := by
  match b, h, hb, hl with
  | [], h, _, hl => simp at hl
  | [f], h, _, hl => simp at hl
  | [f, x], h, hb, _ =>
    have hz := szV_bounds f
    simp only [howV] at h
    (repeat' split at h) <;> (try omega)
    rename_i q e
    have e2 := hz.2.1 e
    have hs : secV f x = true := by
      cases q2 : secV f x with
      | true => rfl
      | false => exact absurd (.inr q2) q
    simp only [secV, decide_eq_true_eq] at hs
    simp only [ofV, baseV, List.length_cons, List.length_nil]
    rw [if_neg (by omega), if_pos (by omega)]
    omega
  | [f, x, y], h, hb, _ =>
    have hz := szV_bounds f
    simp only [howV] at h
    (repeat' split at h) <;> (try omega)
    rename_i q e
    have e2 := hz.2.2.1 e
    have hs : secV f x = true := by
      cases q2 : secV f x with
      | true => rfl
      | false => exact absurd (.inr (.inl q2)) q
    have ht : tailV y = true := by
      cases q2 : tailV y with
      | true => rfl
      | false => exact absurd (.inr (.inr q2)) q
    simp only [secV, tailV, decide_eq_true_eq] at hs ht
    simp only [ofV, baseV, List.length_cons, List.length_nil]
    rw [if_neg (by omega), if_neg (by omega), if_pos (by omega)]
    omega
  | [f, x, y, z], h, hb, _ =>
    have hz := szV_bounds f
    have hr := szV_range f
    simp only [howV] at h
    (repeat' split at h) <;> (try omega)
    rename_i q
    have e2 := hz.2.2.2 (by omega)
    have hs : secV f x = true := by
      cases q2 : secV f x with
      | true => rfl
      | false => exact absurd (.inr (.inl q2)) q
    have ht : tailV y = true := by
      cases q2 : tailV y with
      | true => rfl
      | false => exact absurd (.inr (.inr (.inl q2))) q
    have hu : tailV z = true := by
      cases q2 : tailV z with
      | true => rfl
      | false => exact absurd (.inr (.inr (.inr q2))) q
    simp only [secV, tailV, decide_eq_true_eq] at hs ht hu
    simp only [ofV, baseV, List.length_cons, List.length_nil]
    rw [if_neg (by omega), if_neg (by omega), if_neg (by omega)]
    omega
  | _ :: _ :: _ :: _ :: _ :: _, h, _, _ => simp [howV] at h
theorem wrong4_non {W u : Int} (hW : W = 0 ∨ hiS W = true) (h : wrongV W u 4 = 0) : (hiS W = true ∧ loS u = true → isNon (joinV W u) = false) ∧ (W = 0 → isNon u = false) ∧ (W ≠ 0 → loS u = true) := by
  have hl4 : lowV u 4 = loS u := rfl
  by_cases hz : W = 0
  · subst hz
    have h0 : hiS 0 = false := rfl
    have h1 : isNon u = false := by
      cases e : isNon u with
      | false => rfl
      | true =>
        unfold wrongV at h
        rw [e, hl4] at h
        cases e2 : loS u <;> simp [e2] at h
    exact ⟨fun q => by rw [h0] at q; exact absurd q.1 (by decide), fun _ => h1, fun q => absurd rfl q⟩
  · have hh := hW.resolve_left hz
    have h1 : loS u = true := by
      cases e : loS u with
      | true => rfl
      | false =>
        unfold wrongV at h
        rw [hl4, e] at h
        simp [hz] at h
    have h2 : isNon (joinV W u) = false := by
      cases e : isNon (joinV W u) with
      | false => rfl
      | true =>
        unfold wrongV at h
        rw [hl4, h1, e, hh] at h
        simp [hz] at h
    exact ⟨fun _ => h2, fun q => absurd q hz, fun _ => h1⟩
/-- A byte that is OK costs one at most; and no noncharacter is said. -/
theorem cost_step {m : Nat} {s : SV} {t : RV} (h : Sim m s t) (x : Int) (h0 : 0 ≤ x) (h1 : x ≤ 255) (g : GoodO t) (e : (rpushV t x).2.1 = 0) :
    GoodO (rpushV t x).2.2 ∧ ((rpushV t x).1 = true → (rpushV t x).2.2.Out = t.Out) ∧ cost (rpushV t x).2.2 ≤ cost t + 1 := by
  have gs : ∀ c, isNon c = false → ∀ d ∈ t.Out ++ [c], isNon d = false := fun c hc d hd => by
    rcases List.mem_append.1 hd with hd | hd
    · exact g d hd
    · simp at hd
      rw [hd]
      exact hc
  have hb0 := h.b0
  have hx0 := h.hex0
  have hw := h.waits
  have hby := h.byt
  have hpre := h.pre
  have hlx := h.hexl
  have hdx := h.hexd
  have hsx := hexV_range x
  clear h
  obtain ⟨O, B, E, H, W, V⟩ := t
  simp only at hb0 hx0 hw hby hpre hlx hdx gs
  unfold rpushV at e ⊢
  simp only at e ⊢
  split
  · rename_i c1
    rw [if_pos c1] at e
    exact absurd e (by simp)
  rename_i c1
  rw [if_neg c1] at e
  split
  · rename_i hE
    rw [if_pos hE] at e
    subst hE
    have hBn : B = [] := by
      by_cases q : B = []
      · exact q
      · have := (hb0 q).1
        omega
    subst hBn
    unfold rdigitsV at e ⊢
    simp only at e ⊢
    split
    · rename_i c2
      rw [if_pos c2] at e
      exact absurd e (by simp)
    rename_i c2
    rw [if_neg c2] at e
    have hvb := valH_bound H hlx hdx
    split
    · rename_i c3
      rw [if_pos c3] at e
      exact absurd e c3
    rename_i c3
    have c3' : wrongV W (valH H * 16 + hexV x) ((H.length : Int) + 1) = 0 := by omega
    split
    · exact ⟨g, fun q => absurd q (by simp), by unfold cost pend; simp; omega⟩
    · rename_i c4
      have h4 : (H.length : Int) + 1 = 4 := by omega
      have hH3 : H.length = 3 := by omega
      rw [h4] at c3'
      obtain ⟨n1, n2, n3⟩ := wrong4_non hw c3'
      have hub : 0 ≤ valH H * 16 + hexV x ∧ valH H * 16 + hexV x < 65536 := by have := hvb.2.2.2.2 hH3; omega
      generalize valH H * 16 + hexV x = u at n1 n2 n3 hub c3'
      split
      · rename_i c5
        have hj : 65536 ≤ joinV W u ∧ joinV W u ≤ 1114111 := by
          have a1 := (hiS_iff W).1 c5.1
          have a2 := (loS_iff u).1 c5.2
          unfold joinV
          omega
        have hW0 : W ≠ 0 := by
          intro q
          rw [q] at c5
          exact absurd c5.1 (by decide)
        have hf := (enc_flat (joinV W u) (by unfold isScal; exact decide_eq_true (by omega))).2.1 hj.1
        refine ⟨gs _ (n1 c5), fun q => absurd q (by simp), ?_⟩
        unfold cost pend
        simp only [flat_snoc, hf]
        simp [hW0, hH3]
      · rename_i c5
        have hW0 : W = 0 := by
          by_cases q : W = 0
          · exact q
          · exact absurd ⟨hw.resolve_left q, n3 q⟩ c5
        subst hW0
        split
        · rename_i c6
          have hu0 : u ≠ 0 := by
            have := (hiS_iff u).1 c6
            omega
          refine ⟨g, fun q => absurd q (by simp), ?_⟩
          unfold cost pend
          simp [hu0, hH3]
        · rename_i c6
          have hus : isScal u = true := by
            unfold isScal
            apply decide_eq_true
            have a1 : ¬ (55296 ≤ u ∧ u < 56320) := fun q => c6 ((hiS_iff u).2 q)
            have a2 : ¬ (56320 ≤ u ∧ u ≤ 57343) := fun q => by
              have hlo := (loS_iff u).2 q
              have : wrongV 0 u 4 = 5 := wrong_5 (.inr ⟨rfl, by decide, hlo⟩)
              omega
            omega
          have hf := (enc_flat u hus).2.2.1 hub.2
          refine ⟨gs _ (n2 rfl), fun q => absurd q (by simp), ?_⟩
          unfold cost pend
          simp only [flat_snoc]
          generalize ((encV u).flatMap qB).length = z at hf ⊢
          simp [hH3]
          omega
  rename_i hE2
  rw [if_neg hE2] at e
  have hH := hx0 hE2
  subst hH
  split
  · rename_i hE1
    rw [if_pos hE1] at e
    subst hE1
    have hBn : B = [] := by
      by_cases q : B = []
      · exact q
      · have := (hb0 q).1
        omega
    subst hBn
    unfold rescapeV at e ⊢
    simp only at e ⊢
    split
    · exact ⟨g, fun q => absurd q (by simp), by unfold cost pend; simp; omega⟩
    · rename_i c7
      rw [if_neg c7] at e
      cases hc : escC x with
      | none =>
        rw [hc] at e
        exact absurd e (by simp)
      | some c =>
        rw [hc] at e
        simp only at e ⊢
        split
        · rename_i c8
          rw [if_pos c8] at e
          exact absurd e (by simp)
        · rename_i c8
          have hf := esc_flat hc
          refine ⟨gs _ hf.2, fun q => absurd q (by simp), ?_⟩
          unfold cost pend RV.say
          simp only [flat_snoc]
          have hf1 := hf.1
          generalize ((encV c).flatMap qB).length = z at hf1 ⊢
          have hW0 : W = 0 := by
            rcases hw with q | q
            · exact q
            · have := (hiS_iff W).1 q
              omega
          simp [hW0]
          omega
  rename_i hE1
  rw [if_neg hE1] at e
  have hE3 : (if E = 1 then 1 else if E = 2 then 2 + ([] : List Int).length else 0) = 0 := by rw [if_neg hE1, if_neg hE2]
  split
  · rename_i c9
    rw [if_pos c9] at e
    unfold rbytesV at e ⊢
    simp only at e ⊢
    have hyt : Byt (B ++ [x]) := byt_app hby (byt_cons ⟨h0, h1⟩ (fun _ q => by simp at q))
    split
    · rename_i d1
      rw [if_pos d1] at e
      exact absurd e (by simp)
    rename_i d1
    rw [if_neg d1] at e
    split
    · rename_i d2
      rw [if_pos d2] at e
      exact absurd e (by simp)
    rename_i d2
    rw [if_neg d2] at e
    split
    · refine ⟨g, fun q => absurd q (by simp), ?_⟩
      unfold cost pend
      simp only [hE3, List.length_append, List.length_cons, List.length_nil]
      omega
    rename_i d3
    rw [if_neg d3] at e
    split
    · rename_i d4
      rw [if_pos d4] at e
      exact absurd e (by simp)
    rename_i d4
    have hr := how_range (B ++ [x])
    have h2 : howV (B ++ [x]) = 2 := by omega
    have hl2 : 2 ≤ (B ++ [x]).length := by
      rcases c9 with q | q
      · rw [List.length_append, List.length_cons, List.length_nil]
        omega
      · by_cases qb : B = []
        · subst qb
          have hsz : szV x ≠ 1 := by
            unfold szV
            rw [if_neg (by omega)]
            (repeat' split) <;> decide
          have : howV [x] = 2 := h2
          simp only [howV] at this
          rw [if_neg hsz] at this
          split at this <;> omega
        · have : 0 < B.length := List.length_pos_iff.mpr qb
          rw [List.length_append, List.length_cons, List.length_nil]
          omega
    have hsc := scal_whole hyt h2
    have hbg := whole_big hyt h2 hl2
    have hf := enc_flat _ hsc
    have hlen : (B ++ [x]).length = B.length + 1 := by rw [List.length_append, List.length_cons, List.length_nil]
    have hfl : ((encV (ofV (B ++ [x]))).flatMap qB).length ≤ B.length + 1 := by
      have hs' := hsc
      simp only [isScal, decide_eq_true_eq] at hs'
      have k1 := hbg.2.1
      have k2 := hbg.2.2.1
      have k3 := hbg.2.2.2
      have f1 := hf.1 hbg.1
      have f2 := hf.2.1
      have f4 := hf.2.2.2.1 hbg.1
      rw [hlen] at k1 k2 k3 hl2
      have hcase : B.length = 1 ∨ B.length = 2 ∨ B.length = 3 := by omega
      rcases hcase with q | q | q
      · have := f4 (k1 (by omega))
        omega
      · have := f1 (k2 (by omega))
        omega
      · by_cases q2 : ofV (B ++ [x]) < 65536
        · have := f1 q2
          omega
        · have := f2 (by omega)
          omega
    refine ⟨gs _ (by simpa using d4), fun q => absurd q (by simp), ?_⟩
    unfold cost pend RV.say
    simp only [flat_snoc, hE3, List.length_nil]
    omega
  rename_i c9
  rw [if_neg c9] at e
  have hBn : B = [] := List.eq_nil_of_length_eq_zero (by omega)
  subst hBn
  split
  · refine ⟨g, fun q => absurd q (by simp), ?_⟩
    unfold cost pend
    simp only [hE3]
    simp
    omega
  rename_i c10
  rw [if_neg c10] at e
  split
  · rename_i c11
    rw [if_pos c11] at e
    exact absurd e (by simp)
  rename_i c11
  split
  · refine ⟨g, fun _ => rfl, ?_⟩
    unfold cost pend
    simp only
    omega
  · rename_i c12
    have hsc : isScal x = true := by
      unfold isScal
      exact decide_eq_true (by omega)
    have hf := (enc_flat x hsc).2.2.2.2 (by omega)
    have hq : (qB x).length = 1 := by
      unfold qB
      rw [if_neg (by omega), if_neg (by omega)]
      rfl
    refine ⟨gs x (non_low h0 (by omega)), fun q => absurd q (by simp), ?_⟩
    unfold cost pend RV.say
    simp only [flat_snoc, hf, hq, hE3]
    omega

theorem play_cost : ∀ (l : List Int) (t : RV) (i m : Nat) (s : SV), Sim m s t → Byt l → GoodO t → (playV t l i).2.1 = 0 → (playV t l i).2.2.1 = true →
    i ≤ (playV t l i).1 ∧ GoodO (playV t l i).2.2.2 ∧ (∀ c ∈ (playV t l i).2.2.2.Out, isScal c = true) ∧ (flatL (playV t l i).2.2.2.Out).length ≤ cost t + ((playV t l i).1 - i)
  | [], t, i, m, s, _, _, _, _, h => absurd (show false = true from h) (by decide)
  | x :: l, t, i, m, s, hs, hb, g, h1, h2 => by
    have hx := hb x (by simp)
    have hb' : Byt l := fun y hy => hb y (by simp [hy])
    obtain ⟨tt, _, _, _, hs2⟩ := sim_step hs x hx.1 hx.2
    have e : playV t (x :: l) i = if (rpushV t x).2.1 ≠ 0 ∨ (rpushV t x).1 = true then (i, (rpushV t x).2.1, (rpushV t x).1, (rpushV t x).2.2) else playV (rpushV t x).2.2 l (i + 1) := rfl
    rw [e] at h1 h2 ⊢
    by_cases c : (rpushV t x).2.1 ≠ 0 ∨ (rpushV t x).1 = true
    · rw [if_pos c] at h1 h2 ⊢
      obtain ⟨g2, ho, hc⟩ := cost_step hs x hx.1 hx.2 g h1
      have ho := ho h2
      refine ⟨Nat.le_refl _, g2, hs2.out, ?_⟩
      show (flatL (rpushV t x).2.2.Out).length ≤ _
      rw [ho]
      unfold cost
      omega
    · rw [if_neg c] at h1 h2 ⊢
      have c1 : (rpushV t x).2.1 = 0 := by
        by_cases q : (rpushV t x).2.1 = 0
        · exact q
        · exact absurd (.inl q) c
      obtain ⟨g2, _, hc⟩ := cost_step hs x hx.1 hx.2 g c1
      obtain ⟨a1, a2, a3, a4⟩ := play_cost l _ (i + 1) _ _ hs2 hb' g2 h1 h2
      exact ⟨by omega, a2, a3, by omega⟩
theorem written_quote : ∀ L : List Int, Written L ((textV L).flatMap qB)
  | [] => rfl
  | c :: L => ⟨(encV c).flatMap qB, (textV L).flatMap qB, .inl rfl, by rw [show textV (c :: L) = encV c ++ textV L by simp [textV], List.flatMap_append], written_quote L⟩
theorem quote_cons (l : List Int) : quoteL l = 34 :: (l.flatMap qB ++ [34]) := rfl
theorem flat_ge : ∀ l : List Int, l.length ≤ (l.flatMap qB).length
  | [] => Nat.le_refl _
  | x :: l => by
    have h := flat_ge l
    have hx : 1 ≤ (qB x).length := by
      unfold qB
      split
      · exact Nat.le_add_left _ _
      split
      · unfold oneL
        (repeat' split) <;> exact Nat.le_add_left _ _
      · exact Nat.le_refl _
    rw [List.flatMap_cons, List.length_append, List.length_cons]
    omega
/-- What says a text is not shorter than what is written of it. -/
theorem back_short (l : List Int) (hb : Byt l) (R : List Int) (h : backL l = (R, true)) : ∃ L, R = textV L ∧ (∀ c ∈ L, isScal c = true ∧ isNon c = false) ∧ (flatL L).length + 1 ≤ l.length := by
  unfold backL backZ at h
  split at h
  · rename_i c
    obtain ⟨a1, a2, a3, a4⟩ := play_cost l RV.zero 0 0 SV.zero (Sim.zero 0) hb (fun _ q => by cases q) c.1 c.2.1
    have hc : cost RV.zero = 0 := rfl
    refine ⟨(playV RV.zero l 0).2.2.2.Out, ((Prod.mk.inj h).1).symm, fun d hd => ⟨a3 d hd, a2 d hd⟩, ?_⟩
    have := c.2.2
    omega
  · exact absurd (Prod.mk.inj h).2 (by simp)
theorem backV_short (q : ByteArray) (R : List Int) (h : backV (bnums q) = (R, true)) : ∃ L, R = textV L ∧ (∀ c ∈ L, isScal c = true ∧ isNon c = false) ∧ (quoteL (textV L)).length ≤ q.size ∧ R.length ≤ q.size := by
  have hb := bnums_byt q
  rw [← bnums_len]
  cases e : bnums q with
  | nil => rw [e] at h; simp [backV] at h
  | cons x l =>
    rw [e] at h hb
    change (if x = 34 then backL l else ([], false)) = _ at h
    by_cases hx : x = 34
    · rw [if_pos hx] at h
      obtain ⟨L, h1, h2, h3⟩ := back_short l (fun y hy => hb y (by simp [hy])) R h
      refine ⟨L, h1, h2, ?_, ?_⟩
      · show (34 :: ((textV L).flatMap qB ++ [34])).length ≤ _
        unfold flatL at h3
        simp only [List.length_cons, List.length_append, List.length_nil]
        omega
      · rw [h1]
        have : (textV L).length ≤ ((textV L).flatMap qB).length := flat_ge _
        unfold flatL at h3
        simp only [List.length_cons]
        omega
    · rw [if_neg hx] at h
      simp at h
theorem backL_no {l R : List Int} (h : backL l = (R, false)) : R = [] := by
  unfold backL backZ at h
  split at h
  · exact absurd (Prod.mk.inj h).2 (by simp)
  · exact ((Prod.mk.inj h).1).symm
theorem backV_no (q : ByteArray) (R : List Int) (h : backV (bnums q) = (R, false)) : R = [] := by
  cases e : bnums q with
  | nil =>
    rw [e] at h
    exact ((Prod.mk.inj (show (([] : List Int), false) = (R, false) from h)).1).symm
  | cons x l =>
    rw [e] at h
    change (if x = 34 then backL l else ([], false)) = _ at h
    by_cases hx : x = 34
    · rw [if_pos hx] at h
      exact backL_no h
    · rw [if_neg hx] at h
      exact ((Prod.mk.inj h).1).symm

/-! ### What is written says the text again, plainly -/
def goodL (L : List Int) : Bool := L.all (fun c => !isNon c)
theorem goodL_snoc (L : List Int) (c : Int) : goodL (L ++ [c]) = (goodL L && !isNon c) := by simp [goodL]
theorem non_range {c : Int} (h : isNon c = true) : 64976 ≤ c := by
  unfold isNon at h
  cases e : decide (c ≥ 64976 ∧ c ≤ 65007) with
  | true =>
    have := of_decide_eq_true e
    omega
  | false =>
    rw [e, Bool.false_or, Bool.and_eq_true] at h
    have h2 := of_decide_eq_true h.2
    have h1 := h.1
    simp only [isScal, decide_eq_true_eq] at h1
    omega
theorem play_non : ∀ (L O l : List Int) (i : Nat), (∀ c ∈ L, isScal c = true) → goodL L = false → (playV ⟨O, [], 0, [], 0, false⟩ ((textV L).flatMap qB ++ l) i).2.2.1 = false
  | [], _, _, _, _, h => absurd (show true = false from h) (by decide)
  | c :: L, O, l, i, hs, h => by
    have hc := hs c (by simp)
    have e : (textV (c :: L)).flatMap qB ++ l = (encV c).flatMap qB ++ ((textV L).flatMap qB ++ l) := by
      rw [show textV (c :: L) = encV c ++ textV L by simp [textV], List.flatMap_append, List.append_assoc]
    rw [e]
    cases hn : isNon c with
    | true =>
      have := non_range hn
      rw [flat_high _ (enc_high c hc (by omega)), (play_chain O [] c (encV c) [] _ i (chain_enc c hc (by omega))).2 hn]
    | false =>
      rw [play_form O c _ _ i hc hn (.inl rfl)]
      refine play_non L _ l _ (fun d hd => hs d (by simp [hd])) ?_
      have h' : (!isNon c && goodL L) = false := h
      rw [hn] at h'
      simpa using h'
theorem back_quoted (L : List Int) (hs : ∀ c ∈ L, isScal c = true) : backL ((textV L).flatMap qB ++ [34]) = if goodL L = true then (textV L, true) else ([], false) := by
  by_cases h : goodL L = true
  · rw [if_pos h]
    refine back_written L _ (fun c hc => ⟨hs c hc, ?_⟩) (written_quote L)
    have := List.all_eq_true.1 h c hc
    simpa using this
  · rw [if_neg h]
    unfold backL
    refine backZ_no (fun q => ?_)
    have hp : (playV RV.zero ((textV L).flatMap qB ++ [34]) 0).2.2.1 = false := play_non L [] [34] 0 hs (by simpa using h)
    rw [hp] at q
    exact absurd q.2.1 (by simp)

/-! ### QuoteBack, walked -/
set_option maxHeartbeats 8000000 in
set_option maxRecDepth 100000 in
theorem quoteback_any (A : Option Addr) (c : Nat) (l : List Int) (w : World) (hr : Kd.C (Kd.int .i64) w A l.length l) (hc : l.length ≤ c) (hx : l.length ≤ 140737488355328) :
    Calls Try.prog 4 #[.slice A l.length c] w fun e w' => e = .returned (.bool true) ∧ Below w.heap.size w w' := by
  obtain ⟨K, hK⟩ : ∃ K : Nat, 200 ≤ K := ⟨200, Nat.le_refl _⟩
  obtain ⟨L, hL, hsc, hl60⟩ := runes_val K l (by omega) hx
  have hr32 : R32 L := fun x hx => by
    have := hsc x hx
    simp only [isScal, decide_eq_true_eq] at this
    omega
  have ht := rtext_val K L hr32 (by omega) (by omega)
  have htb := textV_byt L
  have htl := textV_len L
  have hbn := bnums_nums (textV L) htb
  obtain ⟨S, hS⟩ : ∃ S, strOfNums (textV L) = S := ⟨_, rfl⟩
  have hSs : S.size = (textV L).length := by rw [← hS, str_size]
  rw [hS] at hbn
  have hq := fun W => quote_any S W (by omega)
  rw [hbn] at hq
  have hfl := flat_len (textV L)
  have hql : (quoteL (textV L)).length = ((textV L).flatMap qB).length + 2 := by unfold quoteL; simp
  obtain ⟨X, hX⟩ : ∃ X, strOfNums (quoteL (textV L)) = X := ⟨_, rfl⟩
  have hXs : X.size = (quoteL (textV L)).length := by rw [← hX, str_size]
  have hqby : Byt (quoteL (textV L)) := byt_app (byt_app (byt_nums rfl) (flat_byt htb)) (byt_nums rfl)
  have hXn := bnums_nums (quoteL (textV L)) hqby
  rw [hX] at hXn
  simp only [hX] at hq
  have hB := fun W => qback_of X ((textV L).flatMap qB ++ [34]) (if goodL L = true then textV L else []) (goodL L) (by rw [hXn]; rfl) (by omega) (by rw [back_quoted L hsc]; cases goodL L <;> rfl) (if goodL L = true then S else ⟨#[]⟩) (by cases goodL L <;> simp [hS] <;> rfl) W
  have HL := Aside0.mk hL
  have HT := Aside0.mk ht
  have HQ := Aside0.mk hq
  have HB := Aside0.mk hB
  have HS := Aside0.mk hS
  have HR := Aside0.mk hr
  have HCL := Aside0.mk hc
  clear hL hsc hr32 ht htb htl hbn hS hq hfl hql hX hqby hXn hB hr hc hx hK hXs hSs
  go_enter Try.func4, Try.ntmps4
  go_wp2_with (first
    | (go_at_call 17; refine (orthoepylaw00_Runes.calls K A c l L _ HR.out HCL.out HL.out).mono ?_; rintro e w1 ⟨v1, rfl, hr1, hB1⟩; obtain ⟨A1, c1, e1⟩ := Kd.R_slice hr1; subst e1; have HR1 := Aside0.mk (Kd.R_reads' hr1).2.2; have HC1 := Aside0.mk (Kd.R_reads' hr1).2.1; have HK1 := Aside0.mk hB1; clear hr1 hB1)
    | (go_at_call 18; refine (orthoepyref02_Text.calls K A1 c1 L (textV L) _ HR1.out HC1.out HT.out).mono ?_; rintro e w2 ⟨v2, rfl, hr2, hB2⟩; obtain ⟨A2, c2, e2⟩ := Kd.R_slice hr2; subst e2; have hcv := Kd.C_string (P := Try.prog) (c := c2) Try.underlying32 Try.underlying5 Try.underlying9 (Kd.R_reads' hr2).2.2; rw [HS.out] at hcv; have HK2 := Aside0.mk hB2; clear hr2 hB2))
  go_loopw [5, 6] (fun o i wr => ∃ j : Nat, j ≤ L.length ∧ i = .int .i64 j ∧ o = .bool (goodL (L.take j)) ∧ Aside0 (Keeps (fun _ => False) w2 wr)) (fun _ i _ => L.length - (intOf i).toNat)
  case atStart => exact ⟨0, Nat.zero_le _, rfl, rfl, ⟨Keeps.refl _ _⟩⟩
  case round =>
    obtain ⟨j, hj, rfl, rfl, HKr⟩ := hrel
    by_cases hlt : j < L.length
    · obtain ⟨ad, rfl, hcell⟩ := cells_i32 HR1.out j hlt
      have hjj : L[j]? = some (L.getD j 0) := by rw [List.getD_eq_getElem?_getD, List.getElem?_eq_getElem hlt]; rfl
      have htk : L.take (j + 1) = L.take j ++ [L.getD j 0] := by rw [List.take_add_one, hjj]; rfl
      obtain ⟨c', hc0⟩ : ∃ x, L.getD j 0 = x := ⟨_, rfl⟩
      rw [hc0] at htk hcell
      have hcx := hcell wr (HK2.out.trans (HKr.out.below (fun _ q => q.elim) HK2.out.size))
      have hg : goodL (L.take (j + 1)) = (goodL (L.take j) && !isNon c') := by rw [htk, goodL_snoc]
      have hlt2 : decide (j < L.length) = true := decide_eq_true hlt
      have HN := Aside0.mk (rnon_val c')
      generalize hG : goodL (L.take j) = G at hg
      cases G with
      | false =>
        go_wp2
        go_roundw
        case rel => exact ⟨j + 1, by omega, by go_num, by rw [hg]; rfl, HKr⟩
        case measure => simp [intOf]; omega
      | true =>
        go_wp2_with (go_at_call 19; refine (orthoepyref01_Nonchar.calls c' _ _ HN.out).mono ?_; rintro e w' ⟨rfl, hd⟩; obtain ⟨n7, hd⟩ := hd.out; subst hd)
        go_roundw
        case rel => exact ⟨j + 1, by omega, by go_num, by rw [hg]; cases isNon c' <;> rfl, ⟨HKr.out.drewN _⟩⟩
        case measure => simp [intOf]; omega
    · have hlt2 : decide (j < L.length) = false := decide_eq_false hlt
      obtain rfl : j = L.length := by omega
      rw [List.take_length]
      have HB' := HB.out
      clear HB
      have hs0 : Same w wr := ⟨((Keeps.of_below HK1.out (fun _ => False)).trans (Keeps.of_below HK2.out (fun _ => False)) (fun _ q => q.elim)).trans HKr.out (fun _ q => q.elim)⟩
      cases hG : goodL L with
      | false =>
        simp only [hG, Bool.false_eq_true, if_false] at HB'
        have HB2 := Aside0.mk HB'
        clear HB'
        go_wp2_with (first
          | (go_at_call 15; refine (HQ.out _).mono ?_; rintro e w3 ⟨rfl, hk⟩; have hs := Same.on (by assumption) hk; clear hk)
          | (go_at_call 11; refine (HB2.out _).mono ?_; rintro e w4 ⟨rfl, hk⟩; have hs := Same.on (by assumption) hk; clear hk)
          | (go_at_call 10; refine (awake_any _).mono ?_; rintro e w5 ⟨rfl, hk⟩; have hs := Same.on (by assumption) hk; clear hk))
        go_ret
        exact ⟨rfl, (Same.out (by assumption)).below (fun _ q => q.elim) (Nat.le_refl _)⟩
      | true =>
        simp only [hG, if_true] at HB'
        have HB2 := Aside0.mk HB'
        have heq : (S.toList == S.toList) = true := by simp
        clear HB'
        go_wp2_with (first
          | (go_at_call 15; refine (HQ.out _).mono ?_; rintro e w3 ⟨rfl, hk⟩; have hs := Same.on (by assumption) hk; clear hk)
          | (go_at_call 11; refine (HB2.out _).mono ?_; rintro e w4 ⟨rfl, hk⟩; have hs := Same.on (by assumption) hk; clear hk)
          | (go_at_call 10; refine (awake_any _).mono ?_; rintro e w5 ⟨rfl, hk⟩; have hs := Same.on (by assumption) hk; clear hk))
        go_ret
        exact ⟨rfl, (Same.out (by assumption)).below (fun _ q => q.elim) (Nat.le_refl _)⟩
theorem orthoepylaw22_QuoteBack.walk (a0 : Option Addr) (len0 cap0 : Nat) (z0 : List Int) (w : World) (w0 : (a0 = none ∧ len0 = 0 ∧ cap0 = 0 ∧ z0 = []) ∨
    ∃ x, a0 = some x ∧ len0 ≤ cap0 ∧ cap0 ≤ maxLen ∧ z0.length = cap0 ∧ (∀ i, i < z0.length → w.cell? (x.add i) = some (.int .i64 (z0.getD i 0))) ∧ ∀ n ∈ z0, (Lit.int .i64 n).wf = true) (y0 : len0 * 8 ≤ 140737488351232) :
    Calls Try.prog 4 #[.slice a0 len0 cap0] w fun e w' => e = .returned (.bool true) ∧ Below w.heap.size w w' := by
  obtain ⟨l0, rfl, hr0, hm0, hw0, hc0⟩ := ReadsInt.ofRowC w0
  exact quoteback_any a0 cap0 l0 w (Kd.C_of_reads (d := (0 : Int)) (h1 := fun _ => rfl) hr0) hc0 (by omega)

end Go.Proofs.Ytkpeblpgfngjcaa.Pure
