/- The string of the document: Push, Text. -/
import Derived.Test.YtkpeblpgfngjcaaPAllx1
import Derived.Test.YtkpeblpgfngjcaaPAllx2
import Derived.Test.YtkpeblpgfngjcaaPAllx3
import Derived.Test.YtkpeblpgfngjcaaPAllx4
import Derived.Test.YtkpeblpgfngjcaaPAllx5
import Derived.Test.YtkpeblpgfngjcaaHKit
import Derived.Test.YtkpeblpgfngjcaaLUtf
import Derived.Test.YtkpeblpgfngjcaaLRef
import Derived.Test.YtkpeblpgfngjcaaH12c
namespace Go.Proofs.Ytkpeblpgfngjcaa.Pure
open Go.RowKit Go.Proofs.Ytkpeblpgfngjcaa.PAll Go.Proofs.YtkpeblpgfngjcaaW.PrintWords Go.Proofs.YtkpeblpgfngjcaaW.PrintLast Go.Proofs.YtkpeblpgfngjcaaW.PrintMore
set_option linter.unusedVariables false
set_option linter.unusedSimpArgs false

/-! ### Digits: all ways in one -/
def valH : List Int → Int
  | [] => 0
  | [a] => a
  | [a, b] => a * 16 + b
  | [a, b, c] => (a * 16 + b) * 16 + c
  | _ => 0
def rdigitsV (s : RV) (x : Int) : Int × RV :=
  if hexV x < 0 then (2, s) else if wrongV s.Wait (valH s.Hex * 16 + hexV x) ((s.Hex.length : Int) + 1) ≠ 0 then (wrongV s.Wait (valH s.Hex * 16 + hexV x) ((s.Hex.length : Int) + 1), s)
  else if (s.Hex.length : Int) + 1 < 4 then (0, { s with Hex := s.Hex ++ [hexV x] })
  else if hiS s.Wait = true ∧ loS (valH s.Hex * 16 + hexV x) = true then (0, { s with Out := s.Out ++ [joinV s.Wait (valH s.Hex * 16 + hexV x)], Esc := 0, Hex := [], Wait := 0 })
  else if hiS (valH s.Hex * 16 + hexV x) = true then (0, { s with Esc := 0, Hex := [], Wait := valH s.Hex * 16 + hexV x })
  else (0, { s with Out := s.Out ++ [valH s.Hex * 16 + hexV x], Esc := 0, Hex := [], Wait := 0 })
theorem wrong_5 {hi u many : Int} (h : hi ≠ 0 ∧ lowV u many = false ∨ hi = 0 ∧ 2 ≤ many ∧ lowV u many = true) : wrongV hi u many = 5 := if_pos h
theorem wrong_not5 {hi u many : Int} (h : ¬ (hi ≠ 0 ∧ lowV u many = false ∨ hi = 0 ∧ 2 ≤ many ∧ lowV u many = true)) : wrongV hi u many = if hi = 0 ∧ (many = 3 ∧ (u = 4061 ∨ u = 4062) ∨ many = 4 ∧ isNon u = true) then 6 else if many = 4 ∧ hiS hi = true ∧ loS u = true ∧ isNon (joinV hi u) = true then 6 else 0 := if_neg h
theorem low1 (a : Int) : lowV a 1 = decide (a = 13) := rfl
theorem low2 {a b : Int} (ha : 0 ≤ a ∧ a ≤ 15) (hb : 0 ≤ b ∧ b ≤ 15) : lowV (a * 16 + b) 2 = decide (a = 13 ∧ 12 ≤ b) := by
  simp only [lowV, loS]
  rw [if_neg (by decide), if_pos trivial, Bool.eq_iff_iff, decide_eq_true_eq, decide_eq_true_eq]
  omega
theorem low3 {a b c : Int} (ha : 0 ≤ a ∧ a ≤ 15) (hb : 0 ≤ b ∧ b ≤ 15) (hc : 0 ≤ c ∧ c ≤ 15) : lowV ((a * 16 + b) * 16 + c) 3 = decide (a = 13 ∧ 12 ≤ b) := by
  simp only [lowV, loS]
  rw [if_neg (by decide), if_neg (by decide), if_pos trivial, Bool.eq_iff_iff, decide_eq_true_eq, decide_eq_true_eq]
  omega
theorem low4 {a b c d : Int} (ha : 0 ≤ a ∧ a ≤ 15) (hb : 0 ≤ b ∧ b ≤ 15) (hc : 0 ≤ c ∧ c ≤ 15) (hd : 0 ≤ d ∧ d ≤ 15) : lowV (((a * 16 + b) * 16 + c) * 16 + d) 4 = decide (a = 13 ∧ 12 ≤ b) := by
  simp only [lowV, loS]
  rw [if_neg (by decide), if_neg (by decide), if_neg (by decide), Bool.eq_iff_iff, decide_eq_true_eq, decide_eq_true_eq]
  omega
theorem rpost_same {P : Program} {f : Nat} {args : Array Value} {w : World} {base q : Nat} {S : Nat → Prop} {s s' : RV} {v v' : Value} (hs : RefAt w base S q s) (e1 : v = v') (e2 : s' = s)
    (h : Calls P f args w fun e w' => e = .returned v ∧ Keeps (fun _ => False) w w' ∧ RefAt w' base S q s) : Calls P f args w fun e w' => e = .returned v' ∧ Keeps (MineR S q) w w' ∧ RefAt w' base (More S w w') q s' := by
  subst e1 e2
  exact h.mono fun e w' ⟨h1, h2, h3⟩ => ⟨h1, h2.mono (fun _ h => h.elim), h3.mono (fun _ h => .inl h) (more_ne1 hs.ne hs.lt) (more_lt hs.slt h2.size)⟩
theorem rpost_more {P : Program} {f : Nat} {args : Array Value} {w : World} {base q : Nat} {S : Nat → Prop} {s' s2 : RV} {v v' : Value} (e1 : v = v') (e2 : s2 = s')
    (h : Calls P f args w fun e w' => e = .returned v ∧ Keeps (MineR S q) w w' ∧ RefAt w' base (More S w w') q s') : Calls P f args w fun e w' => e = .returned v' ∧ Keeps (MineR S q) w w' ∧ RefAt w' base (More S w w') q s2 := by
  subst e1 e2
  exact h
set_option maxHeartbeats 2000000 in
set_option maxRecDepth 100000 in
theorem rdig_no (base q : Nat) (S : Nat → Prop) (s : RV) (x : Int) (w : World) (h : RefAt w base S q s) (hx : 0 ≤ x ∧ x ≤ 255) (hv : hexV x < 0) :
    Calls Try.prog 46 #[.pointer (some ⟨q, 0, none⟩), .int .u8 x] w fun e w' => e = .returned (.int .i64 2) ∧ Keeps (fun _ => False) w w' ∧ RefAt w' base S q s := by
  have hh := hex_val x hx.1 hx.2
  have hr := hexV_range x
  rw [show hexV x = -1 by omega] at hh
  have HH := Aside0.mk hh
  have H := Aside0.mk h
  clear hh hv h hr
  go_enter Try.func46, Try.ntmps46
  go_wp2_with (go_at_call 61; refine (orthoepyref12_hex.calls 12 x (-1) _ HH.out).mono ?_; rintro e w0 ⟨rfl, hd⟩; obtain ⟨na, hd⟩ := hd.out; subst hd)
  go_ret
  have hk := (Keeps.refl (fun _ => False) w).drewN na
  exact ⟨rfl, hk, H.out.keep hk id (fun _ _ => id)⟩

theorem non_half {u : Int} (h : isNon u = true) : hiS u = false := by
  unfold isNon isScal at h
  unfold hiS
  simp only [Bool.or_eq_true, Bool.and_eq_true, decide_eq_true_eq] at h
  exact decide_eq_false (by omega)
theorem rdig_all1 (base q : Nat) (S : Nat → Prop) (Out B : List Int) (Esc : Int) (Over : Bool) (x v  W : Int) (w : World) (h : RefAt w base S q ⟨Out, B, Esc, [], W, Over⟩) (hx : 0 ≤ x ∧ x ≤ 255) (hv : hexV x = v) (h0 : 0 ≤ v)  (hW : W = 0 ∨ hiS W = true) (hl : Out.length ≤ 1000000) :
    Calls Try.prog 46 #[.pointer (some ⟨q, 0, none⟩), .int .u8 x] w fun e w' => e = .returned (.int .i64 (rdigitsV ⟨Out, B, Esc, [], W, Over⟩ x).1) ∧ Keeps (MineR S q) w w' ∧ RefAt w' base (More S w w') q (rdigitsV ⟨Out, B, Esc, [], W, Over⟩ x).2 := by
  have h15 : v ≤ 15 := by have := hexV_range x; omega
  have hV : 0 ≤ v ∧ v ≤ 15 := ⟨h0, h15⟩
  have low := low1 v
  have hWp : W ≠ 0 → 0 < W ∧ hiS W = true := fun hn => by
    have h1 := hW.resolve_left hn
    refine ⟨?_, h1⟩
    simp only [hiS, decide_eq_true_eq] at h1
    omega
  have R5 : wrongV W (v) 1 = 5 → rdigitsV ⟨Out, B, Esc, [], W, Over⟩ x = (5, ⟨Out, B, Esc, [], W, Over⟩) := fun e => by
    unfold rdigitsV
    simp only [hv, valH, Int.zero_mul, Int.zero_add]
    rw [show (([] : List Int).length : Int) + 1 = 1 from rfl]
    rw [if_neg (by omega), e, if_pos (by decide)]
  have R0 : wrongV W (v) 1 = 0 → rdigitsV ⟨Out, B, Esc, [], W, Over⟩ x = (0, ⟨Out, B, Esc, [v], W, Over⟩) := fun e => by
    unfold rdigitsV
    simp only [hv, valH, Int.zero_mul, Int.zero_add]
    rw [show (([] : List Int).length : Int) + 1 = 1 from rfl]
    rw [if_neg (by omega), e, if_neg (by decide), if_pos (by decide)]
    rfl
  by_cases hw : W = 0
  · subst hw
    have R := R0 (by rw [wrong_not5 (by omega), if_neg (by omega), if_neg (by omega)])
    exact rpost_more (by rw [R]) (by rw [R]) (rdig_1zs base q S Out B Esc Over x v 0 w h hx hv (by omega) )
  · obtain ⟨w0, w1⟩ := hWp hw
    by_cases e : v = 13
    · have R := R0 (by rw [wrong_not5 (by rw [low]; simp [hw, e]), if_neg (by omega), if_neg (by omega)])
      exact rpost_more (by rw [R]) (by rw [R]) (rdig_1hy base q S Out B Esc Over x v W w h hx hv (by omega) e w0)
    · have R := R5 (wrong_5 (.inl ⟨hw, by rw [low]; simp [e]⟩))
      exact rpost_same h (by rw [R]) (by rw [R]) (rdig_1hn base q S Out B Esc Over x v W w h hx hv (by omega) e w0)
theorem rdig_all2 (base q : Nat) (S : Nat → Prop) (Out B : List Int) (Esc : Int) (Over : Bool) (x v a W : Int) (w : World) (h : RefAt w base S q ⟨Out, B, Esc, [a], W, Over⟩) (hx : 0 ≤ x ∧ x ≤ 255) (hv : hexV x = v) (h0 : 0 ≤ v) (ha : 0 ≤ a ∧ a ≤ 15) (hW : W = 0 ∨ hiS W = true) (hl : Out.length ≤ 1000000) :
    Calls Try.prog 46 #[.pointer (some ⟨q, 0, none⟩), .int .u8 x] w fun e w' => e = .returned (.int .i64 (rdigitsV ⟨Out, B, Esc, [a], W, Over⟩ x).1) ∧ Keeps (MineR S q) w w' ∧ RefAt w' base (More S w w') q (rdigitsV ⟨Out, B, Esc, [a], W, Over⟩ x).2 := by
  have h15 : v ≤ 15 := by have := hexV_range x; omega
  have hV : 0 ≤ v ∧ v ≤ 15 := ⟨h0, h15⟩
  have low := low2 ha hV
  have hWp : W ≠ 0 → 0 < W ∧ hiS W = true := fun hn => by
    have h1 := hW.resolve_left hn
    refine ⟨?_, h1⟩
    simp only [hiS, decide_eq_true_eq] at h1
    omega
  have R5 : wrongV W (a * 16 + v) 2 = 5 → rdigitsV ⟨Out, B, Esc, [a], W, Over⟩ x = (5, ⟨Out, B, Esc, [a], W, Over⟩) := fun e => by
    unfold rdigitsV
    simp only [hv, valH, Int.zero_mul, Int.zero_add]
    rw [show (([a] : List Int).length : Int) + 1 = 2 from rfl]
    rw [if_neg (by omega), e, if_pos (by decide)]
  have R0 : wrongV W (a * 16 + v) 2 = 0 → rdigitsV ⟨Out, B, Esc, [a], W, Over⟩ x = (0, ⟨Out, B, Esc, [a, v], W, Over⟩) := fun e => by
    unfold rdigitsV
    simp only [hv, valH, Int.zero_mul, Int.zero_add]
    rw [show (([a] : List Int).length : Int) + 1 = 2 from rfl]
    rw [if_neg (by omega), e, if_neg (by decide), if_pos (by decide)]
    rfl
  by_cases hw : W = 0
  · subst hw
    have n0 : ¬ hiS (0 : Int) = true := by decide
    by_cases ea : a = 13
    · by_cases eb : 12 ≤ v
      · have R := R5 (wrong_5 (.inr ⟨rfl, by decide, by rw [low]; simp [ea, eb]⟩))
        exact rpost_same h (by rw [R]) (by rw [R]) (rdig_2zl base q S Out B Esc Over x a v 0 w h hx hv (by omega) ea eb)
      · have eb' : v < 12 := by omega
        have wn := wrong_not5 (hi := 0) (u := a * 16 + v) (many := 2) (by rw [low]; simp [ea]; omega)
        have R := R0 (by rw [wn, if_neg (by omega), if_neg (by omega)])
        exact rpost_more (by rw [R]) (by rw [R]) (rdig_2zt base q S Out B Esc Over x a v 0 w h hx hv (by omega) ea eb')
    · have wn := wrong_not5 (hi := 0) (u := a * 16 + v) (many := 2) (by rw [low]; simp [ea])
      have R := R0 (by rw [wn, if_neg (by omega), if_neg (by omega)])
      exact rpost_more (by rw [R]) (by rw [R]) (rdig_2zs base q S Out B Esc Over x a v 0 w h hx hv (by omega) ea)
  · obtain ⟨w0, w1⟩ := hWp hw
    by_cases ea : a = 13
    · by_cases eb : 12 ≤ v
      · have wn := wrong_not5 (hi := W) (u := a * 16 + v) (many := 2) (by rw [low]; simp [hw, ea, eb])
        have R := R0 (by rw [wn, if_neg (by omega), if_neg (by omega)])
        exact rpost_more (by rw [R]) (by rw [R]) (rdig_2hy base q S Out B Esc Over x a v W w h hx hv (by omega) ea eb w0)
      · have eb' : v < 12 := by omega
        have R := R5 (wrong_5 (.inl ⟨hw, by rw [low]; simp [ea]; omega⟩))
        exact rpost_same h (by rw [R]) (by rw [R]) (rdig_2hf base q S Out B Esc Over x a v W w h hx hv (by omega) ea eb' w0)
    · have R := R5 (wrong_5 (.inl ⟨hw, by rw [low]; simp [ea]⟩))
      exact rpost_same h (by rw [R]) (by rw [R]) (rdig_2hn base q S Out B Esc Over x a v W w h hx hv (by omega) ea w0)
theorem rdig_all3 (base q : Nat) (S : Nat → Prop) (Out B : List Int) (Esc : Int) (Over : Bool) (x v a b W : Int) (w : World) (h : RefAt w base S q ⟨Out, B, Esc, [a, b], W, Over⟩) (hx : 0 ≤ x ∧ x ≤ 255) (hv : hexV x = v) (h0 : 0 ≤ v) (ha : 0 ≤ a ∧ a ≤ 15) (hb : 0 ≤ b ∧ b ≤ 15) (hW : W = 0 ∨ hiS W = true) (hl : Out.length ≤ 1000000) :
    Calls Try.prog 46 #[.pointer (some ⟨q, 0, none⟩), .int .u8 x] w fun e w' => e = .returned (.int .i64 (rdigitsV ⟨Out, B, Esc, [a, b], W, Over⟩ x).1) ∧ Keeps (MineR S q) w w' ∧ RefAt w' base (More S w w') q (rdigitsV ⟨Out, B, Esc, [a, b], W, Over⟩ x).2 := by
  have h15 : v ≤ 15 := by have := hexV_range x; omega
  have hV : 0 ≤ v ∧ v ≤ 15 := ⟨h0, h15⟩
  have low := low3 ha hb hV
  have hWp : W ≠ 0 → 0 < W ∧ hiS W = true := fun hn => by
    have h1 := hW.resolve_left hn
    refine ⟨?_, h1⟩
    simp only [hiS, decide_eq_true_eq] at h1
    omega
  have R5 : wrongV W ((a * 16 + b) * 16 + v) 3 = 5 → rdigitsV ⟨Out, B, Esc, [a, b], W, Over⟩ x = (5, ⟨Out, B, Esc, [a, b], W, Over⟩) := fun e => by
    unfold rdigitsV
    simp only [hv, valH, Int.zero_mul, Int.zero_add]
    rw [show (([a, b] : List Int).length : Int) + 1 = 3 from rfl]
    rw [if_neg (by omega), e, if_pos (by decide)]
  have R6 : wrongV W ((a * 16 + b) * 16 + v) 3 = 6 → rdigitsV ⟨Out, B, Esc, [a, b], W, Over⟩ x = (6, ⟨Out, B, Esc, [a, b], W, Over⟩) := fun e => by
    unfold rdigitsV
    simp only [hv, valH, Int.zero_mul, Int.zero_add]
    rw [show (([a, b] : List Int).length : Int) + 1 = 3 from rfl]
    rw [if_neg (by omega), e, if_pos (by decide)]
  have R0 : wrongV W ((a * 16 + b) * 16 + v) 3 = 0 → rdigitsV ⟨Out, B, Esc, [a, b], W, Over⟩ x = (0, ⟨Out, B, Esc, [a, b, v], W, Over⟩) := fun e => by
    unfold rdigitsV
    simp only [hv, valH, Int.zero_mul, Int.zero_add]
    rw [show (([a, b] : List Int).length : Int) + 1 = 3 from rfl]
    rw [if_neg (by omega), e, if_neg (by decide), if_pos (by decide)]
    rfl
  by_cases hw : W = 0
  · subst hw
    have n0 : ¬ hiS (0 : Int) = true := by decide
    by_cases ea : a = 13
    · by_cases eb : 12 ≤ b
      · have R := R5 (wrong_5 (.inr ⟨rfl, by decide, by rw [low]; simp [ea, eb]⟩))
        exact rpost_same h (by rw [R]) (by rw [R]) (rdig_3zl base q S Out B Esc Over x a b v 0 w h hx hv (by omega) ea eb)
      · have eb' : b < 12 := by omega
        have wn := wrong_not5 (hi := 0) (u := (a * 16 + b) * 16 + v) (many := 3) (by rw [low]; simp [ea]; omega)
        have R := R0 (by rw [wn, if_neg (by omega), if_neg (by omega)])
        exact rpost_more (by rw [R]) (by rw [R]) (rdig_3zt base q S Out B Esc Over x a b v 0 w h hx hv (by omega) ea eb' (by omega))
    · have wn := wrong_not5 (hi := 0) (u := (a * 16 + b) * 16 + v) (many := 3) (by rw [low]; simp [ea])
      by_cases ep : a = 15
      · by_cases eq : b = 13
        · by_cases er : v = 13
          · have R := R6 (by rw [wn, if_pos ⟨rfl, .inl ⟨rfl, .inl (by omega)⟩⟩])
            exact rpost_same h (by rw [R]) (by rw [R]) (rdig_3zx1 base q S Out B Esc Over x a b v 0 w h hx hv (by omega) ea ep eq er)
          · by_cases es : v = 14
            · have R := R6 (by rw [wn, if_pos ⟨rfl, .inl ⟨rfl, .inr (by omega)⟩⟩])
              exact rpost_same h (by rw [R]) (by rw [R]) (rdig_3zx2 base q S Out B Esc Over x a b v 0 w h hx hv (by omega) ea ep eq er es)
            · have R := R0 (by rw [wn, if_neg (by omega), if_neg (by omega)])
              exact rpost_more (by rw [R]) (by rw [R]) (rdig_3zs2 base q S Out B Esc Over x a b v 0 w h hx hv (by omega) ea ep eq er es)
        · have R := R0 (by rw [wn, if_neg (by omega), if_neg (by omega)])
          exact rpost_more (by rw [R]) (by rw [R]) (rdig_3zs1 base q S Out B Esc Over x a b v 0 w h hx hv (by omega) ea ep eq)
      · have R := R0 (by rw [wn, if_neg (by omega), if_neg (by omega)])
        exact rpost_more (by rw [R]) (by rw [R]) (rdig_3zs0 base q S Out B Esc Over x a b v 0 w h hx hv (by omega) ea ep)
  · obtain ⟨w0, w1⟩ := hWp hw
    by_cases ea : a = 13
    · by_cases eb : 12 ≤ b
      · have wn := wrong_not5 (hi := W) (u := (a * 16 + b) * 16 + v) (many := 3) (by rw [low]; simp [hw, ea, eb])
        have R := R0 (by rw [wn, if_neg (by omega), if_neg (by omega)])
        exact rpost_more (by rw [R]) (by rw [R]) (rdig_3hy base q S Out B Esc Over x a b v W w h hx hv (by omega) ea eb w0)
      · have eb' : b < 12 := by omega
        have R := R5 (wrong_5 (.inl ⟨hw, by rw [low]; simp [ea]; omega⟩))
        exact rpost_same h (by rw [R]) (by rw [R]) (rdig_3hf base q S Out B Esc Over x a b v W w h hx hv (by omega) ea eb' w0)
    · have R := R5 (wrong_5 (.inl ⟨hw, by rw [low]; simp [ea]⟩))
      exact rpost_same h (by rw [R]) (by rw [R]) (rdig_3hn base q S Out B Esc Over x a b v W w h hx hv (by omega) ea w0)
theorem rdig_all4 (base q : Nat) (S : Nat → Prop) (Out B : List Int) (Esc : Int) (Over : Bool) (x v a b c W : Int) (w : World) (h : RefAt w base S q ⟨Out, B, Esc, [a, b, c], W, Over⟩) (hx : 0 ≤ x ∧ x ≤ 255) (hv : hexV x = v) (h0 : 0 ≤ v) (ha : 0 ≤ a ∧ a ≤ 15) (hb : 0 ≤ b ∧ b ≤ 15) (hc : 0 ≤ c ∧ c ≤ 15) (hW : W = 0 ∨ hiS W = true) (hl : Out.length ≤ 1000000) :
    Calls Try.prog 46 #[.pointer (some ⟨q, 0, none⟩), .int .u8 x] w fun e w' => e = .returned (.int .i64 (rdigitsV ⟨Out, B, Esc, [a, b, c], W, Over⟩ x).1) ∧ Keeps (MineR S q) w w' ∧ RefAt w' base (More S w w') q (rdigitsV ⟨Out, B, Esc, [a, b, c], W, Over⟩ x).2 := by
  have h15 : v ≤ 15 := by have := hexV_range x; omega
  have hV : 0 ≤ v ∧ v ≤ 15 := ⟨h0, h15⟩
  have low := low4 ha hb hc hV
  have hWp : W ≠ 0 → 0 < W ∧ hiS W = true := fun hn => by
    have h1 := hW.resolve_left hn
    refine ⟨?_, h1⟩
    simp only [hiS, decide_eq_true_eq] at h1
    omega
  have R5 : wrongV W (((a * 16 + b) * 16 + c) * 16 + v) 4 = 5 → rdigitsV ⟨Out, B, Esc, [a, b, c], W, Over⟩ x = (5, ⟨Out, B, Esc, [a, b, c], W, Over⟩) := fun e => by
    unfold rdigitsV
    simp only [hv, valH, Int.zero_mul, Int.zero_add]
    rw [show (([a, b, c] : List Int).length : Int) + 1 = 4 from rfl]
    rw [if_neg (by omega), e, if_pos (by decide)]
  have R6 : wrongV W (((a * 16 + b) * 16 + c) * 16 + v) 4 = 6 → rdigitsV ⟨Out, B, Esc, [a, b, c], W, Over⟩ x = (6, ⟨Out, B, Esc, [a, b, c], W, Over⟩) := fun e => by
    unfold rdigitsV
    simp only [hv, valH, Int.zero_mul, Int.zero_add]
    rw [show (([a, b, c] : List Int).length : Int) + 1 = 4 from rfl]
    rw [if_neg (by omega), e, if_pos (by decide)]
  have RP : wrongV W (((a * 16 + b) * 16 + c) * 16 + v) 4 = 0 → hiS W = true ∧ loS (((a * 16 + b) * 16 + c) * 16 + v) = true → rdigitsV ⟨Out, B, Esc, [a, b, c], W, Over⟩ x = (0, ⟨Out ++ [joinV W (((a * 16 + b) * 16 + c) * 16 + v)], B, 0, [], 0, Over⟩) := fun e p => by
    unfold rdigitsV
    simp only [hv, valH, Int.zero_mul, Int.zero_add]
    rw [show (([a, b, c] : List Int).length : Int) + 1 = 4 from rfl]
    rw [if_neg (by omega), e, if_neg (by decide), if_neg (by decide), if_pos p]
  have RH : wrongV W (((a * 16 + b) * 16 + c) * 16 + v) 4 = 0 → ¬ (hiS W = true ∧ loS (((a * 16 + b) * 16 + c) * 16 + v) = true) → hiS (((a * 16 + b) * 16 + c) * 16 + v) = true → rdigitsV ⟨Out, B, Esc, [a, b, c], W, Over⟩ x = (0, ⟨Out, B, 0, [], ((a * 16 + b) * 16 + c) * 16 + v, Over⟩) := fun e p p2 => by
    unfold rdigitsV
    simp only [hv, valH, Int.zero_mul, Int.zero_add]
    rw [show (([a, b, c] : List Int).length : Int) + 1 = 4 from rfl]
    rw [if_neg (by omega), e, if_neg (by decide), if_neg (by decide), if_neg p, if_pos p2]
  have RO : wrongV W (((a * 16 + b) * 16 + c) * 16 + v) 4 = 0 → ¬ (hiS W = true ∧ loS (((a * 16 + b) * 16 + c) * 16 + v) = true) → ¬ hiS (((a * 16 + b) * 16 + c) * 16 + v) = true → rdigitsV ⟨Out, B, Esc, [a, b, c], W, Over⟩ x = (0, ⟨Out ++ [((a * 16 + b) * 16 + c) * 16 + v], B, 0, [], 0, Over⟩) := fun e p p2 => by
    unfold rdigitsV
    simp only [hv, valH, Int.zero_mul, Int.zero_add]
    rw [show (([a, b, c] : List Int).length : Int) + 1 = 4 from rfl]
    rw [if_neg (by omega), e, if_neg (by decide), if_neg (by decide), if_neg p, if_neg p2]
  by_cases hw : W = 0
  · subst hw
    have n0 : ¬ hiS (0 : Int) = true := by decide
    by_cases ea : a = 13
    · by_cases eb : 12 ≤ b
      · have R := R5 (wrong_5 (.inr ⟨rfl, by decide, by rw [low]; simp [ea, eb]⟩))
        exact rpost_same h (by rw [R]) (by rw [R]) (rdig_4zl base q S Out B Esc Over x a b c v 0 w h hx hv (by omega) ea eb)
      · have eb' : b < 12 := by omega
        have wn := wrong_not5 (hi := 0) (u := ((a * 16 + b) * 16 + c) * 16 + v) (many := 4) (by rw [low]; simp [ea]; omega)
        cases hn : isNon (((a * 16 + b) * 16 + c) * 16 + v) with
        | true =>
          have hh : hiS (((a * 16 + b) * 16 + c) * 16 + v) = false := non_half hn
          have R := R6 (by rw [wn, if_pos ⟨rfl, .inr ⟨rfl, hn⟩⟩])
          exact rpost_same h (by rw [R]) (by rw [R]) (rdig_4znont base q S Out B Esc Over x a b c v 0 (((a * 16 + b) * 16 + c) * 16 + v) 0 w h hx hv (by omega) ea eb' (by omega) (by rw [rhigh_val, hh]) (by rw [rnon_val, hn]))
        | false =>
          have wz : wrongV 0 (((a * 16 + b) * 16 + c) * 16 + v) 4 = 0 := by rw [wn, if_neg (by simp [hn]), if_neg (fun q => n0 q.2.1)]
          cases hh : hiS (((a * 16 + b) * 16 + c) * 16 + v) with
          | true =>
            have R := RH wz (fun q => n0 q.1) hh
            exact rpost_more (by rw [R]) (by rw [R]) (rdig_4zhalft base q S Out B Esc Over x a b c v 0 (((a * 16 + b) * 16 + c) * 16 + v) 0 w h hx hv (by omega) ea eb' (by omega) (by rw [rhigh_val, hh]))
          | false =>
            have R := RO wz (fun q => n0 q.1) (by rw [hh]; decide)
            exact rpost_more (by rw [R]) (by rw [R]) (rdig_4zsayt base q S Out B Esc Over x a b c v 0 (((a * 16 + b) * 16 + c) * 16 + v) 0 w h hx hv (by omega) ea eb' (by omega) (by rw [rhigh_val, hh]) (by rw [rnon_val, hn]) hl)
    · have wn := wrong_not5 (hi := 0) (u := ((a * 16 + b) * 16 + c) * 16 + v) (many := 4) (by rw [low]; simp [ea])
      cases hn : isNon (((a * 16 + b) * 16 + c) * 16 + v) with
      | true =>
        have hh : hiS (((a * 16 + b) * 16 + c) * 16 + v) = false := non_half hn
        have R := R6 (by rw [wn, if_pos ⟨rfl, .inr ⟨rfl, hn⟩⟩])
        exact rpost_same h (by rw [R]) (by rw [R]) (rdig_4znons base q S Out B Esc Over x a b c v 0 (((a * 16 + b) * 16 + c) * 16 + v) 0 w h hx hv (by omega) ea (by omega) (by rw [rhigh_val, hh]) (by rw [rnon_val, hn]))
      | false =>
        have wz : wrongV 0 (((a * 16 + b) * 16 + c) * 16 + v) 4 = 0 := by rw [wn, if_neg (by simp [hn]), if_neg (fun q => n0 q.2.1)]
        cases hh : hiS (((a * 16 + b) * 16 + c) * 16 + v) with
        | true =>
          have R := RH wz (fun q => n0 q.1) hh
          exact rpost_more (by rw [R]) (by rw [R]) (rdig_4zhalfs base q S Out B Esc Over x a b c v 0 (((a * 16 + b) * 16 + c) * 16 + v) 0 w h hx hv (by omega) ea (by omega) (by rw [rhigh_val, hh]))
        | false =>
          have R := RO wz (fun q => n0 q.1) (by rw [hh]; decide)
          exact rpost_more (by rw [R]) (by rw [R]) (rdig_4zsays base q S Out B Esc Over x a b c v 0 (((a * 16 + b) * 16 + c) * 16 + v) 0 w h hx hv (by omega) ea (by omega) (by rw [rhigh_val, hh]) (by rw [rnon_val, hn]) hl)
  · obtain ⟨w0, w1⟩ := hWp hw
    by_cases ea : a = 13
    · by_cases eb : 12 ≤ b
      · have wn := wrong_not5 (hi := W) (u := ((a * 16 + b) * 16 + c) * 16 + v) (many := 4) (by rw [low]; simp [hw, ea, eb])
        have lo : loS (((a * 16 + b) * 16 + c) * 16 + v) = true := by simp only [loS, decide_eq_true_eq]; omega
        have hj := rjoin_val W (((a * 16 + b) * 16 + c) * 16 + v)
        rw [if_pos ⟨w1, lo⟩] at hj
        cases hn : isNon (joinV W (((a * 16 + b) * 16 + c) * 16 + v)) with
        | true =>
          have R := R6 (by rw [wn, if_neg (fun q => hw q.1), if_pos ⟨rfl, w1, lo, hn⟩])
          exact rpost_same h (by rw [R]) (by rw [R]) (rdig_4hnon base q S Out B Esc Over x a b c v W (((a * 16 + b) * 16 + c) * 16 + v) (joinV W (((a * 16 + b) * 16 + c) * 16 + v)) w h hx hv (by omega) ea eb (by omega) w0 hj (by rw [rnon_val, hn]))
        | false =>
          have R := RP (by rw [wn, if_neg (fun q => hw q.1), if_neg (by simp [hn])]) ⟨w1, lo⟩
          exact rpost_more (by rw [R]) (by rw [R]) (rdig_4hsay base q S Out B Esc Over x a b c v W (((a * 16 + b) * 16 + c) * 16 + v) (joinV W (((a * 16 + b) * 16 + c) * 16 + v)) w h hx hv (by omega) ea eb (by omega) w0 hj (by rw [rnon_val, hn]) hl)
      · have eb' : b < 12 := by omega
        have R := R5 (wrong_5 (.inl ⟨hw, by rw [low]; simp [ea]; omega⟩))
        exact rpost_same h (by rw [R]) (by rw [R]) (rdig_4hf base q S Out B Esc Over x a b c v W w h hx hv (by omega) ea eb' w0)
    · have R := R5 (wrong_5 (.inl ⟨hw, by rw [low]; simp [ea]⟩))
      exact rpost_same h (by rw [R]) (by rw [R]) (rdig_4hn base q S Out B Esc Over x a b c v W w h hx hv (by omega) ea w0)

/-! ### The document's string, a byte more -/
def rescapeV (s : RV) (x : Int) : Int × RV := if x = 117 then (0, { s with Esc := 2 }) else match escC x with | none => (2, s) | some c => if 0 < s.Wait then (5, s) else (0, { s.say c with Esc := 0 })
def rbytesV (s : RV) (x : Int) : Int × RV :=
  if howV (s.B ++ [x]) = 0 then (4, s) else if 0 < s.Wait then (5, s) else if howV (s.B ++ [x]) = 1 then (0, { s with B := s.B ++ [x] })
  else if isNon (ofV (s.B ++ [x])) = true then (6, s) else (0, { s.say (ofV (s.B ++ [x])) with B := [] })
def rpushV (s : RV) (x : Int) : Bool × Int × RV :=
  if s.Over = true ∨ x < 32 then (false, 2, s) else if s.Esc = 2 then (false, rdigitsV s x) else if s.Esc = 1 then (false, rescapeV s x) else if 0 < s.B.length ∨ 128 ≤ x then (false, rbytesV s x)
  else if x = 92 then (false, 0, { s with Esc := 1 }) else if 0 < s.Wait then (false, 5, s) else if x = 34 then (true, 0, { s with Over := true }) else (false, 0, s.say x)
structure RV.Ok (s : RV) : Prop where
  len : s.Out.length ≤ 900000
  hex : s.Hex.length ≤ 3 ∧ ∀ d ∈ s.Hex, 0 ≤ d ∧ d ≤ 15
  wait : s.Wait = 0 ∨ hiS s.Wait = true
  byt : Byt s.B ∧ (s.B = [] ∨ howV s.B = 1)
theorem esc_nonneg {x c : Int} (h : escC x = some c) : 0 ≤ c := by
  unfold escC at h
  (repeat' split at h) <;> (first | (cases h; done) | (obtain rfl := Option.some.inj h; omega))
theorem RV.Ok.pos {s : RV} (h : s.Ok) : 0 ≤ s.Wait := by
  rcases h.wait with e | e
  · omega
  · simp only [hiS, decide_eq_true_eq] at e
    omega
theorem rescape_any (base q : Nat) (S : Nat → Prop) (s : RV) (x : Int) (w : World) (h : RefAt w base S q s) (ok : s.Ok) (hx : 0 ≤ x ∧ x ≤ 255) :
    Calls Try.prog 47 #[.pointer (some ⟨q, 0, none⟩), .int .u8 x] w fun e w' => e = .returned (.int .i64 (rescapeV s x).1) ∧ Keeps (MineR S q) w w' ∧ RefAt w' base (More S w w') q (rescapeV s x).2 := by
  have hp := ok.pos
  have hl := ok.len
  by_cases hu : x = 117
  · subst hu
    exact rescape_unit base q S s w h
  cases hc : escC x with
  | none =>
    have e : rescapeV s x = (2, s) := by unfold rescapeV; rw [if_neg hu, hc]
    exact rpost_same h (by rw [e]) (by rw [e]) (rescape_no base q S s x w h hx hu hc)
  | some c =>
    by_cases hw : 0 < s.Wait
    · have e : rescapeV s x = (5, s) := by unfold rescapeV; rw [if_neg hu, hc]; simp only [hw, if_true]
      exact rpost_same h (by rw [e]) (by rw [e]) (rescape_wait base q S s x c w h hx hu hc (esc_nonneg hc) hw)
    · have e : rescapeV s x = (0, { s.say c with Esc := 0 }) := by unfold rescapeV; rw [if_neg hu, hc]; simp only [hw, if_false]
      exact rpost_more (by rw [e]) (by rw [e]) (rescape_say base q S s x c w h hx hu hc (esc_nonneg hc) (by omega) (by omega))
theorem rbytes_any (base q : Nat) (S : Nat → Prop) (s : RV) (x : Int) (w : World) (h : RefAt w base S q s) (ok : s.Ok) (hx : 0 ≤ x ∧ x ≤ 255) :
    Calls Try.prog 48 #[.pointer (some ⟨q, 0, none⟩), .int .u8 x] w fun e w' => e = .returned (.int .i64 (rbytesV s x).1) ∧ Keeps (MineR S q) w w' ∧ RefAt w' base (More S w w') q (rbytesV s x).2 := by
  have hp := ok.pos
  have hl := ok.len
  have hl3 : s.B.length ≤ 3 := by
    rcases ok.byt.2 with e | e
    · rw [e]; simp
    · have := howV_one_len e; omega
  have hbb : Byt (s.B ++ [x]) := byt_append.2 ⟨ok.byt.1, fun y hy => by simp at hy; subst hy; exact hx⟩
  have hH := how_val 32 (s.B ++ [x]) hbb (by simp; omega)
  have hr := howV_range (s.B ++ [x])
  by_cases h0 : howV (s.B ++ [x]) = 0
  · have e : rbytesV s x = (4, s) := by unfold rbytesV; rw [if_pos h0]
    exact rpost_same h (by rw [e]) (by rw [e]) (rbytes_utf8 base q _ S s x _ w h hx hl3 hH h0)
  by_cases hw : 0 < s.Wait
  · have e : rbytesV s x = (5, s) := by unfold rbytesV; rw [if_neg h0, if_pos hw]
    exact rpost_same h (by rw [e]) (by rw [e]) (rbytes_wait base q _ S s x _ w h hx hl3 hH h0 hw)
  by_cases h1 : howV (s.B ++ [x]) = 1
  · have e : rbytesV s x = (0, { s with B := s.B ++ [x] }) := by unfold rbytesV; rw [if_neg h0, if_neg hw, if_pos h1]
    exact rpost_more (by rw [e]) (by rw [e]) (rbytes_begun base q _ S s x _ w h hx hl3 hH h1 (by omega))
  have h2 : howV (s.B ++ [x]) = 2 := by omega
  have hf := rfirst_val 40 (s.B ++ [x]) hbb (by simp; omega) (by simp; omega)
  rw [scan_one ok.byt.2 h2] at hf
  cases hn : isNon (ofV (s.B ++ [x])) with
  | true =>
    have e : rbytesV s x = (6, s) := by unfold rbytesV; rw [if_neg h0, if_neg hw, if_neg h1, if_pos hn]
    exact rpost_same h (by rw [e]) (by rw [e]) (rbytes_non base q _ S s x _ _ _ w h hx hl3 hH h2 (by omega) hf (by rw [rnon_val, hn]))
  | false =>
    have e : rbytesV s x = (0, { s.say (ofV (s.B ++ [x])) with B := [] }) := by unfold rbytesV; rw [if_neg h0, if_neg hw, if_neg h1, if_neg (by simp [hn])]
    exact rpost_more (by rw [e]) (by rw [e]) (rbytes_say base q _ S s x _ _ _ w h hx hl3 hH h2 (by omega) hf (by rw [rnon_val, hn]) (by omega))
theorem rdigits_any (base q : Nat) (S : Nat → Prop) (s : RV) (x : Int) (w : World) (h : RefAt w base S q s) (ok : s.Ok) (hx : 0 ≤ x ∧ x ≤ 255) :
    Calls Try.prog 46 #[.pointer (some ⟨q, 0, none⟩), .int .u8 x] w fun e w' => e = .returned (.int .i64 (rdigitsV s x).1) ∧ Keeps (MineR S q) w w' ∧ RefAt w' base (More S w w') q (rdigitsV s x).2 := by
  by_cases hv : hexV x < 0
  · have e : rdigitsV s x = (2, s) := if_pos hv
    exact rpost_same h (by rw [e]) (by rw [e]) (rdig_no base q S s x w h hx hv)
  obtain ⟨hl, hh, hw, _⟩ := ok
  obtain ⟨Out, B, Esc, Hex, Wait, Over⟩ := s
  simp only at hl hh hw
  match Hex, hh with
  | [], _ => exact rdig_all1 base q S Out B Esc Over x _ Wait w h hx rfl (by omega) hw (by omega)
  | [a], hh => exact rdig_all2 base q S Out B Esc Over x _ a Wait w h hx rfl (by omega) (hh.2 a (by simp)) hw (by omega)
  | [a, b], hh => exact rdig_all3 base q S Out B Esc Over x _ a b Wait w h hx rfl (by omega) (hh.2 a (by simp)) (hh.2 b (by simp)) hw (by omega)
  | [a, b, c], hh => exact rdig_all4 base q S Out B Esc Over x _ a b c Wait w h hx rfl (by omega) (hh.2 a (by simp)) (hh.2 b (by simp)) (hh.2 c (by simp)) hw (by omega)
  | _ :: _ :: _ :: _ :: _, hh => have := hh.1; simp at this

/-! ### The document's string: Push -/
set_option maxHeartbeats 4000000 in
set_option maxRecDepth 100000 in
theorem rpush_over (base q : Nat) (S : Nat → Prop) (s : RV) (x : Int) (w : World) (h : RefAt w base S q s) (ok : s.Ok) (hx : 0 ≤ x ∧ x ≤ 255) (e0 : s.Over = true) :
    Calls Try.prog 29 #[.pointer (some ⟨q, 0, none⟩), .int .u8 x] w fun e w' => e = .returned (.tuple #[.bool false, .int .i64 2]) ∧ Keeps (fun _ => False) w w' ∧ RefAt w' base S q s := by
  obtain ⟨A0, c0, A1, c1, A2, c2, h1, h2, h3, h4⟩ := h.row
  have k0 : w.cell? ⟨q, 0, none⟩ = some (.slice A0 s.Out.length c0) := (blk_cell h1 0).trans rfl
  have k1 : w.cell? ⟨q, 1, none⟩ = some (.slice A1 s.B.length c1) := (blk_cell h1 1).trans rfl
  have k2 : w.cell? ⟨q, 2, none⟩ = some (.int .i64 s.Esc) := (blk_cell h1 2).trans rfl
  have k4 : w.cell? ⟨q, 4, none⟩ = some (.int .u16 s.Wait) := (blk_cell h1 4).trans rfl
  have k5 : w.cell? ⟨q, 5, none⟩ = some (.bool s.Over) := (blk_cell h1 5).trans rfl
  have f0 := blk_frozen h1 0
  have f2 := blk_frozen h1 2
  have f5 := blk_frozen h1 5
  rw [e0] at k5
  have H1 := Aside0.mk h1
  have H2 := Aside0.mk h2
  have H3 := Aside0.mk h3
  have H4 := Aside0.mk h4
  have H := Aside0.mk h
  have hlt := h.lt
  have hb := h.base_.1
  obtain ⟨hx0, hx1⟩ := hx
  clear h h1 h2 h3 h4 ok e0
  go_enter Try.func29, Try.ntmps29
  go_wp2_with (fail)
  go_ret2
  exact ⟨rfl, Keeps.refl _ _, H.out⟩
set_option maxHeartbeats 4000000 in
set_option maxRecDepth 100000 in
theorem rpush_low (base q : Nat) (S : Nat → Prop) (s : RV) (x : Int) (w : World) (h : RefAt w base S q s) (ok : s.Ok) (hx : 0 ≤ x ∧ x ≤ 255) (e0 : s.Over = false) (e1 : x < 32) :
    Calls Try.prog 29 #[.pointer (some ⟨q, 0, none⟩), .int .u8 x] w fun e w' => e = .returned (.tuple #[.bool false, .int .i64 2]) ∧ Keeps (fun _ => False) w w' ∧ RefAt w' base S q s := by
  obtain ⟨A0, c0, A1, c1, A2, c2, h1, h2, h3, h4⟩ := h.row
  have k0 : w.cell? ⟨q, 0, none⟩ = some (.slice A0 s.Out.length c0) := (blk_cell h1 0).trans rfl
  have k1 : w.cell? ⟨q, 1, none⟩ = some (.slice A1 s.B.length c1) := (blk_cell h1 1).trans rfl
  have k2 : w.cell? ⟨q, 2, none⟩ = some (.int .i64 s.Esc) := (blk_cell h1 2).trans rfl
  have k4 : w.cell? ⟨q, 4, none⟩ = some (.int .u16 s.Wait) := (blk_cell h1 4).trans rfl
  have k5 : w.cell? ⟨q, 5, none⟩ = some (.bool s.Over) := (blk_cell h1 5).trans rfl
  have f0 := blk_frozen h1 0
  have f2 := blk_frozen h1 2
  have f5 := blk_frozen h1 5
  rw [e0] at k5
  have H1 := Aside0.mk h1
  have H2 := Aside0.mk h2
  have H3 := Aside0.mk h3
  have H4 := Aside0.mk h4
  have H := Aside0.mk h
  have hlt := h.lt
  have hb := h.base_.1
  obtain ⟨hx0, hx1⟩ := hx
  clear h h1 h2 h3 h4 ok e0
  go_enter Try.func29, Try.ntmps29
  go_wp2_with (fail)
  go_ret2
  exact ⟨rfl, Keeps.refl _ _, H.out⟩
set_option maxHeartbeats 4000000 in
set_option maxRecDepth 100000 in
theorem rpush_dig (base q : Nat) (S : Nat → Prop) (s : RV) (x : Int) (w : World) (h : RefAt w base S q s) (ok : s.Ok) (hx : 0 ≤ x ∧ x ≤ 255) (e0 : s.Over = false) (e1 : ¬ x < 32) (e2 : s.Esc = 2) :
    Calls Try.prog 29 #[.pointer (some ⟨q, 0, none⟩), .int .u8 x] w fun e w' => e = .returned (.tuple #[.bool false, .int .i64 (rdigitsV s x).1]) ∧ Keeps (MineR S q) w w' ∧ RefAt w' base (More S w w') q (rdigitsV s x).2 := by
  obtain ⟨A0, c0, A1, c1, A2, c2, h1, h2, h3, h4⟩ := h.row
  have k0 : w.cell? ⟨q, 0, none⟩ = some (.slice A0 s.Out.length c0) := (blk_cell h1 0).trans rfl
  have k1 : w.cell? ⟨q, 1, none⟩ = some (.slice A1 s.B.length c1) := (blk_cell h1 1).trans rfl
  have k2 : w.cell? ⟨q, 2, none⟩ = some (.int .i64 s.Esc) := (blk_cell h1 2).trans rfl
  have k4 : w.cell? ⟨q, 4, none⟩ = some (.int .u16 s.Wait) := (blk_cell h1 4).trans rfl
  have k5 : w.cell? ⟨q, 5, none⟩ = some (.bool s.Over) := (blk_cell h1 5).trans rfl
  have f0 := blk_frozen h1 0
  have f2 := blk_frozen h1 2
  have f5 := blk_frozen h1 5
  rw [e0] at k5
  have t1 : decide (x < 32) = false := decide_eq_false (by omega)
  rw [e2] at k2
  have HC := Aside0.mk (rdigits_any base q S s x w h ok hx)
  have H1 := Aside0.mk h1
  have H2 := Aside0.mk h2
  have H3 := Aside0.mk h3
  have H4 := Aside0.mk h4
  have H := Aside0.mk h
  have hlt := h.lt
  have hb := h.base_.1
  obtain ⟨hx0, hx1⟩ := hx
  clear h h1 h2 h3 h4 ok e0 e2
  go_enter Try.func29, Try.ntmps29
  go_wp2_with (go_at_call 46; refine HC.out.mono ?_; rintro e w1 ⟨rfl, hk, hs⟩; have HK := Aside0.mk hk; have HS := Aside0.mk hs; clear hk hs)
  go_ret2
  exact ⟨rfl, HK.out, HS.out⟩
set_option maxHeartbeats 4000000 in
set_option maxRecDepth 100000 in
theorem rpush_esc (base q : Nat) (S : Nat → Prop) (s : RV) (x : Int) (w : World) (h : RefAt w base S q s) (ok : s.Ok) (hx : 0 ≤ x ∧ x ≤ 255) (e0 : s.Over = false) (e1 : ¬ x < 32) (e2 : s.Esc = 1) :
    Calls Try.prog 29 #[.pointer (some ⟨q, 0, none⟩), .int .u8 x] w fun e w' => e = .returned (.tuple #[.bool false, .int .i64 (rescapeV s x).1]) ∧ Keeps (MineR S q) w w' ∧ RefAt w' base (More S w w') q (rescapeV s x).2 := by
  obtain ⟨A0, c0, A1, c1, A2, c2, h1, h2, h3, h4⟩ := h.row
  have k0 : w.cell? ⟨q, 0, none⟩ = some (.slice A0 s.Out.length c0) := (blk_cell h1 0).trans rfl
  have k1 : w.cell? ⟨q, 1, none⟩ = some (.slice A1 s.B.length c1) := (blk_cell h1 1).trans rfl
  have k2 : w.cell? ⟨q, 2, none⟩ = some (.int .i64 s.Esc) := (blk_cell h1 2).trans rfl
  have k4 : w.cell? ⟨q, 4, none⟩ = some (.int .u16 s.Wait) := (blk_cell h1 4).trans rfl
  have k5 : w.cell? ⟨q, 5, none⟩ = some (.bool s.Over) := (blk_cell h1 5).trans rfl
  have f0 := blk_frozen h1 0
  have f2 := blk_frozen h1 2
  have f5 := blk_frozen h1 5
  rw [e0] at k5
  have t1 : decide (x < 32) = false := decide_eq_false (by omega)
  rw [e2] at k2
  have HC := Aside0.mk (rescape_any base q S s x w h ok hx)
  have H1 := Aside0.mk h1
  have H2 := Aside0.mk h2
  have H3 := Aside0.mk h3
  have H4 := Aside0.mk h4
  have H := Aside0.mk h
  have hlt := h.lt
  have hb := h.base_.1
  obtain ⟨hx0, hx1⟩ := hx
  clear h h1 h2 h3 h4 ok e0 e2
  go_enter Try.func29, Try.ntmps29
  go_wp2_with (go_at_call 47; refine HC.out.mono ?_; rintro e w1 ⟨rfl, hk, hs⟩; have HK := Aside0.mk hk; have HS := Aside0.mk hs; clear hk hs)
  go_ret2
  exact ⟨rfl, HK.out, HS.out⟩
set_option maxHeartbeats 4000000 in
set_option maxRecDepth 100000 in
theorem rpush_bytesB (base q : Nat) (S : Nat → Prop) (s : RV) (x : Int) (w : World) (h : RefAt w base S q s) (ok : s.Ok) (hx : 0 ≤ x ∧ x ≤ 255) (e0 : s.Over = false) (e1 : ¬ x < 32) (e2 : s.Esc ≠ 2) (e3 : s.Esc ≠ 1) (e4 : 0 < s.B.length) :
    Calls Try.prog 29 #[.pointer (some ⟨q, 0, none⟩), .int .u8 x] w fun e w' => e = .returned (.tuple #[.bool false, .int .i64 (rbytesV s x).1]) ∧ Keeps (MineR S q) w w' ∧ RefAt w' base (More S w w') q (rbytesV s x).2 := by
  obtain ⟨A0, c0, A1, c1, A2, c2, h1, h2, h3, h4⟩ := h.row
  have k0 : w.cell? ⟨q, 0, none⟩ = some (.slice A0 s.Out.length c0) := (blk_cell h1 0).trans rfl
  have k1 : w.cell? ⟨q, 1, none⟩ = some (.slice A1 s.B.length c1) := (blk_cell h1 1).trans rfl
  have k2 : w.cell? ⟨q, 2, none⟩ = some (.int .i64 s.Esc) := (blk_cell h1 2).trans rfl
  have k4 : w.cell? ⟨q, 4, none⟩ = some (.int .u16 s.Wait) := (blk_cell h1 4).trans rfl
  have k5 : w.cell? ⟨q, 5, none⟩ = some (.bool s.Over) := (blk_cell h1 5).trans rfl
  have f0 := blk_frozen h1 0
  have f2 := blk_frozen h1 2
  have f5 := blk_frozen h1 5
  rw [e0] at k5
  have t1 : decide (x < 32) = false := decide_eq_false (by omega)
  have t2 : (s.Esc == 2) = false := beq_f e2
  have t3 : (s.Esc == 1) = false := beq_f e3
  have t4 : decide (0 < s.B.length) = true := decide_eq_true e4
  have HC := Aside0.mk (rbytes_any base q S s x w h ok hx)
  have H1 := Aside0.mk h1
  have H2 := Aside0.mk h2
  have H3 := Aside0.mk h3
  have H4 := Aside0.mk h4
  have H := Aside0.mk h
  have hlt := h.lt
  have hb := h.base_.1
  obtain ⟨hx0, hx1⟩ := hx
  clear h h1 h2 h3 h4 ok e0 e2 e3
  go_enter Try.func29, Try.ntmps29
  go_wp2_with (go_at_call 48; refine HC.out.mono ?_; rintro e w1 ⟨rfl, hk, hs⟩; have HK := Aside0.mk hk; have HS := Aside0.mk hs; clear hk hs)
  go_ret2
  exact ⟨rfl, HK.out, HS.out⟩
set_option maxHeartbeats 4000000 in
set_option maxRecDepth 100000 in
theorem rpush_bytesX (base q : Nat) (S : Nat → Prop) (s : RV) (x : Int) (w : World) (h : RefAt w base S q s) (ok : s.Ok) (hx : 0 ≤ x ∧ x ≤ 255) (e0 : s.Over = false) (e1 : ¬ x < 32) (e2 : s.Esc ≠ 2) (e3 : s.Esc ≠ 1) (e4 : s.B = []) (e5 : 128 ≤ x) :
    Calls Try.prog 29 #[.pointer (some ⟨q, 0, none⟩), .int .u8 x] w fun e w' => e = .returned (.tuple #[.bool false, .int .i64 (rbytesV s x).1]) ∧ Keeps (MineR S q) w w' ∧ RefAt w' base (More S w w') q (rbytesV s x).2 := by
  obtain ⟨A0, c0, A1, c1, A2, c2, h1, h2, h3, h4⟩ := h.row
  have k0 : w.cell? ⟨q, 0, none⟩ = some (.slice A0 s.Out.length c0) := (blk_cell h1 0).trans rfl
  have k1 : w.cell? ⟨q, 1, none⟩ = some (.slice A1 s.B.length c1) := (blk_cell h1 1).trans rfl
  have k2 : w.cell? ⟨q, 2, none⟩ = some (.int .i64 s.Esc) := (blk_cell h1 2).trans rfl
  have k4 : w.cell? ⟨q, 4, none⟩ = some (.int .u16 s.Wait) := (blk_cell h1 4).trans rfl
  have k5 : w.cell? ⟨q, 5, none⟩ = some (.bool s.Over) := (blk_cell h1 5).trans rfl
  have f0 := blk_frozen h1 0
  have f2 := blk_frozen h1 2
  have f5 := blk_frozen h1 5
  rw [e0] at k5
  have t1 : decide (x < 32) = false := decide_eq_false (by omega)
  have t2 : (s.Esc == 2) = false := beq_f e2
  have t3 : (s.Esc == 1) = false := beq_f e3
  rw [show s.B.length = 0 by rw [e4]; rfl] at k1
  have t5 : decide (128 ≤ x) = true := decide_eq_true e5
  have HC := Aside0.mk (rbytes_any base q S s x w h ok hx)
  have H1 := Aside0.mk h1
  have H2 := Aside0.mk h2
  have H3 := Aside0.mk h3
  have H4 := Aside0.mk h4
  have H := Aside0.mk h
  have hlt := h.lt
  have hb := h.base_.1
  obtain ⟨hx0, hx1⟩ := hx
  clear h h1 h2 h3 h4 ok e0 e2 e3 e4
  go_enter Try.func29, Try.ntmps29
  go_wp2_with (go_at_call 48; refine HC.out.mono ?_; rintro e w1 ⟨rfl, hk, hs⟩; have HK := Aside0.mk hk; have HS := Aside0.mk hs; clear hk hs)
  go_ret2
  exact ⟨rfl, HK.out, HS.out⟩
set_option maxHeartbeats 4000000 in
set_option maxRecDepth 100000 in
theorem rpush_back (base q : Nat) (S : Nat → Prop) (s : RV) (x : Int) (w : World) (h : RefAt w base S q s) (ok : s.Ok) (hx : 0 ≤ x ∧ x ≤ 255) (e0 : s.Over = false) (e1 : ¬ x < 32) (e2 : s.Esc ≠ 2) (e3 : s.Esc ≠ 1) (e4 : s.B = []) (e5 : x < 128) (e6 : x = 92) :
    Calls Try.prog 29 #[.pointer (some ⟨q, 0, none⟩), .int .u8 x] w fun e w' => e = .returned (.tuple #[.bool false, .int .i64 0]) ∧ Keeps (MineR S q) w w' ∧ RefAt w' base (More S w w') q { s with Esc := 1 } := by
  obtain ⟨A0, c0, A1, c1, A2, c2, h1, h2, h3, h4⟩ := h.row
  have k0 : w.cell? ⟨q, 0, none⟩ = some (.slice A0 s.Out.length c0) := (blk_cell h1 0).trans rfl
  have k1 : w.cell? ⟨q, 1, none⟩ = some (.slice A1 s.B.length c1) := (blk_cell h1 1).trans rfl
  have k2 : w.cell? ⟨q, 2, none⟩ = some (.int .i64 s.Esc) := (blk_cell h1 2).trans rfl
  have k4 : w.cell? ⟨q, 4, none⟩ = some (.int .u16 s.Wait) := (blk_cell h1 4).trans rfl
  have k5 : w.cell? ⟨q, 5, none⟩ = some (.bool s.Over) := (blk_cell h1 5).trans rfl
  have f0 := blk_frozen h1 0
  have f2 := blk_frozen h1 2
  have f5 := blk_frozen h1 5
  rw [e0] at k5
  have t1 : decide (x < 32) = false := decide_eq_false (by omega)
  have t2 : (s.Esc == 2) = false := beq_f e2
  have t3 : (s.Esc == 1) = false := beq_f e3
  rw [show s.B.length = 0 by rw [e4]; rfl] at k1
  have t5 : decide (128 ≤ x) = false := decide_eq_false (by omega)
  have t6 : (x == 92) = true := beq_iff_eq.mpr e6
  have H1 := Aside0.mk h1
  have H2 := Aside0.mk h2
  have H3 := Aside0.mk h3
  have H4 := Aside0.mk h4
  have H := Aside0.mk h
  have hlt := h.lt
  have hb := h.base_.1
  obtain ⟨hx0, hx1⟩ := hx
  clear h h1 h2 h3 h4 ok e0 e2 e3 e4 e6
  go_enter Try.func29, Try.ntmps29
  go_wp2_with (fail)
  go_ret2
  have hk := (Keeps.refl (fun k => k = q) w).at_ rfl 2 (.int .i64 1)
  have hq : ∀ k, S k → ¬ k = q := H.out.ne
  exact ⟨rfl, hk.mono (fun _ h => .inl h), ⟨⟨A0, c0, A1, c1, A2, c2, (blk_set H1.out 2 _).trans rfl, Kd.R_mono (hk.R H2.out hq) (fun _ h => .inl h), Kd.R_mono (hk.R H3.out hq) (fun _ h => .inl h), Kd.R_mono (hk.R H4.out hq) (fun _ h => .inl h)⟩, more_ne1 H.out.ne hlt, ⟨Nat.le_trans hb hk.size, H.out.base_.2⟩, more_lt H.out.slt hk.size⟩⟩
set_option maxHeartbeats 4000000 in
set_option maxRecDepth 100000 in
theorem rpush_wait (base q : Nat) (S : Nat → Prop) (s : RV) (x : Int) (w : World) (h : RefAt w base S q s) (ok : s.Ok) (hx : 0 ≤ x ∧ x ≤ 255) (e0 : s.Over = false) (e1 : ¬ x < 32) (e2 : s.Esc ≠ 2) (e3 : s.Esc ≠ 1) (e4 : s.B = []) (e5 : x < 128) (e6 : x ≠ 92) (e7 : 0 < s.Wait) :
    Calls Try.prog 29 #[.pointer (some ⟨q, 0, none⟩), .int .u8 x] w fun e w' => e = .returned (.tuple #[.bool false, .int .i64 5]) ∧ Keeps (fun _ => False) w w' ∧ RefAt w' base S q s := by
  obtain ⟨A0, c0, A1, c1, A2, c2, h1, h2, h3, h4⟩ := h.row
  have k0 : w.cell? ⟨q, 0, none⟩ = some (.slice A0 s.Out.length c0) := (blk_cell h1 0).trans rfl
  have k1 : w.cell? ⟨q, 1, none⟩ = some (.slice A1 s.B.length c1) := (blk_cell h1 1).trans rfl
  have k2 : w.cell? ⟨q, 2, none⟩ = some (.int .i64 s.Esc) := (blk_cell h1 2).trans rfl
  have k4 : w.cell? ⟨q, 4, none⟩ = some (.int .u16 s.Wait) := (blk_cell h1 4).trans rfl
  have k5 : w.cell? ⟨q, 5, none⟩ = some (.bool s.Over) := (blk_cell h1 5).trans rfl
  have f0 := blk_frozen h1 0
  have f2 := blk_frozen h1 2
  have f5 := blk_frozen h1 5
  rw [e0] at k5
  have t1 : decide (x < 32) = false := decide_eq_false (by omega)
  have t2 : (s.Esc == 2) = false := beq_f e2
  have t3 : (s.Esc == 1) = false := beq_f e3
  rw [show s.B.length = 0 by rw [e4]; rfl] at k1
  have t5 : decide (128 ≤ x) = false := decide_eq_false (by omega)
  have t6 : (x == 92) = false := beq_f e6
  have t7 : decide (0 < s.Wait) = true := decide_eq_true e7
  have H1 := Aside0.mk h1
  have H2 := Aside0.mk h2
  have H3 := Aside0.mk h3
  have H4 := Aside0.mk h4
  have H := Aside0.mk h
  have hlt := h.lt
  have hb := h.base_.1
  obtain ⟨hx0, hx1⟩ := hx
  clear h h1 h2 h3 h4 ok e0 e2 e3 e4 e6
  go_enter Try.func29, Try.ntmps29
  go_wp2_with (fail)
  go_ret2
  exact ⟨rfl, Keeps.refl _ _, H.out⟩
set_option maxHeartbeats 4000000 in
set_option maxRecDepth 100000 in
theorem rpush_quote (base q : Nat) (S : Nat → Prop) (s : RV) (x : Int) (w : World) (h : RefAt w base S q s) (ok : s.Ok) (hx : 0 ≤ x ∧ x ≤ 255) (e0 : s.Over = false) (e1 : ¬ x < 32) (e2 : s.Esc ≠ 2) (e3 : s.Esc ≠ 1) (e4 : s.B = []) (e5 : x < 128) (e6 : x ≠ 92) (e7 : s.Wait = 0) (e8 : x = 34) :
    Calls Try.prog 29 #[.pointer (some ⟨q, 0, none⟩), .int .u8 x] w fun e w' => e = .returned (.tuple #[.bool true, .int .i64 0]) ∧ Keeps (MineR S q) w w' ∧ RefAt w' base (More S w w') q { s with Over := true } := by
  obtain ⟨A0, c0, A1, c1, A2, c2, h1, h2, h3, h4⟩ := h.row
  have k0 : w.cell? ⟨q, 0, none⟩ = some (.slice A0 s.Out.length c0) := (blk_cell h1 0).trans rfl
  have k1 : w.cell? ⟨q, 1, none⟩ = some (.slice A1 s.B.length c1) := (blk_cell h1 1).trans rfl
  have k2 : w.cell? ⟨q, 2, none⟩ = some (.int .i64 s.Esc) := (blk_cell h1 2).trans rfl
  have k4 : w.cell? ⟨q, 4, none⟩ = some (.int .u16 s.Wait) := (blk_cell h1 4).trans rfl
  have k5 : w.cell? ⟨q, 5, none⟩ = some (.bool s.Over) := (blk_cell h1 5).trans rfl
  have f0 := blk_frozen h1 0
  have f2 := blk_frozen h1 2
  have f5 := blk_frozen h1 5
  rw [e0] at k5
  have t1 : decide (x < 32) = false := decide_eq_false (by omega)
  have t2 : (s.Esc == 2) = false := beq_f e2
  have t3 : (s.Esc == 1) = false := beq_f e3
  rw [show s.B.length = 0 by rw [e4]; rfl] at k1
  have t5 : decide (128 ≤ x) = false := decide_eq_false (by omega)
  have t6 : (x == 92) = false := beq_f e6
  have t7 : decide (0 < s.Wait) = false := decide_eq_false (by omega)
  have t8 : (x == 34) = true := beq_iff_eq.mpr e8
  have H1 := Aside0.mk h1
  have H2 := Aside0.mk h2
  have H3 := Aside0.mk h3
  have H4 := Aside0.mk h4
  have H := Aside0.mk h
  have hlt := h.lt
  have hb := h.base_.1
  obtain ⟨hx0, hx1⟩ := hx
  clear h h1 h2 h3 h4 ok e0 e2 e3 e4 e6 e7 e8
  go_enter Try.func29, Try.ntmps29
  go_wp2_with (fail)
  go_ret2
  have hk := (Keeps.refl (fun k => k = q) w).at_ rfl 5 (.bool true)
  have hq : ∀ k, S k → ¬ k = q := H.out.ne
  exact ⟨rfl, hk.mono (fun _ h => .inl h), ⟨⟨A0, c0, A1, c1, A2, c2, (blk_set H1.out 5 _).trans rfl, Kd.R_mono (hk.R H2.out hq) (fun _ h => .inl h), Kd.R_mono (hk.R H3.out hq) (fun _ h => .inl h), Kd.R_mono (hk.R H4.out hq) (fun _ h => .inl h)⟩, more_ne1 H.out.ne hlt, ⟨Nat.le_trans hb hk.size, H.out.base_.2⟩, more_lt H.out.slt hk.size⟩⟩
set_option maxHeartbeats 4000000 in
set_option maxRecDepth 100000 in
theorem rpush_say (base q : Nat) (S : Nat → Prop) (s : RV) (x : Int) (w : World) (h : RefAt w base S q s) (ok : s.Ok) (hx : 0 ≤ x ∧ x ≤ 255) (e0 : s.Over = false) (e1 : ¬ x < 32) (e2 : s.Esc ≠ 2) (e3 : s.Esc ≠ 1) (e4 : s.B = []) (e5 : x < 128) (e6 : x ≠ 92) (e7 : s.Wait = 0) (e8 : x ≠ 34) :
    Calls Try.prog 29 #[.pointer (some ⟨q, 0, none⟩), .int .u8 x] w fun e w' => e = .returned (.tuple #[.bool false, .int .i64 0]) ∧ Keeps (MineR S q) w w' ∧ RefAt w' base (More S w w') q (s.say x) := by
  obtain ⟨A0, c0, A1, c1, A2, c2, h1, h2, h3, h4⟩ := h.row
  have k0 : w.cell? ⟨q, 0, none⟩ = some (.slice A0 s.Out.length c0) := (blk_cell h1 0).trans rfl
  have k1 : w.cell? ⟨q, 1, none⟩ = some (.slice A1 s.B.length c1) := (blk_cell h1 1).trans rfl
  have k2 : w.cell? ⟨q, 2, none⟩ = some (.int .i64 s.Esc) := (blk_cell h1 2).trans rfl
  have k4 : w.cell? ⟨q, 4, none⟩ = some (.int .u16 s.Wait) := (blk_cell h1 4).trans rfl
  have k5 : w.cell? ⟨q, 5, none⟩ = some (.bool s.Over) := (blk_cell h1 5).trans rfl
  have f0 := blk_frozen h1 0
  have f2 := blk_frozen h1 2
  have f5 := blk_frozen h1 5
  rw [e0] at k5
  have t1 : decide (x < 32) = false := decide_eq_false (by omega)
  have t2 : (s.Esc == 2) = false := beq_f e2
  have t3 : (s.Esc == 1) = false := beq_f e3
  rw [show s.B.length = 0 by rw [e4]; rfl] at k1
  have t5 : decide (128 ≤ x) = false := decide_eq_false (by omega)
  have t6 : (x == 92) = false := beq_f e6
  have t7 : decide (0 < s.Wait) = false := decide_eq_false (by omega)
  have t8 : (x == 34) = false := beq_f e8
  have hl := ok.len
  obtain ⟨Z, hZ⟩ : ∃ Z, s.Out ++ [x] = Z := ⟨_, rfl⟩
  have HZ := Aside0.mk hZ
  have H1 := Aside0.mk h1
  have H2 := Aside0.mk h2
  have H3 := Aside0.mk h3
  have H4 := Aside0.mk h4
  have H := Aside0.mk h
  have hlt := h.lt
  have hb := h.base_.1
  obtain ⟨hx0, hx1⟩ := hx
  clear h h1 h2 h3 h4 ok e0 e2 e3 e4 e6 e7 e8 hZ
  go_enter Try.func29, Try.ntmps29
  go_wp2_with ((with_reducible refine gate_builtin (b := .append) (xs := #[.tmp 69, .tmp 72]) rfl ?_); at_builtin; refine app_row (Value.int .i32) (0 : Int) base rfl (.tmp 69) (.tmp 72) 30 21 (.int .i32 0) 4 rfl Try.underlying30 info21 rfl (by decide) (.slice A0 s.Out.length c0) s.Out [x] Z HZ.out (some ⟨w.heap.size, 0, none⟩) 1 1 S rfl rfl (Kd.R_alloc H2.out _) (C_one (Value.int .i32) 0 w 21 x) (by simp; omega) (by omega) ?_; intro A3 c3 w2 hr2 hk2; have hsd := said_at H.out H1.out H2.out H3.out H4.out ((Keeps.refl (fun _ => False) w).alloc _) hr2 hk2; have g0 := blk_frozen hsd.2.1 0; have e0 : w2.cell? ⟨q, 0, none⟩ = some (.slice A0 s.Out.length c0) := (blk_cell hsd.2.1 0).trans rfl; have HS := Aside0.mk hsd; clear hsd hr2 hk2)
  go_ret2
  have hk := (Keeps.refl (fun k => k = q) w2).at_ rfl 0 (.slice A3 Z.length c3)
  have hK : Keeps (MineR S q) w _ := HS.out.1.trans hk (fun k h => .inl (.inl h))
  have hm : ∀ k, More S w w2 k → More S w (w2.setCell ⟨q, 0, none⟩ (.slice A3 Z.length c3)) k := by
    rintro k (h | h)
    · exact .inl h
    · exact .inr ⟨h.1, Nat.lt_of_lt_of_le h.2 hk.size⟩
  have hq := more_ne1 (W := w2) H.out.ne hlt
  refine ⟨rfl, hK, ⟨⟨A3, c3, A1, c1, A2, c2, ?_, ?_, Kd.R_mono (hk.R HS.out.2.2.2.1 hq) hm, Kd.R_mono (hk.R HS.out.2.2.2.2 hq) hm⟩, more_ne1 H.out.ne hlt, ⟨Nat.le_trans hb hK.size, H.out.base_.2⟩, more_lt H.out.slt hK.size⟩⟩
  · simp only [RV.say, RV.cells, HZ.out]
    exact (blk_set HS.out.2.1 0 _).trans rfl
  · simp only [RV.say, HZ.out]
    exact Kd.R_mono (hk.R HS.out.2.2.1 hq) hm
theorem rpush_any (base q : Nat) (S : Nat → Prop) (s : RV) (x : Int) (w : World) (h : RefAt w base S q s) (ok : s.Ok) (hx : 0 ≤ x ∧ x ≤ 255) :
    Calls Try.prog 29 #[.pointer (some ⟨q, 0, none⟩), .int .u8 x] w fun e w' => e = .returned (.tuple #[.bool (rpushV s x).1, .int .i64 (rpushV s x).2.1]) ∧ Keeps (MineR S q) w w' ∧ RefAt w' base (More S w w') q (rpushV s x).2.2 := by
  have hp := ok.pos
  cases e0 : s.Over with
  | true =>
    have e : rpushV s x = (false, 2, s) := if_pos (.inl e0)
    exact rpost_same h (by rw [e]) (by rw [e]) (rpush_over base q S s x w h ok hx e0)
  | false =>
  by_cases e1 : x < 32
  · have e : rpushV s x = (false, 2, s) := if_pos (.inr e1)
    exact rpost_same h (by rw [e]) (by rw [e]) (rpush_low base q S s x w h ok hx e0 e1)
  have n0 : ¬ (s.Over = true ∨ x < 32) := fun q => q.elim (fun q => by rw [e0] at q; cases q) e1
  by_cases e2 : s.Esc = 2
  · have e : rpushV s x = (false, rdigitsV s x) := by unfold rpushV; rw [if_neg n0, if_pos e2]
    exact rpost_more (by rw [e]) (by rw [e]) (rpush_dig base q S s x w h ok hx e0 e1 e2)
  by_cases e3 : s.Esc = 1
  · have e : rpushV s x = (false, rescapeV s x) := by unfold rpushV; rw [if_neg n0, if_neg e2, if_pos e3]
    exact rpost_more (by rw [e]) (by rw [e]) (rpush_esc base q S s x w h ok hx e0 e1 e3)
  by_cases e4 : 0 < s.B.length
  · have e : rpushV s x = (false, rbytesV s x) := by unfold rpushV; rw [if_neg n0, if_neg e2, if_neg e3, if_pos (.inl e4)]
    exact rpost_more (by rw [e]) (by rw [e]) (rpush_bytesB base q S s x w h ok hx e0 e1 e2 e3 e4)
  have eB : s.B = [] := List.length_eq_zero_iff.mp (by omega)
  by_cases e5 : 128 ≤ x
  · have e : rpushV s x = (false, rbytesV s x) := by unfold rpushV; rw [if_neg n0, if_neg e2, if_neg e3, if_pos (.inr e5)]
    exact rpost_more (by rw [e]) (by rw [e]) (rpush_bytesX base q S s x w h ok hx e0 e1 e2 e3 eB e5)
  have n4 : ¬ (0 < s.B.length ∨ 128 ≤ x) := fun q => q.elim e4 e5
  by_cases e6 : x = 92
  · have e : rpushV s x = (false, 0, { s with Esc := 1 }) := by unfold rpushV; rw [if_neg n0, if_neg e2, if_neg e3, if_neg n4, if_pos e6]
    exact rpost_more (by rw [e]) (by rw [e]) (rpush_back base q S s x w h ok hx e0 e1 e2 e3 eB (by omega) e6)
  by_cases e7 : 0 < s.Wait
  · have e : rpushV s x = (false, 5, s) := by unfold rpushV; rw [if_neg n0, if_neg e2, if_neg e3, if_neg n4, if_neg e6, if_pos e7]
    exact rpost_same h (by rw [e]) (by rw [e]) (rpush_wait base q S s x w h ok hx e0 e1 e2 e3 eB (by omega) e6 e7)
  by_cases e8 : x = 34
  · have e : rpushV s x = (true, 0, { s with Over := true }) := by unfold rpushV; rw [if_neg n0, if_neg e2, if_neg e3, if_neg n4, if_neg e6, if_neg e7, if_pos e8]
    exact rpost_more (by rw [e]) (by rw [e]) (rpush_quote base q S s x w h ok hx e0 e1 e2 e3 eB (by omega) e6 (by omega) e8)
  · have e : rpushV s x = (false, 0, s.say x) := by unfold rpushV; rw [if_neg n0, if_neg e2, if_neg e3, if_neg n4, if_neg e6, if_neg e7, if_neg e8]
    exact rpost_more (by rw [e]) (by rw [e]) (rpush_say base q S s x w h ok hx e0 e1 e2 e3 eB (by omega) e6 (by omega) e8)

/-! ### The document's string: new, Text, Inside -/
def RV.zero : RV := ⟨[], [], 0, [], 0, false⟩
theorem ref_new (base : Nat) (w : World) (hb : base ≤ w.heap.size) : RefAt (w.alloc (.cells #[.slice none 0 0, .slice none 0 0, .int .i64 0, .slice none 0 0, .int .u16 0, .bool false] 52)) base (fun _ => False) w.heap.size RV.zero :=
  ⟨⟨none, 0, none, 0, none, 0, heap_alloc_new w _, Kd.R_nil _ _ _ _ _, Kd.R_nil _ _ _ _ _, Kd.R_nil _ _ _ _ _⟩, fun _ h => h.elim, ⟨by simp; omega, hb⟩, fun _ h => h.elim⟩
theorem rtext_any (base q : Nat) (S : Nat → Prop) (s : RV) (w : World) (h : RefAt w base S q s) (hr : R32 s.Out) (hl : s.Out.length ≤ 1000000) :
    Calls Try.prog 30 #[.pointer (some ⟨q, 0, none⟩)] w fun e w' => e = .returned (.string (strOfNums (textV s.Out))) ∧ Keeps (fun _ => False) w w' ∧ RefAt w' base S q s := by
  obtain ⟨A0, c0, A1, c1, A2, c2, h1, h2, _⟩ := h.row
  have k0 : w.cell? ⟨q, 0, none⟩ = some (.slice A0 s.Out.length c0) := (blk_cell h1 0).trans rfl
  obtain ⟨K, hK⟩ : ∃ K : Nat, 1000001 ≤ K := ⟨1000001, Nat.le_refl _⟩
  have ht := rtext_val K s.Out hr (by omega) (by omega)
  have HT := Aside0.mk ht
  have H2 := Aside0.mk h2
  have H := Aside0.mk h
  clear ht h1 h2 h hK hr
  go_enter Try.func30, Try.ntmps30
  go_wp2_with (go_at_call 18; refine (orthoepyref02_Text.calls K A0 c0 s.Out (textV s.Out) _ (Kd.R_reads' H2.out).2.2 (Kd.R_reads' H2.out).2.1 HT.out).mono ?_; rintro e w1 ⟨v1, rfl, hr1, hB1⟩; obtain ⟨B1, d1, e1⟩ := Kd.R_slice hr1; subst e1; have hc := Kd.C_string (P := Try.prog) (c := d1) Try.underlying32 Try.underlying5 Try.underlying9 (Kd.R_reads' hr1).2.2; have HB := Aside0.mk hB1; clear hr1 hB1)
  go_ret
  have hk := Keeps.of_below HB.out (fun _ => False)
  exact ⟨rfl, hk, H.out.keep hk id (fun _ _ => id)⟩
def RV.inside (s : RV) : Bool := decide (0 < s.B.length) || decide (0 < s.Esc) || decide (0 < s.Wait)

end Go.Proofs.Ytkpeblpgfngjcaa.Pure
