/- The document Quote, and a scalar by its bytes. -/
import Derived.Test.YtkpeblpgfngjcaaPAllx1
import Derived.Test.YtkpeblpgfngjcaaPAllx2
import Derived.Test.YtkpeblpgfngjcaaPAllx3
import Derived.Test.YtkpeblpgfngjcaaPAllx4
import Derived.Test.YtkpeblpgfngjcaaPAllx5
import Derived.Test.YtkpeblpgfngjcaaHKit
import Derived.Test.YtkpeblpgfngjcaaLUtf
import Derived.Test.YtkpeblpgfngjcaaLRef
import Derived.Test.YtkpeblpgfngjcaaH12U
import Derived.Deep.QuietTactic
import Derived.BigQuiet
import Derived.Laws.DeepStrings4
namespace Go.Proofs.Ytkpeblpgfngjcaa.Pure
open Go.RowKit Go.Proofs.Ytkpeblpgfngjcaa.PAll Go.Proofs.YtkpeblpgfngjcaaW.PrintWords Go.Proofs.YtkpeblpgfngjcaaW.PrintLast Go.Proofs.YtkpeblpgfngjcaaW.PrintMore
set_option linter.unusedVariables false
set_option linter.unusedSimpArgs false

/-! ### The document's Quote -/
def oneL (x : Int) : List Int :=
  if x = 8 then [92, 98] else if x = 9 then [92, 116] else if x = 10 then [92, 110] else if x = 12 then [92, 102] else if x = 13 then [92, 114] else [92, 117, 48, 48, 48 + x / 16, if x % 16 < 10 then 48 + x % 16 else 87 + x % 16]
def qB (x : Int) : List Int := if x = 34 ∨ x = 92 then [92, x] else if x < 32 then oneL x else [x]
def quoteL (l : List Int) : List Int := [34] ++ l.flatMap qB ++ [34]
set_option maxHeartbeats 4000000 in
set_option maxRecDepth 100000 in
theorem rone_any (x : Int) (h0 : 0 ≤ x) (h1 : x < 32) (w : World) :
    Calls Try.prog 32 #[.int .u8 x] w fun e w' => e = .returned (.string (strOfNums (oneL x))) ∧ ∃ n, w' = w.drewN n := by
  have key : (x = 8 ∨ x = 9 ∨ x = 10 ∨ x = 12 ∨ x = 13) ∨ (x = 0 ∨ x = 1 ∨ x = 2 ∨ x = 3 ∨ x = 4 ∨ x = 5 ∨ x = 6 ∨ x = 7 ∨ x = 11 ∨ x = 14 ∨ x = 15 ∨ x = 16 ∨ x = 17 ∨ x = 18 ∨ x = 19 ∨ x = 20 ∨ x = 21 ∨ x = 22 ∨ x = 23 ∨ x = 24 ∨ x = 25 ∨ x = 26 ∨ x = 27 ∨ x = 28 ∨ x = 29 ∨ x = 30 ∨ x = 31) := by omega
  rcases key with key | key
  · rcases key with e | e | e | e | e
    all_goals
      subst e
      go_enter Try.func32, Try.ntmps32
      go_wp2
      go_ret
      exact ⟨rfl, 0, rfl⟩
  · rcases key with e | e | e | e | e | e | e | e | e | e | e | e | e | e | e | e | e | e | e | e | e | e | e | e | e | e | e
    all_goals
      subst e
      go_enter Try.func32, Try.ntmps32
      go_wp2
      go_quiet (fail)
      go_wp2
      go_ret
      exact ⟨rfl, _, rfl⟩

theorem oneL_len (x : Int) : (oneL x).length ≤ 6 := by
  unfold oneL
  (repeat' split) <;> simp
theorem qB_len (x : Int) : (qB x).length ≤ 6 := by
  unfold qB
  (repeat' split)
  · simp
  · exact oneL_len x
  · simp
theorem flat_len (l : List Int) : (l.flatMap qB).length ≤ 6 * l.length := by
  induction l with
  | nil => simp
  | cons x l ih =>
    have := qB_len x
    rw [List.flatMap_cons, List.length_append, List.length_cons]
    omega
theorem nums_take (s : ByteArray) (k : Nat) (hk : k < s.size) : (bnums s).take (k + 1) = (bnums s).take k ++ [((s[k]'hk).toNat : Int)] := by
  have hk' : k < (bnums s).length := by rw [bnums_len]; exact hk
  rw [List.take_succ_eq_append_getElem hk']
  congr 2
  simp only [bnums, List.getElem_map]
  rfl
theorem ext_one (s : ByteArray) (k : Nat) (hk : k < s.size) : s.extract k (k + 1) = strOfNums [((s[k]'hk).toNat : Int)] := by
  apply ByteArray.ext
  simp only [ByteArray.data_extract, strOfNums]
  apply Array.ext
  · simp
    have : s.data.size = s.size := rfl
    omega
  · intro i h1 h2
    simp at h2
    subst h2
    simp
    rfl
set_option maxHeartbeats 4000000 in
set_option maxRecDepth 100000 in
theorem rquote_any (s : ByteArray) (w : World) (hs : s.size ≤ 1000000) :
    Calls Try.prog 14 #[.string s] w fun e w' => e = .returned (.string (strOfNums (quoteL (bnums s)))) ∧ ∃ n, w' = w.drewN n := by
  go_enter Try.func14, Try.ntmps14
  go_wp2
  go_loopw [3, 4] (fun o i wr => ∃ k : Nat, k ≤ s.size ∧ i = .int .i64 k ∧ o = .string (strOfNums ([34] ++ ((bnums s).take k).flatMap qB)) ∧ ∃ n, wr = w.drewN n) (fun _ i _ => s.size - (intOf i).toNat)
  case atStart => exact ⟨0, Nat.zero_le _, rfl, by simp; rfl, 0, rfl⟩
  case round =>
    obtain ⟨k, hk, rfl, rfl, nr, rfl⟩ := hrel
    have hf := flat_len ((bnums s).take k)
    have htl : ((bnums s).take k).length ≤ s.size := by rw [List.length_take, bnums_len]; omega
    obtain ⟨X, hX⟩ : ∃ X, strOfNums ([34] ++ ((bnums s).take k).flatMap qB) = X := ⟨_, rfl⟩
    have hXs : X.size ≤ 6000001 := by rw [← hX, str_size]; simp at hf htl ⊢; omega
    rw [hX]
    have HX := Aside0.mk hX
    clear hf htl hX
    by_cases hlt : k < s.size
    · have hlt1 : (k : Int) < (s.size : Int) := by omega
      have hlt2 : decide ((k : Int) < (s.size : Int)) = true := decide_eq_true hlt1
      obtain ⟨x, hx0⟩ : ∃ x : Int, ((s[k]'hlt).toNat : Int) = x := ⟨_, rfl⟩
      have hx : 0 ≤ x ∧ x ≤ 255 := by
        have := (s[k]'hlt).toNat_lt
        omega
      have ht := nums_take s k hlt
      have hex := ext_one s k hlt
      rw [hx0] at ht hex
      have hfl : ((bnums s).take (k + 1)).flatMap qB = ((bnums s).take k).flatMap qB ++ qB x := by rw [ht]; simp
      have HF := Aside0.mk hfl
      have hidx : (Instr.index 9 (.string s) (.int .i64 (k : Int))).run Try.prog = fun w => .ok (.int .u8 x) w := by
        funext w
        rw [run_index_string w _ _ _ _ Try.underlying9, dif_pos ⟨by omega, hlt1⟩]
        simp only [Int.toNat_natCast, hx0]
      obtain ⟨Y, hY⟩ : ∃ Y, strOfNums [x] = Y := ⟨_, rfl⟩
      have hYs : Y.size = 1 := by rw [← hY, str_size]; rfl
      have hsl : (Instr.slice 9 (.string s) (some (.int .i64 (k : Int))) (some (.int .i64 ((k : Int) + 1))) none).run Try.prog = fun w => .ok (.string Y) w := by
        funext w
        rw [run_slice_string_if w _ _ _ _ _ _ Try.underlying9, if_pos ⟨by omega, by omega⟩, if_pos ⟨by omega, by omega⟩]
        rw [← hY, ← hex, Int.toNat_natCast, show ((k : Int) + 1).toNat = k + 1 by omega]
      have HY := Aside0.mk hY
      have fin : ∀ (L : List Int) (Z : ByteArray), qB x = L → Z = strOfNums L → X ++ Z = strOfNums ([34] ++ ((bnums s).take (k + 1)).flatMap qB) := fun L Z e1 e2 => by
        rw [HF.out, e1, e2, ← HX.out, str_app, List.append_assoc]
      have FIN := Aside0.mk fin
      have HX0 := Aside0.mk hx0
      have hYs2 : Y.size ≤ 1 := by omega
      clear ht hfl hex hx0 hY fin hYs
      by_cases h34 : x = 34
      · have q : qB x = [92] ++ [x] := if_pos (.inl h34)
        have Q := Aside0.mk q
        have t34 : (x == 34) = true := beq_iff_eq.mpr h34
        clear q h34
        go_wp2
        go_roundw
        case rel => exact ⟨k + 1, by omega, by go_num, by rw [ByteArray.append_assoc, FIN.out _ _ Q.out (by rw [← HY.out]; exact str_app [92] [x])], nr, rfl⟩
        case measure => simp [intOf]; omega
      · have t34 : (x == 34) = false := beq_f h34
        by_cases h92 : x = 92
        · have q : qB x = [92] ++ [x] := if_pos (.inr h92)
          have Q := Aside0.mk q
          have t92 : (x == 92) = true := beq_iff_eq.mpr h92
          clear q h34 h92
          go_wp2
          go_roundw
          case rel => exact ⟨k + 1, by omega, by go_num, by rw [ByteArray.append_assoc, FIN.out _ _ Q.out (by rw [← HY.out]; exact str_app [92] [x])], nr, rfl⟩
          case measure => simp [intOf]; omega
        · have t92 : (x == 92) = false := beq_f h92
          by_cases h32 : x < 32
          · have t32 : decide (x < 32) = true := decide_eq_true h32
            have q : qB x = oneL x := by unfold qB; rw [if_neg (by omega), if_pos h32]
            have Q := Aside0.mk q
            have hone := fun W => rone_any x hx.1 h32 W
            obtain ⟨Z1, hZ1⟩ : ∃ Z1, strOfNums (oneL x) = Z1 := ⟨_, rfl⟩
            have hZs : Z1.size ≤ 6 := by rw [← hZ1, str_size]; exact oneL_len x
            simp only [hZ1] at hone
            have HONE := Aside0.mk hone
            have HZ1 := Aside0.mk hZ1
            clear q h34 h92 hone hZ1
            go_wp2_with (go_at_call 32; refine (HONE.out _).mono ?_; rintro e w1 ⟨rfl, n1, rfl⟩)
            go_roundw
            case rel => exact ⟨k + 1, by omega, by go_num, by rw [FIN.out _ _ Q.out HZ1.out.symm], nr + n1, by simp [World.drewN_drewN]⟩
            case measure => simp [intOf]; omega
          · have t32 : decide (x < 32) = false := decide_eq_false h32
            have q : qB x = [x] := by unfold qB; rw [if_neg (by omega), if_neg h32]
            have Q := Aside0.mk q
            clear q h34 h92
            go_wp2
            go_roundw
            case rel => exact ⟨k + 1, by omega, by go_num, by rw [FIN.out _ _ Q.out HY.out.symm], nr, rfl⟩
            case measure => simp [intOf]; omega
    · have hlt2 : decide ((k : Int) < (s.size : Int)) = false := decide_eq_false (by omega)
      obtain rfl : k = s.size := by omega
      have hall : (bnums s).take s.size = bnums s := List.take_of_length_le (by rw [bnums_len]; exact Nat.le_refl _)
      have hX := HX.out
      rw [hall] at hX
      have HX2 := Aside0.mk hX
      clear hX hall HX
      go_wp2
      go_ret
      have e34 := str_app ([34] ++ (bnums s).flatMap qB) [34]
      rw [HX2.out] at e34
      exact ⟨by unfold quoteL; rw [← e34]; rfl, nr, rfl⟩

/-! ### A scalar by its bytes, plainly -/
/-- Behind pre these bytes are the rest of c's. -/
def Chain (c : Int) : List Int → List Int → Prop
  | _, [] => False
  | pre, [x] => howV (pre ++ [x]) = 2 ∧ ofV (pre ++ [x]) = c ∧ 128 ≤ x
  | pre, x :: r => howV (pre ++ [x]) = 1 ∧ 128 ≤ x ∧ Chain c (pre ++ [x]) r
theorem chain_enc (c : Int) (hs : isScal c = true) (h : 128 ≤ c) : Chain c [] (encV c) := by
  have hs' := hs
  simp only [isScal, decide_eq_true_eq] at hs'
  unfold encV
  rw [if_pos hs, if_neg (by omega)]
  by_cases c2 : c < 2048
  · have e := (sz_of (192 + c / 64)).2.1 (by omega)
    have b := (base_of (192 + c / 64)).2.1 (by omega)
    have s : secV (192 + c / 64) (128 + c % 64) = true := by simp only [secV, decide_eq_true_eq]; omega
    rw [if_pos c2]
    refine ⟨by simp [howV, e], by omega, by simp [howV, e, s], ?_, by omega⟩
    simp only [List.nil_append, List.cons_append, ofV, b]
    omega
  · rw [if_neg c2]
    by_cases c3 : c < 65536
    · have e := (sz_of (224 + c / 4096)).2.2.1 (by omega)
      have b := (base_of (224 + c / 4096)).2.2.1 (by omega)
      have s : secV (224 + c / 4096) (128 + c / 64 % 64) = true := by simp only [secV, decide_eq_true_eq]; omega
      have t : tailV (128 + c % 64) = true := by simp only [tailV, decide_eq_true_eq]; omega
      rw [if_pos c3]
      refine ⟨by simp [howV, e], by omega, by simp [howV, e, s], by omega, by simp [howV, e, s, t], ?_, by omega⟩
      simp only [List.nil_append, List.cons_append, ofV, b]
      omega
    · have e := (sz_of (240 + c / 262144)).2.2.2 (by omega)
      have b := (base_of (240 + c / 262144)).2.2.2 (by omega)
      have s : secV (240 + c / 262144) (128 + c / 4096 % 64) = true := by simp only [secV, decide_eq_true_eq]; omega
      have t : tailV (128 + c / 64 % 64) = true := by simp only [tailV, decide_eq_true_eq]; omega
      have t' : tailV (128 + c % 64) = true := by simp only [tailV, decide_eq_true_eq]; omega
      rw [if_neg c3]
      refine ⟨by simp [howV, e], by omega, by simp [howV, e, s], by omega, by simp [howV, e, s, t], by omega, by simp [howV, e, s, t, t'], ?_, by omega⟩
      simp only [List.nil_append, List.cons_append, ofV, b]
      omega
theorem push_byte (O H pre : List Int) (x : Int) (h : 128 ≤ x) : rpushV ⟨O, pre, 0, H, 0, false⟩ x = (false, rbytesV ⟨O, pre, 0, H, 0, false⟩ x) := by
  unfold rpushV
  simp only
  rw [if_neg (by simp; omega), if_neg (by decide), if_neg (by decide), if_pos (.inr h)]
theorem play_chain (O H : List Int) (c : Int) : ∀ (r pre l : List Int) (i : Nat), Chain c pre r →
    (isNon c = false → playV ⟨O, pre, 0, H, 0, false⟩ (r ++ l) i = playV ⟨O ++ [c], [], 0, H, 0, false⟩ l (i + r.length)) ∧
    (isNon c = true → playV ⟨O, pre, 0, H, 0, false⟩ (r ++ l) i = (i + (r.length - 1), 6, false, ⟨O, pre ++ r.dropLast, 0, H, 0, false⟩))
  | [], _, _, _, h => h.elim
  | [x], pre, l, i, h => by
    obtain ⟨h1, h2, h3⟩ := h
    have hp := push_byte O H pre x h3
    constructor
    · intro hn
      have e : rpushV ⟨O, pre, 0, H, 0, false⟩ x = (false, 0, ⟨O ++ [c], [], 0, H, 0, false⟩) := by
        rw [hp]
        unfold rbytesV RV.say
        simp only [h1, h2, hn]
        simp
      exact play_go e
    · intro hn
      have e : rpushV ⟨O, pre, 0, H, 0, false⟩ x = (false, 6, ⟨O, pre, 0, H, 0, false⟩) := by
        rw [hp]
        unfold rbytesV RV.say
        simp only [h1, h2, hn]
        simp
      show (if _ then _ else _) = _
      rw [if_pos (by rw [e]; simp), e]
      simp
  | x :: y :: r, pre, l, i, h => by
    obtain ⟨h1, h3, h4⟩ := h
    have hp := push_byte O H pre x h3
    have e : rpushV ⟨O, pre, 0, H, 0, false⟩ x = (false, 0, ⟨O, pre ++ [x], 0, H, 0, false⟩) := by
      rw [hp]
      unfold rbytesV RV.say
      simp only [h1]
      simp
    have ih := play_chain O H c (y :: r) (pre ++ [x]) l (i + 1) h4
    have g : playV ⟨O, pre, 0, H, 0, false⟩ (x :: y :: r ++ l) i = playV ⟨O, pre ++ [x], 0, H, 0, false⟩ (y :: r ++ l) (i + 1) := play_go e
    constructor
    · intro hn
      rw [g, ih.1 hn]
      simp only [List.length_cons]
      rw [show i + 1 + (r.length + 1) = i + (r.length + 1 + 1) by omega]
    · intro hn
      rw [g, ih.2 hn]
      simp only [List.length_cons, List.dropLast_cons_cons, List.append_assoc, List.singleton_append]
      rw [show i + 1 + (r.length + 1 - 1) = i + (r.length + 1 + 1 - 1) by omega]
theorem push_say (O H : List Int) (c : Int) (h0 : 32 ≤ c) (h1 : c < 128) (h2 : c ≠ 34) (h3 : c ≠ 92) : rpushV ⟨O, [], 0, H, 0, false⟩ c = (false, 0, ⟨O ++ [c], [], 0, H, 0, false⟩) := by
  unfold rpushV RV.say
  simp only
  rw [if_neg (by simp; omega), if_neg (by decide), if_neg (by decide), if_neg (by simp; omega), if_neg h3, if_neg (by decide), if_neg h2]
/-- A scalar that may stand says itself. -/
theorem play_scal (O H : List Int) (c : Int) (l : List Int) (i : Nat) (hs : isScal c = true) (h0 : 32 ≤ c) (h2 : c ≠ 34) (h3 : c ≠ 92) (hn : isNon c = false) :
    playV ⟨O, [], 0, H, 0, false⟩ (encV c ++ l) i = playV ⟨O ++ [c], [], 0, H, 0, false⟩ l (i + (encV c).length) := by
  by_cases h1 : c < 128
  · have e : encV c = [c] := by unfold encV; rw [if_pos hs, if_pos h1]
    rw [e]
    exact play_go (push_say O H c h0 h1 h2 h3)
  · exact (play_chain O H c (encV c) [] l i (chain_enc c hs (by omega))).1 hn
theorem enc_len (c : Int) (hs : isScal c = true) : 1 ≤ (encV c).length ∧ (encV c).length ≤ 4 := by
  refine ⟨?_, (encV_byt c).2⟩
  unfold encV
  rw [if_pos hs]
  (repeat' split) <;> simp

end Go.Proofs.Ytkpeblpgfngjcaa.Pure
