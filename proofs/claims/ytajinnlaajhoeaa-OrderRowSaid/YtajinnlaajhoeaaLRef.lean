/- UTF-8 of the document, plainly. -/
import Derived.Test.YtajinnlaajhoeaaPAllx1
import Derived.Test.YtajinnlaajhoeaaPAllx2
import Derived.Test.YtajinnlaajhoeaaPAllx3
import Derived.Test.YtajinnlaajhoeaaPAllx4
import Derived.Test.YtajinnlaajhoeaaPAllx5
import Derived.Test.YtajinnlaajhoeaaPAllx6
import Derived.Test.YtajinnlaajhoeaaPAllx7
import Derived.Test.YtajinnlaajhoeaaLUtf
namespace Go.Proofs.Ytajinnlaajhoeaa.Pure
open Go.RowKit Go.Proofs.Ytajinnlaajhoeaa.PAll Go.Proofs.YtajinnlaajhoeaaW.PrintWords Go.Proofs.YtajinnlaajhoeaaW.PrintLast Go.Proofs.YtajinnlaajhoeaaW.PrintMore
set_option linter.unusedVariables false
set_option linter.unusedSimpArgs false

/-! ### The reference, plainly -/
theorem long_val (k : Nat) (x : Int) (h0 : 0 ≤ x) (h1 : x ≤ 255) : orthoepyref02_long.f (k + 2) x = some (szV x) := by
  unfold orthoepyref02_long.f szV
  by_cases c1 : x < 128
  · rw [if_pos c1, if_pos c1]
  · rw [if_neg c1, if_neg c1]
    simp only [orthoepyref02_long.j0, orthoepyref02_long.j1]
    by_cases c2 : x < 194
    · have : ¬ x ≥ 194 := by omega
      have : ¬ x ≥ 224 := by omega
      have : ¬ x ≥ 240 := by omega
      simp [*]
    · have d2 : x ≥ 194 := by omega
      by_cases c3 : x < 224
      · have d3 : x ≤ 223 := by omega
        simp [c2, d2, c3, d3]
      · have d3 : ¬ x ≤ 223 := by omega
        have d3' : x ≥ 224 := by omega
        by_cases c4 : x < 240
        · have d4 : x ≤ 239 := by omega
          simp [c2, d2, c3, d3, d3', c4, d4]
        · have d4 : ¬ x ≤ 239 := by omega
          have d4' : x ≥ 240 := by omega
          by_cases c5 : x < 245
          · have d5 : x ≤ 244 := by omega
            simp [c2, d2, c3, d3, d3', c4, d4, d4', c5, d5]
          · have d5 : ¬ x ≤ 244 := by omega
            simp [c2, d2, c3, d3, d3', c4, d4, d4', c5, d5]
theorem rsecond_val (f x : Int) : orthoepyref02_second.f f x = some (secV f x) := by
  unfold orthoepyref02_second.f secV
  (repeat' split) <;> (congr 1; rw [Bool.eq_iff_iff]; simp only [decide_eq_true_eq, Bool.false_eq_true, true_iff, false_iff, iff_true, iff_false]; omega)
theorem tail_tests {y : Int} (k : Option Int) : (if y < 128 then some 0 else if y > 191 then some 0 else k) = if tailV y = true then k else some 0 := by
  simp only [tailV, decide_eq_true_eq]
  (repeat' split) <;> first | rfl | (exfalso; omega)
theorem how_val (k : Nat) (b : List Int) (hb : Byt b) (hl : b.length < 1000000000000) : orthoepyref02_How.f (k + 8) b = some (howV b) := by
  have w2 : wrap64 (1 + 1) = 2 := by unfold wrap64; decide
  have w3 : wrap64 (2 + 1) = 3 := by unfold wrap64; decide
  have w4 : wrap64 (3 + 1) = 4 := by unfold wrap64; decide
  unfold orthoepyref02_How.f
  match b with
  | [] => simp [orthoepyref02_How.j0, howV]
  | [f] =>
    have hf := hb f (by simp)
    have hz := szV_range f
    have l := long_val (k + 5) f hf.1 hf.2
    simp [orthoepyref02_How.j0, howV, rd, l, orthoepyref02_How.l0]
    (repeat' split) <;> first | rfl | (exfalso; omega)
  | [f, x] =>
    have hf := hb f (by simp)
    have hz := szV_range f
    have hst : secV f x = true → tailV x = true := secV_tail
    have l := long_val (k + 5) f hf.1 hf.2
    simp only [orthoepyref02_How.j0, howV, rd, l, orthoepyref02_How.l0, rsecond_val, tail_tests, w2]
    simp [l, rsecond_val, tail_tests, w2]
    cases hs : secV f x with
    | true =>
      simp [hst hs]
      (repeat' split) <;> first | rfl | (exfalso; omega)
    | false => simp
  | [f, x, y] =>
    have hf := hb f (by simp)
    have hz := szV_range f
    have hst : secV f x = true → tailV x = true := secV_tail
    have l := long_val (k + 5) f hf.1 hf.2
    simp only [orthoepyref02_How.j0, howV, rd, l, orthoepyref02_How.l0, rsecond_val, tail_tests, w2, w3]
    simp [l, rsecond_val, tail_tests, w2, w3]
    cases hs : secV f x with
    | true =>
      simp [hst hs]
      cases ht : tailV y with
      | true => (try simp); (repeat' split) <;> first | rfl | (exfalso; omega)
      | false => simp
    | false => simp
  | [f, x, y, z] =>
    have hf := hb f (by simp)
    have hz := szV_range f
    have hst : secV f x = true → tailV x = true := secV_tail
    have l := long_val (k + 5) f hf.1 hf.2
    simp only [orthoepyref02_How.j0, howV, rd, l, orthoepyref02_How.l0, rsecond_val, tail_tests, w2, w3, w4]
    simp [l, rsecond_val, tail_tests, w2, w3, w4]
    cases hs : secV f x with
    | true =>
      simp [hst hs]
      cases ht : tailV y with
      | true =>
        simp
        cases hu : tailV z with
        | true => (try simp); (repeat' split) <;> first | rfl | (exfalso; omega)
        | false => simp
      | false => simp
    | false => simp
  | _ :: _ :: _ :: _ :: _ :: r =>
    simp only [howV]
    rw [if_neg (by simp; omega)]
    simp only [orthoepyref02_How.j0]
    rw [if_pos]
    simp
    omega
theorem base_len {f : Int} (h0 : 0 ≤ f) : (szV f = 1 → baseV f = 0) ∧ (szV f = 2 → baseV f = 192) ∧ (szV f = 3 → baseV f = 224) ∧ (szV f = 4 → baseV f = 240) := by
  have := szV_bounds f
  unfold baseV
  (repeat' split) <;> omega
theorem of_val (k : Nat) (b : List Int) (hb : Byt b) (hw : howV b = 2) : orthoepyref02_of.f (k + 8) b = some (ofV b) := by
  have w2 : wrap64 (1 + 1) = 2 := by unfold wrap64; decide
  have w3 : wrap64 (2 + 1) = 3 := by unfold wrap64; decide
  have w4 : wrap64 (3 + 1) = 4 := by unfold wrap64; decide
  have v2 : wrap64 2 = 2 := by unfold wrap64; decide
  have v3 : wrap64 3 = 3 := by unfold wrap64; decide
  have v4 : wrap64 4 = 4 := by unfold wrap64; decide
  unfold orthoepyref02_of.f
  match b with
  | [] => simp [howV] at hw
  | [f] =>
    have hf := hb f (by simp)
    have hz := szV_range f
    simp only [howV] at hw
    have h1 : szV f = 1 := by (repeat' split at hw) <;> omega
    have hbs := (base_len hf.1).1 h1
    have ew : wrap32 f = f := by unfold wrap32; omega
    simp [rd, orthoepyref02_of.j0, orthoepyref02_of.l0, ofV, hbs, ew]
  | [f, x] =>
    have hf := hb f (by simp)
    have hx := hb x (by simp)
    have hz := szV_range f
    simp only [howV] at hw
    have h1 : szV f = 2 := by (repeat' split at hw) <;> omega
    have hbs := (base_len hf.1).2.1 h1
    have h2 := (szV_bounds f).2.1 h1
    have e1 : wrap32 (wrap32 f - 192) = f - 192 := by unfold wrap32; omega
    have e2 : wrap32 (wrap32 (wrap32 ((f - 192) * 64) + wrap32 x) - 128) = (f - 192) * 64 + (x - 128) := by unfold wrap32; omega
    simp [rd, orthoepyref02_of.j0, orthoepyref02_of.l0, ofV, hbs, e1, e2, w2, v2]
  | [f, x, y] =>
    have hf := hb f (by simp)
    have hx := hb x (by simp)
    have hy := hb y (by simp)
    have hz := szV_range f
    simp only [howV] at hw
    have h1 : szV f = 3 := by (repeat' split at hw) <;> omega
    have hbs := (base_len hf.1).2.2.1 h1
    have h2 := (szV_bounds f).2.2.1 h1
    have e1 : wrap32 (wrap32 f - 224) = f - 224 := by unfold wrap32; omega
    have e2 : wrap32 (wrap32 (wrap32 ((f - 224) * 64) + wrap32 x) - 128) = (f - 224) * 64 + (x - 128) := by unfold wrap32; omega
    have e3 : wrap32 (wrap32 (wrap32 (((f - 224) * 64 + (x - 128)) * 64) + wrap32 y) - 128) = ((f - 224) * 64 + (x - 128)) * 64 + (y - 128) := by unfold wrap32; omega
    simp [rd, orthoepyref02_of.j0, orthoepyref02_of.l0, ofV, hbs, e1, e2, e3, w2, w3, v2, v3]
  | [f, x, y, z] =>
    have hf := hb f (by simp)
    have hx := hb x (by simp)
    have hy := hb y (by simp)
    have hzz := hb z (by simp)
    have hz := szV_range f
    simp only [howV] at hw
    have h1 : szV f = 4 := by (repeat' split at hw) <;> omega
    have hbs := (base_len hf.1).2.2.2 h1
    have h2 := (szV_bounds f).2.2.2 h1
    have e1 : wrap32 (wrap32 f - 240) = f - 240 := by unfold wrap32; omega
    have e2 : wrap32 (wrap32 (wrap32 ((f - 240) * 64) + wrap32 x) - 128) = (f - 240) * 64 + (x - 128) := by unfold wrap32; omega
    have e3 : wrap32 (wrap32 (wrap32 (((f - 240) * 64 + (x - 128)) * 64) + wrap32 y) - 128) = ((f - 240) * 64 + (x - 128)) * 64 + (y - 128) := by unfold wrap32; omega
    have e4 : wrap32 (wrap32 (wrap32 ((((f - 240) * 64 + (x - 128)) * 64 + (y - 128)) * 64) + wrap32 z) - 128) = (((f - 240) * 64 + (x - 128)) * 64 + (y - 128)) * 64 + (z - 128) := by unfold wrap32; omega
    simp [rd, orthoepyref02_of.j0, orthoepyref02_of.l0, ofV, hbs, e1, e2, e3, e4, w2, w3, w4, v2, v3, v4]
  | _ :: _ :: _ :: _ :: _ :: r => simp [howV] at hw
theorem take_succ (xs : List Int) (i : Int) (x : Int) (r : List Int) (h0 : 0 ≤ i) (h : xs.drop i.toNat = x :: r) : xs.take (i + 1).toNat = xs.take i.toNat ++ [x] := by
  have hlt : i.toNat < xs.length := by
    have := congrArg List.length h
    simp at this
    omega
  rw [show (i + 1).toNat = i.toNat + 1 by omega, List.take_add_one]
  have := congrArg (fun l => l[0]?) h
  simp at this
  rw [this]
  rfl
theorem byt_take {xs : List Int} (h : Byt xs) (n : Nat) : Byt (xs.take n) := fun x hx => h x (List.mem_of_mem_take hx)
theorem rfirst_l0 (rest : List Int) : ∀ (k : Nat) (x0 : List Int) (i : Int), 0 ≤ i → x0.drop i.toNat = rest → i ≤ x0.length → Byt x0 → x0.length < 1000000000000 → (x0.take i.toNat = [] ∨ howV (x0.take i.toNat) = 1) → rest.length + 12 < k →
    orthoepyref02_First.l0 k x0 i = some (scanV (x0.take i.toNat) rest) := by
  induction rest with
  | nil =>
    intro k x0 i h0 hx hi hb hl hp hk
    obtain ⟨k, rfl⟩ : ∃ m, k = m + 2 := ⟨k - 2, by omega⟩
    have hlen : (x0.length : Int) = i := by
      have := congrArg List.length hx
      simp at this
      omega
    have hlt : ((x0.take i.toNat).length : Int) = i := by simp; omega
    simp only [orthoepyref02_First.l0, orthoepyref02_First.j1, scanV, hlt]
    rw [if_neg (by omega), if_neg (by omega)]
  | cons x r ih =>
    intro k x0 i h0 hx hi hb hl hp hk
    obtain ⟨k, rfl⟩ : ∃ m, k = m + 10 := ⟨k - 10, by omega⟩
    obtain ⟨hrd, hlt, hdrop⟩ := rd_drop x0 i x r h0 hx
    have ew : wrap64 (i + 1) = i + 1 := by unfold wrap64; omega
    have et := take_succ x0 i x r h0 hx
    have hh := how_val (k + 1) (x0.take (i + 1).toNat) (byt_take hb _) (by simp; omega)
    have hh0 := how_val k (x0.take (i + 1).toNat) (byt_take hb _) (by simp; omega)
    have hlen : ((x0.take i.toNat).length : Int) = i := by simp; omega
    rw [et] at hh hh0
    simp only [scanV]
    simp only [orthoepyref02_First.l0, orthoepyref02_First.j1]
    rw [if_pos (show i < (x0.length : Int) by omega), ew, if_pos (show 0 ≤ i + 1 by omega), if_pos (show i + 1 ≤ (x0.length : Int) by omega), et, show k + 9 = k + 1 + 8 by omega, hh]
    simp only [Option.bind_some]
    rcases how_cases (b := x0.take i.toNat ++ [x]) with ⟨q2, q1, q0⟩ | ⟨q1, q2, q0⟩ | ⟨q0, q2, q1⟩
    · rw [if_neg q1]
      have hof := of_val k (x0.take i.toNat ++ [x]) (by rw [← et]; exact byt_take hb _) q2
      rw [show k + 1 + 7 = k + 8 by omega] at *
      rw [if_pos (show i < (x0.length : Int) by omega), if_pos (show 0 ≤ i + 1 by omega), if_pos (show i + 1 ≤ (x0.length : Int) by omega), hh0]
      simp only [Option.bind_some, q2, if_true, hof, hlen]
    · rw [if_pos q1]
      rw [if_neg q2, if_pos q1, ← et]
      exact ih (k + 1 + 8) x0 (i + 1) (by omega) hdrop (by omega) hb hl (by rw [et]; exact .inr q1) (by simp at hk; omega)
    · rw [if_neg q1]
      rw [if_pos (show i < (x0.length : Int) by omega), if_pos (show 0 ≤ i + 1 by omega), if_pos (show i + 1 ≤ (x0.length : Int) by omega)]
      rw [show k + 1 + 7 = k + 8 by omega, hh0]
      simp only [Option.bind_some]
      simp only [q0]
      simp [hlen]
      omega
theorem rfirst_val (k : Nat) (xs : List Int) (hb : Byt xs) (hl : xs.length < 1000000000000) (hk : xs.length + 12 < k) : orthoepyref02_First.f k xs = some (scanV [] xs) := by
  unfold orthoepyref02_First.f
  have := rfirst_l0 xs k xs 0 (by omega) rfl (by omega) hb hl (.inl (by simp)) hk
  simpa using this
theorem rall_l0 (d : Nat) : ∀ (k : Nat) (x0 acc : List Int) (i : Int), 0 ≤ i → i ≤ x0.length → (x0.length : Int) - i ≤ d → Byt x0 → x0.length < 1000000000000 → (acc.length : Int) ≤ i → d + x0.length + 14 < k →
    orthoepyref02_All.l0 k x0 acc i = some (allV [] acc i (x0.drop i.toNat)) := by
  induction d with
  | zero =>
    intro k x0 acc i h0 hi hd hb hl ha hk
    obtain ⟨k, rfl⟩ : ∃ m, k = m + 1 := ⟨k - 1, by omega⟩
    have : x0.drop i.toNat = [] := List.drop_of_length_le (by omega)
    simp only [orthoepyref02_All.l0, this, allV]
    rw [if_neg (by omega), if_pos trivial]
  | succ d ih =>
    intro k x0 acc i h0 hi hd hb hl ha hk
    obtain ⟨k, rfl⟩ : ∃ m, k = m + 1 := ⟨k - 1, by omega⟩
    by_cases hlt : i < (x0.length : Int)
    · have hf := rfirst_val k (x0.drop i.toNat) (byt_drop hb _) (by simp; omega) (by simp; omega)
      obtain ⟨c, n, b, hs⟩ : ∃ c n b, scanV [] (x0.drop i.toNat) = (c, n, b) := ⟨_, _, _, rfl⟩
      have hg := scanV_ge (x0.drop i.toNat) []
      rw [hs] at hg hf
      simp only [List.length_nil] at hg
      have hne : x0.drop i.toNat ≠ [] := by
        intro he
        have := congrArg List.length he
        simp at this
        omega
      have hlen : ((x0.drop i.toNat).length : Int) = x0.length - i := by simp; omega
      rw [allV_scan (x0.drop i.toNat) [] acc i c n b hs]
      simp only [orthoepyref02_All.l0]
      rw [if_pos hlt, if_pos h0, if_pos (by omega), hf]
      simp only [Option.bind_some, List.length_nil]
      have ew : wrap64 (i + n) = i + n := by unfold wrap64; omega
      cases b with
      | true =>
        have hn := hg.2.2 rfl
        simp only [if_true]
        rw [if_pos (by omega), ew, ih k x0 (acc ++ [c]) (i + n) (by omega) (by omega) (by omega) hb hl (by simp; omega) (by omega)]
        rw [List.drop_drop, show i.toNat + (n - ((0 : Nat) : Int)).toNat = (i + n).toNat by omega, show i - ((0 : Nat) : Int) + n = i + n by omega]
      | false =>
        simp only [Bool.false_eq_true, if_false, hne, false_and]
        rw [ew, show i - ((0 : Nat) : Int) + n = i + n by omega]
    · have : x0.drop i.toNat = [] := List.drop_of_length_le (by omega)
      simp only [orthoepyref02_All.l0, this, allV]
      rw [if_neg (by omega), if_pos trivial]
theorem rall_val (k : Nat) (xs : List Int) (hb : Byt xs) (hl : xs.length < 1000000000000) (hk : 2 * xs.length + 14 < k) : orthoepyref02_All.f k xs = some (allV [] [] 0 xs) := by
  unfold orthoepyref02_All.f
  have := rall_l0 xs.length k xs [] 0 (by omega) (by omega) (by omega) hb hl (by simp) (by omega)
  simpa using this
theorem rbytes_val (c : Int) (h0 : -2147483648 ≤ c) (h1 : c ≤ 2147483647) : orthoepyref02_Bytes.f c = some (encV c) := by
  unfold orthoepyref02_Bytes.f encV
  rw [ris_val]
  simp only [Option.bind_some]
  cases hs : isScal c with
  | false => simp
  | true =>
    simp only [isScal, decide_eq_true_eq] at hs
    simp only [if_true]
    have d6 : Int.tdiv c 64 = c / 64 := Int.tdiv_eq_ediv_of_nonneg (by omega)
    have d12 : Int.tdiv c 4096 = c / 4096 := Int.tdiv_eq_ediv_of_nonneg (by omega)
    have d18 : Int.tdiv c 262144 = c / 262144 := Int.tdiv_eq_ediv_of_nonneg (by omega)
    have m0 : Int.tmod c 64 = c % 64 := Int.tmod_eq_emod_of_nonneg (by omega)
    have w6 : wrap32 (c / 64) = c / 64 := by unfold wrap32; omega
    have w12 : wrap32 (c / 4096) = c / 4096 := by unfold wrap32; omega
    have w18 : wrap32 (c / 262144) = c / 262144 := by unfold wrap32; omega
    have m6 : Int.tmod (c / 64) 64 = c / 64 % 64 := Int.tmod_eq_emod_of_nonneg (by omega)
    have m12 : Int.tmod (c / 4096) 64 = c / 4096 % 64 := Int.tmod_eq_emod_of_nonneg (by omega)
    have t : ∀ y : Int, 0 ≤ y → y < 256 → (wrap32 y) % 256 = y := fun y a b => by
      have : wrap32 y = y := by unfold wrap32; omega
      rw [this, Int.emod_eq_of_lt a b]
    rw [d6, d12, d18, m0, w6, w12, w18, m6, m12]
    by_cases c1 : c < 128
    · rw [if_pos c1, if_pos c1, Int.emod_eq_of_lt (by omega) (by omega)]
    · rw [if_neg c1, if_neg c1]
      by_cases c2 : c < 2048
      · rw [if_pos c2, if_pos c2, t (192 + c / 64) (by omega) (by omega), t (128 + c % 64) (by omega) (by omega)]
      · rw [if_neg c2, if_neg c2]
        by_cases c3 : c < 65536
        · rw [if_pos c3, if_pos c3, t (224 + c / 4096) (by omega) (by omega), t (128 + c / 64 % 64) (by omega) (by omega), t (128 + c % 64) (by omega) (by omega)]
        · rw [if_neg c3, if_neg c3, t (240 + c / 262144) (by omega) (by omega), t (128 + c / 4096 % 64) (by omega) (by omega), t (128 + c / 64 % 64) (by omega) (by omega), t (128 + c % 64) (by omega) (by omega)]
def R32 (xs : List Int) : Prop := ∀ x ∈ xs, -2147483648 ≤ x ∧ x ≤ 2147483647
theorem rtext_l0 (rest : List Int) : ∀ (k : Nat) (x0 acc : List Int) (i : Int), 0 ≤ i → x0.drop i.toNat = rest → i ≤ x0.length → R32 x0 → x0.length < 1000000000000 → (acc.length : Int) ≤ 4 * i → rest.length < k →
    orthoepyref02_Text.l0 k x0 acc i = some (acc ++ textV rest) := by
  induction rest with
  | nil =>
    intro k x0 acc i h0 hx hi hr hl ha hk
    obtain ⟨k, rfl⟩ : ∃ m, k = m + 1 := ⟨k - 1, by omega⟩
    have hlen : (x0.length : Int) = i := by
      have := congrArg List.length hx
      simp at this
      omega
    simp only [orthoepyref02_Text.l0]
    rw [if_neg (by omega)]
    simp [textV]
  | cons x r ih =>
    intro k x0 acc i h0 hx hi hr hl ha hk
    obtain ⟨k, rfl⟩ : ∃ m, k = m + 1 := ⟨k - 1, by omega⟩
    obtain ⟨hrd, hlt, hdrop⟩ := rd_drop x0 i x r h0 hx
    have hb := (encV_byt x).2
    have hx32 := hr x (List.mem_of_mem_drop (by rw [hx]; simp))
    have ew : wrap64 (i + 1) = i + 1 := by unfold wrap64; omega
    simp only [orthoepyref02_Text.l0]
    rw [if_pos (by omega), if_pos (by omega), hrd, rbytes_val x hx32.1 hx32.2]
    simp only [Option.bind_some]
    rw [if_pos (by omega), ew, ih k x0 (acc ++ encV x) (i + 1) (by omega) hdrop (by omega) hr hl (by simp; omega) (by simp at hk; omega), textV_cons, List.append_assoc]
theorem rtext_val (k : Nat) (l : List Int) (hr : R32 l) (hl : l.length < 1000000000000) (hk : l.length < k) : orthoepyref02_Text.f k l = some (textV l) := by
  unfold orthoepyref02_Text.f
  have := rtext_l0 l k l [] 0 (by omega) rfl (by omega) hr hl (by simp) hk
  simpa using this
theorem wf_i32 {n : Int} (h : (Lit.int .i32 n).wf = true) : -2147483648 ≤ n ∧ n ≤ 2147483647 := by
  simp [Lit.wf, IntKind.min, IntKind.max, IntKind.bits, IntKind.signed] at h
  omega
theorem wf_u8 {n : Int} (h : (Lit.int .u8 n).wf = true) : 0 ≤ n ∧ n ≤ 255 := by
  simp [Lit.wf, IntKind.min, IntKind.max, IntKind.bits, IntKind.signed] at h
  omega
theorem byt_wf {xs : List Int} (h : ∀ x ∈ xs, (Lit.int .u8 x).wf = true) : Byt xs := fun x hx => wf_u8 (h x hx)
theorem r32_wf {xs : List Int} (h : ∀ x ∈ xs, (Lit.int .i32 x).wf = true) : R32 xs := fun x hx => wf_i32 (h x hx)

end Go.Proofs.Ytajinnlaajhoeaa.Pure
