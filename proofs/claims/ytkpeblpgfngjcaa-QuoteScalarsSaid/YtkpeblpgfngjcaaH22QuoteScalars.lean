/- QuoteScalars: how each scalar alone is written. -/
import Derived.Test.YtkpeblpgfngjcaaPAllx1
import Derived.Test.YtkpeblpgfngjcaaPAllx2
import Derived.Test.YtkpeblpgfngjcaaPAllx3
import Derived.Test.YtkpeblpgfngjcaaPAllx4
import Derived.Test.YtkpeblpgfngjcaaPAllx5
import Derived.Test.YtkpeblpgfngjcaaPAllx6
import Derived.Test.YtkpeblpgfngjcaaHKit
import Derived.Test.YtkpeblpgfngjcaaLUtf
import Derived.Test.YtkpeblpgfngjcaaLRef
import Derived.Test.YtkpeblpgfngjcaaH12U
import Derived.Test.YtkpeblpgfngjcaaHQuote
import Derived.Test.YtkpeblpgfngjcaaHForms
import Derived.Test.YtkpeblpgfngjcaaHBuild
import Derived.Test.YtkpeblpgfngjcaaHBack
import Derived.Outline
import Derived.OwnWalk
import Derived.Laws.DeepStrings4
import Derived.Laws.Strings3
import Derived.Laws.Concat
import Derived.Lib.Strings
namespace Go.Proofs.Ytkpeblpgfngjcaa.Pure
open Go.RowKit Go.Proofs.Ytkpeblpgfngjcaa.PAll Go.Proofs.YtkpeblpgfngjcaaW.PrintWords Go.Proofs.YtkpeblpgfngjcaaW.PrintLast Go.Proofs.YtkpeblpgfngjcaaW.PrintMore
set_option linter.unusedVariables false
set_option linter.unusedSimpArgs false

/-! ### Scalars by numbers -/
theorem place_val (n m : Int) (hm : 0 < m) (hm' : m < 4000000000000000000) : orthoepylaw00_Place.f n m = some (n % m) := by
  unfold orthoepylaw00_Place.f
  rw [if_neg (by omega)]
  have h1 := Int.tmod_lt_of_pos n hm
  have h2 := Int.lt_tmod_of_pos n hm
  have h3 : n.tmod m % m = n % m := by rw [Int.tmod_def, Int.sub_mul_emod_self_left]
  by_cases h : Int.tmod n m < 0
  · rw [if_pos h]
    have e : wrap64 (Int.tmod n m + m) = Int.tmod n m + m := by unfold wrap64; omega
    rw [e, ← h3]
    congr 1
    rw [← Int.add_emod_right, Int.emod_eq_of_lt (by omega) (by omega)]
  · rw [if_neg h, ← h3, Int.emod_eq_of_lt (by omega) (by omega)]
theorem rune_val (n : Int) : ∃ c, orthoepylaw00_Rune.f n = some c ∧ 0 ≤ c ∧ c ≤ 2147483647 := by
  have h0 := Int.emod_nonneg n (b := 1099511627776) (by decide)
  have h1 := Int.emod_lt_of_pos n (b := 1099511627776) (by decide)
  refine ⟨runeV (n % 1099511627776), ?_, runeV_bound _ h0⟩
  unfold orthoepylaw00_Rune.f
  rw [place_val n _ (by decide) (by decide)]
  simp only [Option.bind_some]
  rw [if_pos ⟨h0, h1⟩]

/-! ### Laws over two texts -/
theorem bnums_cat (a b : ByteArray) : bnums (a ++ b) = bnums a ++ bnums b := by
  unfold bnums
  rw [← List.map_append]
  congr 1
theorem str_bnums (s : ByteArray) : strOfNums (bnums s) = s := by
  apply ByteArray.ext
  apply Array.ext'
  unfold strOfNums bnums
  simp only [List.map_map]
  conv => rhs; rw [← List.map_id s.data.toList]
  apply List.map_congr_left
  intro b _
  simp
theorem quote_cat (a b : List Int) : strOfNums (quoteL (a ++ b)) = strOfNums (34 :: a.flatMap qB) ++ strOfNums (b.flatMap qB ++ [34]) := by
  rw [str_app]
  unfold quoteL
  simp
theorem str_from_one (m : List Int) : (strOfNums (34 :: m)).extract 1 (strOfNums (34 :: m)).size = strOfNums m := by
  rw [str_size]
  apply ByteArray.ext
  simp only [ByteArray.data_extract, strOfNums]
  apply Array.ext'
  simp [List.take_of_length_le]
theorem str_but_last (m : List Int) (x : Int) : (strOfNums (m ++ [x])).extract 0 ((strOfNums (m ++ [x])).size - 1) = strOfNums m := by
  rw [str_size]
  apply ByteArray.ext
  simp only [ByteArray.data_extract, strOfNums]
  apply Array.ext'
  simp
theorem quote_head (a : List Int) : (strOfNums (quoteL a)).extract 0 ((strOfNums (quoteL a)).size - 1) = strOfNums (34 :: a.flatMap qB) := by
  have e : quoteL a = (34 :: a.flatMap qB) ++ [34] := rfl
  rw [e]
  exact str_but_last _ _
theorem quote_tail (a : List Int) : (strOfNums (quoteL a)).extract 1 (strOfNums (quoteL a)).size = strOfNums (a.flatMap qB ++ [34]) := by
  have e : quoteL a = 34 :: (a.flatMap qB ++ [34]) := rfl
  rw [e]
  exact str_from_one _
theorem quote_len (a : List Int) : (strOfNums (quoteL a)).size = (a.flatMap qB).length + 2 := by
  rw [str_size]
  unfold quoteL
  simp
theorem size_quote (l : List Int) : ((strOfNums (quoteL l)).size : Int) = ((quoteL l).length : Int) := by rw [str_size]

/-! ### QuoteScalars, walked -/
theorem oneL_big (x : Int) (h0 : 0 ≤ x) (h1 : x < 32) : ∀ y ∈ oneL x, 32 ≤ y := by
  unfold oneL
  intro y hy
  (repeat' split at hy) <;> (simp only [List.mem_cons, List.not_mem_nil, or_false] at hy; omega)
theorem qB_big (x : Int) (h0 : 0 ≤ x) : ∀ y ∈ qB x, 32 ≤ y := by
  unfold qB
  intro y hy
  by_cases h1 : x = 34 ∨ x = 92
  · rw [if_pos h1] at hy
    simp only [List.mem_cons, List.not_mem_nil, or_false] at hy
    omega
  · rw [if_neg h1] at hy
    by_cases h2 : x < 32
    · rw [if_pos h2] at hy
      exact oneL_big x h0 h2 y hy
    · rw [if_neg h2] at hy
      simp only [List.mem_cons, List.not_mem_nil, or_false] at hy
      omega
theorem quote_big (l : List Int) (h : Byt l) : ∀ y ∈ quoteL l, 32 ≤ y := by
  intro y hy
  unfold quoteL at hy
  rw [List.mem_append, List.mem_append] at hy
  rcases hy with (hy | hy) | hy
  · simp only [List.mem_cons, List.not_mem_nil, or_false] at hy
    omega
  · obtain ⟨x, hx, hy⟩ := List.mem_flatMap.1 hy
    exact qB_big x (h x hx).1 y hy
  · simp only [List.mem_cons, List.not_mem_nil, or_false] at hy
    omega
theorem quote_last (s : ByteArray) (m : List Int) (hm : Byt (m ++ [34])) (hs : strOfNums (m ++ [34]) = s) : (Instr.index 9 (.string s) (.int .i64 ((s.size : Int) - 1))).run Try.prog = fun w => .ok (.int .u8 34) w := by
  funext w
  have hsz : s.size = m.length + 1 := by rw [← hs, str_size]; simp
  rw [run_index_string w _ _ _ _ Try.underlying9, dif_pos ⟨by omega, by omega⟩]
  congr 2
  have hb := bnums_nums _ hm
  rw [hs] at hb
  have h1 := bnums_drop s m.length (by omega)
  rw [hb] at h1
  have h2 : (m ++ [34]).drop m.length = [34] := by simp
  rw [h2] at h1
  injection h1 with h1 _
  simp only [show ((s.size : Int) - 1).toNat = m.length by omega]
  exact h1.symm
theorem quote_first (s : ByteArray) (m : List Int) (hm : Byt (34 :: m)) (hs : strOfNums (34 :: m) = s) : (Instr.index 9 (.string s) (.int .i64 0)).run Try.prog = fun w => .ok (.int .u8 34) w := by
  funext w
  have hsz : s.size = m.length + 1 := by rw [← hs, str_size]; simp
  rw [run_index_string w _ _ _ _ Try.underlying9, dif_pos ⟨by omega, by omega⟩]
  congr 2
  have hb := bnums_nums _ hm
  rw [hs] at hb
  have h1 := bnums_drop s 0 (by omega)
  rw [hb] at h1
  injection h1 with h1 _
  exact h1.symm
set_option maxHeartbeats 4000000 in
set_option maxRecDepth 100000 in
theorem qscal_none (n c : Int) (w : World) (hc : orthoepylaw00_Rune.f n = some c) (hs : isScal c = false) :
    Calls Try.prog 8 #[.int .i64 n] w fun e w' => e = .returned (.bool true) ∧ Below w.heap.size w w' := by
  have HC := Aside0.mk hc
  have his := ris_val c
  rw [hs] at his
  have HIS := Aside0.mk his
  clear hc hs his
  go_enter Try.func8, Try.ntmps8
  go_wp2_with (first
    | (go_at_call 22; refine (orthoepylaw00_Rune.calls n c _ HC.out).mono ?_; rintro e w1 ⟨rfl, hd⟩; obtain ⟨n1, hd⟩ := hd.out; subst hd)
    | (go_at_call 23; refine (orthoepyref01_Is.calls c false _ HIS.out).mono ?_; rintro e w2 ⟨rfl, hd⟩; obtain ⟨n2, hd⟩ := hd.out; subst hd)
    | (go_at_call 10; refine (awake_any _).mono ?_; rintro e w7 ⟨rfl, hk⟩; have HK7 := Aside0.mk (((Keeps.refl (fun _ => False) w).drewN _).trans hk (fun _ q => q.elim)); clear hk))
  go_ret
  exact ⟨rfl, HK7.out.below (fun _ q => q.elim) (Nat.le_refl _)⟩
set_option maxHeartbeats 4000000 in
set_option maxRecDepth 100000 in
theorem qscal_lo (n c : Int) (w : World) (hc : orthoepylaw00_Rune.f n = some c) (hs : isScal c = true) (h : c < 8) :
    Calls Try.prog 8 #[.int .i64 n] w fun e w' => e = .returned (.bool true) ∧ Below w.heap.size w w' := by
  have hsc : 0 ≤ c ∧ c ≤ 1114111 := by
    have := hs
    simp only [isScal, decide_eq_true_eq] at this
    omega
  have HC := Aside0.mk hc
  have his := ris_val c
  rw [hs] at his
  have HIS := Aside0.mk his
  have hbv := rbytes_val c (by omega) (by omega)
  have hel := enc_len c hs
  have hey := (encV_byt c).1
  have hbn := bnums_nums (encV c) hey
  have hfl : ((encV c).flatMap qB).length = 6 := by
    have he : encV c = [c] := by unfold encV; rw [if_pos hs, if_pos (by omega)]
    rw [he, List.flatMap_cons, List.flatMap_nil, List.append_nil]
    unfold qB oneL
    rw [if_neg (by omega), if_pos (by omega), if_neg (by omega), if_neg (by omega), if_neg (by omega), if_neg (by omega), if_neg (by omega)]
    rfl
  obtain ⟨L, hL⟩ : ∃ L, encV c = L := ⟨_, rfl⟩
  rw [hL] at hbv hel hey hbn hfl
  obtain ⟨T, hT⟩ : ∃ T, strOfNums L = T := ⟨_, rfl⟩
  rw [hT] at hbn
  have hTs : T.size = L.length := by rw [← hT, str_size]
  have hTl : 1 ≤ T.size ∧ T.size ≤ 4 := by omega
  have hq := fun W => quote_any T W (by omega)
  have hle := fun W => len_any T W (by omega)
  rw [hbn] at hq hle
  simp only [← size_quote] at hle
  have hqby : Byt (quoteL L) := byt_app (byt_app (byt_nums rfl) (flat_byt hey)) (byt_nums rfl)
  have hbig := quote_big L hey
  have hqn := bnums_nums (quoteL L) hqby
  have hqz := quote_len L
  obtain ⟨X, hX⟩ : ∃ X, strOfNums (quoteL L) = X := ⟨_, rfl⟩
  have e34 : quoteL L = 34 :: (L.flatMap qB ++ [34]) := rfl
  have e43 : quoteL L = (34 :: L.flatMap qB) ++ [34] := rfl
  have hi0 := quote_first X (L.flatMap qB ++ [34]) (e34 ▸ hqby) (e34 ▸ hX)
  have hi1 := quote_last X (34 :: L.flatMap qB) (e43 ▸ hqby) (e43 ▸ hX)
  simp only [hX] at hq hle
  rw [hX] at hqn hqz
  have hXl : 2 ≤ X.size ∧ X.size ≤ 26 := by have := flat_len L; omega
  have HQ := Aside0.mk hq
  have HLE := Aside0.mk hle
  have HB := Aside0.mk hbv
  have HS := Aside0.mk hT
  have HBIG := Aside0.mk hbig
  have HQN := Aside0.mk hqn
  have tz : ((X.size : Int) == 8) = true := beq_iff_eq.mpr (by omega)
  have ta : decide (c < 32) = true := decide_eq_true (by omega)
  have tb : decide (8 ≤ c) = false := decide_eq_false (by omega)
  have tq : (c == 34) = false := beq_f (by omega)
  have ts : (c == 92) = false := beq_f (by omega)
  clear hc hs his hbv hel hey hbn hL hT hq hle hqby hbig hqn hX hfl hqz hTs e34 e43 h
  go_enter Try.func8, Try.ntmps8
  go_wp2_with (first
    | (go_at_call 22; refine (orthoepylaw00_Rune.calls n c _ HC.out).mono ?_; rintro e w1 ⟨rfl, hd⟩; obtain ⟨n1, hd⟩ := hd.out; subst hd)
    | (go_at_call 23; refine (orthoepyref01_Is.calls c true _ HIS.out).mono ?_; rintro e w2 ⟨rfl, hd⟩; obtain ⟨n2, hd⟩ := hd.out; subst hd)
    | (go_at_call 24; refine (orthoepyref02_Bytes.calls c L _ HB.out).mono ?_; rintro e w4 ⟨v1, rfl, hr1, hB1⟩; obtain ⟨B1, d1, e1⟩ := Kd.R_slice hr1; subst e1; have hcv := Kd.C_string (P := Try.prog) (c := d1) Try.underlying32 Try.underlying5 Try.underlying9 (Kd.R_reads' hr1).2.2; rw [HS.out] at hcv; have HK4 := Aside0.mk (((Keeps.refl (fun _ => False) w).drewN _).below_ hB1); clear hr1 hB1)
    | (go_at_call 15; refine (HQ.out _).mono ?_; rintro e w5 ⟨rfl, hk⟩; have HK5 := Aside0.mk (HK4.out.trans hk (fun _ q => q.elim)); clear hk))
  go_loopw [7] (fun i wr => ∃ k : Nat, k ≤ X.size ∧ i = .int .i64 k ∧ wr = w5) (fun i _ => X.size - (intOf i).toNat)
  case atStart => exact ⟨0, Nat.zero_le _, rfl, rfl⟩
  case round =>
    obtain ⟨k, hk, rfl, rfl⟩ := hrel
    by_cases hlt : k < X.size
    · have hlt1 : (k : Int) < (X.size : Int) := by omega
      have hlt2 : decide (k < X.size) = true := decide_eq_true hlt
      obtain ⟨x, hx0⟩ : ∃ x : Int, ((X[k]'hlt).toNat : Int) = x := ⟨_, rfl⟩
      have hx : 32 ≤ x := HBIG.out x (by
        have h1 := bnums_drop X k hlt
        rw [hx0] at h1
        have h2 : x ∈ (bnums X).drop k := by rw [h1]; simp
        rw [HQN.out] at h2
        exact List.mem_of_mem_drop h2)
      have hidx : (Instr.index 9 (.string X) (.int .i64 (k : Int))).run Try.prog = fun w => .ok (.int .u8 x) w := by
        funext w
        rw [run_index_string w _ _ _ _ Try.underlying9, dif_pos ⟨by omega, hlt1⟩]
        simp only [Int.toNat_natCast, hx0]
      have tx : decide (x < 32) = false := decide_eq_false (by omega)
      have HX0 := Aside0.mk hx0
      clear hx0
      go_wp2
      go_roundw
      case rel => exact ⟨k + 1, by omega, by go_num, by first | rfl | trivial⟩
      case measure => simp [intOf]; omega
    · have hlt2 : decide (k < X.size) = false := decide_eq_false hlt
      go_wp2_with (first
        | (go_at_call 16; refine (HLE.out _).mono ?_; rintro e w6 ⟨rfl, hk⟩; have HK6 := Aside0.mk (HK5.out.trans hk (fun _ q => q.elim)); clear hk)
        | (go_at_call 10; refine (awake_any _).mono ?_; rintro e w7 ⟨rfl, hk⟩; have HK7 := Aside0.mk (HK6.out.trans hk (fun _ q => q.elim)); clear hk))
      go_ret
      exact ⟨rfl, HK7.out.below (fun _ q => q.elim) (Nat.le_refl _)⟩
set_option maxHeartbeats 4000000 in
set_option maxRecDepth 100000 in
theorem qscal_vt (n c : Int) (w : World) (hc : orthoepylaw00_Rune.f n = some c) (hs : isScal c = true) (h : c = 11) :
    Calls Try.prog 8 #[.int .i64 n] w fun e w' => e = .returned (.bool true) ∧ Below w.heap.size w w' := by
  have hsc : 0 ≤ c ∧ c ≤ 1114111 := by
    have := hs
    simp only [isScal, decide_eq_true_eq] at this
    omega
  have HC := Aside0.mk hc
  have his := ris_val c
  rw [hs] at his
  have HIS := Aside0.mk his
  have hbv := rbytes_val c (by omega) (by omega)
  have hel := enc_len c hs
  have hey := (encV_byt c).1
  have hbn := bnums_nums (encV c) hey
  have hfl : ((encV c).flatMap qB).length = 6 := by
    have he : encV c = [c] := by unfold encV; rw [if_pos hs, if_pos (by omega)]
    rw [he, List.flatMap_cons, List.flatMap_nil, List.append_nil]
    unfold qB oneL
    rw [if_neg (by omega), if_pos (by omega), if_neg (by omega), if_neg (by omega), if_neg (by omega), if_neg (by omega), if_neg (by omega)]
    rfl
  obtain ⟨L, hL⟩ : ∃ L, encV c = L := ⟨_, rfl⟩
  rw [hL] at hbv hel hey hbn hfl
  obtain ⟨T, hT⟩ : ∃ T, strOfNums L = T := ⟨_, rfl⟩
  rw [hT] at hbn
  have hTs : T.size = L.length := by rw [← hT, str_size]
  have hTl : 1 ≤ T.size ∧ T.size ≤ 4 := by omega
  have hq := fun W => quote_any T W (by omega)
  have hle := fun W => len_any T W (by omega)
  rw [hbn] at hq hle
  simp only [← size_quote] at hle
  have hqby : Byt (quoteL L) := byt_app (byt_app (byt_nums rfl) (flat_byt hey)) (byt_nums rfl)
  have hbig := quote_big L hey
  have hqn := bnums_nums (quoteL L) hqby
  have hqz := quote_len L
  obtain ⟨X, hX⟩ : ∃ X, strOfNums (quoteL L) = X := ⟨_, rfl⟩
  have e34 : quoteL L = 34 :: (L.flatMap qB ++ [34]) := rfl
  have e43 : quoteL L = (34 :: L.flatMap qB) ++ [34] := rfl
  have hi0 := quote_first X (L.flatMap qB ++ [34]) (e34 ▸ hqby) (e34 ▸ hX)
  have hi1 := quote_last X (34 :: L.flatMap qB) (e43 ▸ hqby) (e43 ▸ hX)
  simp only [hX] at hq hle
  rw [hX] at hqn hqz
  have hXl : 2 ≤ X.size ∧ X.size ≤ 26 := by have := flat_len L; omega
  have HQ := Aside0.mk hq
  have HLE := Aside0.mk hle
  have HB := Aside0.mk hbv
  have HS := Aside0.mk hT
  have HBIG := Aside0.mk hbig
  have HQN := Aside0.mk hqn
  have tz : ((X.size : Int) == 8) = true := beq_iff_eq.mpr (by omega)
  have ta : decide (c < 32) = true := decide_eq_true (by omega)
  have tb : decide (8 ≤ c) = true := decide_eq_true (by omega)
  have td : decide (c ≤ 13) = true := decide_eq_true (by omega)
  have te : (c != 11) = false := by rw [h]; rfl
  have te2 : (c == 11) = true := beq_iff_eq.mpr (by omega)
  have tq : (c == 34) = false := beq_f (by omega)
  have ts : (c == 92) = false := beq_f (by omega)
  clear hc hs his hbv hel hey hbn hL hT hq hle hqby hbig hqn hX hfl hqz hTs e34 e43 h
  go_enter Try.func8, Try.ntmps8
  go_wp2_with (first
    | (go_at_call 22; refine (orthoepylaw00_Rune.calls n c _ HC.out).mono ?_; rintro e w1 ⟨rfl, hd⟩; obtain ⟨n1, hd⟩ := hd.out; subst hd)
    | (go_at_call 23; refine (orthoepyref01_Is.calls c true _ HIS.out).mono ?_; rintro e w2 ⟨rfl, hd⟩; obtain ⟨n2, hd⟩ := hd.out; subst hd)
    | (go_at_call 24; refine (orthoepyref02_Bytes.calls c L _ HB.out).mono ?_; rintro e w4 ⟨v1, rfl, hr1, hB1⟩; obtain ⟨B1, d1, e1⟩ := Kd.R_slice hr1; subst e1; have hcv := Kd.C_string (P := Try.prog) (c := d1) Try.underlying32 Try.underlying5 Try.underlying9 (Kd.R_reads' hr1).2.2; rw [HS.out] at hcv; have HK4 := Aside0.mk (((Keeps.refl (fun _ => False) w).drewN _).below_ hB1); clear hr1 hB1)
    | (go_at_call 15; refine (HQ.out _).mono ?_; rintro e w5 ⟨rfl, hk⟩; have HK5 := Aside0.mk (HK4.out.trans hk (fun _ q => q.elim)); clear hk))
  go_loopw [7] (fun i wr => ∃ k : Nat, k ≤ X.size ∧ i = .int .i64 k ∧ wr = w5) (fun i _ => X.size - (intOf i).toNat)
  case atStart => exact ⟨0, Nat.zero_le _, rfl, rfl⟩
  case round =>
    obtain ⟨k, hk, rfl, rfl⟩ := hrel
    by_cases hlt : k < X.size
    · have hlt1 : (k : Int) < (X.size : Int) := by omega
      have hlt2 : decide (k < X.size) = true := decide_eq_true hlt
      obtain ⟨x, hx0⟩ : ∃ x : Int, ((X[k]'hlt).toNat : Int) = x := ⟨_, rfl⟩
      have hx : 32 ≤ x := HBIG.out x (by
        have h1 := bnums_drop X k hlt
        rw [hx0] at h1
        have h2 : x ∈ (bnums X).drop k := by rw [h1]; simp
        rw [HQN.out] at h2
        exact List.mem_of_mem_drop h2)
      have hidx : (Instr.index 9 (.string X) (.int .i64 (k : Int))).run Try.prog = fun w => .ok (.int .u8 x) w := by
        funext w
        rw [run_index_string w _ _ _ _ Try.underlying9, dif_pos ⟨by omega, hlt1⟩]
        simp only [Int.toNat_natCast, hx0]
      have tx : decide (x < 32) = false := decide_eq_false (by omega)
      have HX0 := Aside0.mk hx0
      clear hx0
      go_wp2
      go_roundw
      case rel => exact ⟨k + 1, by omega, by go_num, by first | rfl | trivial⟩
      case measure => simp [intOf]; omega
    · have hlt2 : decide (k < X.size) = false := decide_eq_false hlt
      go_wp2_with (first
        | (go_at_call 16; refine (HLE.out _).mono ?_; rintro e w6 ⟨rfl, hk⟩; have HK6 := Aside0.mk (HK5.out.trans hk (fun _ q => q.elim)); clear hk)
        | (go_at_call 10; refine (awake_any _).mono ?_; rintro e w7 ⟨rfl, hk⟩; have HK7 := Aside0.mk (HK6.out.trans hk (fun _ q => q.elim)); clear hk))
      go_ret
      exact ⟨rfl, HK7.out.below (fun _ q => q.elim) (Nat.le_refl _)⟩
set_option maxHeartbeats 4000000 in
set_option maxRecDepth 100000 in
theorem qscal_mid (n c : Int) (w : World) (hc : orthoepylaw00_Rune.f n = some c) (hs : isScal c = true) (h : 14 ≤ c ∧ c < 32) :
    Calls Try.prog 8 #[.int .i64 n] w fun e w' => e = .returned (.bool true) ∧ Below w.heap.size w w' := by
  have hsc : 0 ≤ c ∧ c ≤ 1114111 := by
    have := hs
    simp only [isScal, decide_eq_true_eq] at this
    omega
  have HC := Aside0.mk hc
  have his := ris_val c
  rw [hs] at his
  have HIS := Aside0.mk his
  have hbv := rbytes_val c (by omega) (by omega)
  have hel := enc_len c hs
  have hey := (encV_byt c).1
  have hbn := bnums_nums (encV c) hey
  have hfl : ((encV c).flatMap qB).length = 6 := by
    have he : encV c = [c] := by unfold encV; rw [if_pos hs, if_pos (by omega)]
    rw [he, List.flatMap_cons, List.flatMap_nil, List.append_nil]
    unfold qB oneL
    rw [if_neg (by omega), if_pos (by omega), if_neg (by omega), if_neg (by omega), if_neg (by omega), if_neg (by omega), if_neg (by omega)]
    rfl
  obtain ⟨L, hL⟩ : ∃ L, encV c = L := ⟨_, rfl⟩
  rw [hL] at hbv hel hey hbn hfl
  obtain ⟨T, hT⟩ : ∃ T, strOfNums L = T := ⟨_, rfl⟩
  rw [hT] at hbn
  have hTs : T.size = L.length := by rw [← hT, str_size]
  have hTl : 1 ≤ T.size ∧ T.size ≤ 4 := by omega
  have hq := fun W => quote_any T W (by omega)
  have hle := fun W => len_any T W (by omega)
  rw [hbn] at hq hle
  simp only [← size_quote] at hle
  have hqby : Byt (quoteL L) := byt_app (byt_app (byt_nums rfl) (flat_byt hey)) (byt_nums rfl)
  have hbig := quote_big L hey
  have hqn := bnums_nums (quoteL L) hqby
  have hqz := quote_len L
  obtain ⟨X, hX⟩ : ∃ X, strOfNums (quoteL L) = X := ⟨_, rfl⟩
  have e34 : quoteL L = 34 :: (L.flatMap qB ++ [34]) := rfl
  have e43 : quoteL L = (34 :: L.flatMap qB) ++ [34] := rfl
  have hi0 := quote_first X (L.flatMap qB ++ [34]) (e34 ▸ hqby) (e34 ▸ hX)
  have hi1 := quote_last X (34 :: L.flatMap qB) (e43 ▸ hqby) (e43 ▸ hX)
  simp only [hX] at hq hle
  rw [hX] at hqn hqz
  have hXl : 2 ≤ X.size ∧ X.size ≤ 26 := by have := flat_len L; omega
  have HQ := Aside0.mk hq
  have HLE := Aside0.mk hle
  have HB := Aside0.mk hbv
  have HS := Aside0.mk hT
  have HBIG := Aside0.mk hbig
  have HQN := Aside0.mk hqn
  have tz : ((X.size : Int) == 8) = true := beq_iff_eq.mpr (by omega)
  have ta : decide (c < 32) = true := decide_eq_true (by omega)
  have tb : decide (8 ≤ c) = true := decide_eq_true (by omega)
  have td : decide (c ≤ 13) = false := decide_eq_false (by omega)
  have tq : (c == 34) = false := beq_f (by omega)
  have ts : (c == 92) = false := beq_f (by omega)
  clear hc hs his hbv hel hey hbn hL hT hq hle hqby hbig hqn hX hfl hqz hTs e34 e43 h
  go_enter Try.func8, Try.ntmps8
  go_wp2_with (first
    | (go_at_call 22; refine (orthoepylaw00_Rune.calls n c _ HC.out).mono ?_; rintro e w1 ⟨rfl, hd⟩; obtain ⟨n1, hd⟩ := hd.out; subst hd)
    | (go_at_call 23; refine (orthoepyref01_Is.calls c true _ HIS.out).mono ?_; rintro e w2 ⟨rfl, hd⟩; obtain ⟨n2, hd⟩ := hd.out; subst hd)
    | (go_at_call 24; refine (orthoepyref02_Bytes.calls c L _ HB.out).mono ?_; rintro e w4 ⟨v1, rfl, hr1, hB1⟩; obtain ⟨B1, d1, e1⟩ := Kd.R_slice hr1; subst e1; have hcv := Kd.C_string (P := Try.prog) (c := d1) Try.underlying32 Try.underlying5 Try.underlying9 (Kd.R_reads' hr1).2.2; rw [HS.out] at hcv; have HK4 := Aside0.mk (((Keeps.refl (fun _ => False) w).drewN _).below_ hB1); clear hr1 hB1)
    | (go_at_call 15; refine (HQ.out _).mono ?_; rintro e w5 ⟨rfl, hk⟩; have HK5 := Aside0.mk (HK4.out.trans hk (fun _ q => q.elim)); clear hk))
  go_loopw [7] (fun i wr => ∃ k : Nat, k ≤ X.size ∧ i = .int .i64 k ∧ wr = w5) (fun i _ => X.size - (intOf i).toNat)
  case atStart => exact ⟨0, Nat.zero_le _, rfl, rfl⟩
  case round =>
    obtain ⟨k, hk, rfl, rfl⟩ := hrel
    by_cases hlt : k < X.size
    · have hlt1 : (k : Int) < (X.size : Int) := by omega
      have hlt2 : decide (k < X.size) = true := decide_eq_true hlt
      obtain ⟨x, hx0⟩ : ∃ x : Int, ((X[k]'hlt).toNat : Int) = x := ⟨_, rfl⟩
      have hx : 32 ≤ x := HBIG.out x (by
        have h1 := bnums_drop X k hlt
        rw [hx0] at h1
        have h2 : x ∈ (bnums X).drop k := by rw [h1]; simp
        rw [HQN.out] at h2
        exact List.mem_of_mem_drop h2)
      have hidx : (Instr.index 9 (.string X) (.int .i64 (k : Int))).run Try.prog = fun w => .ok (.int .u8 x) w := by
        funext w
        rw [run_index_string w _ _ _ _ Try.underlying9, dif_pos ⟨by omega, hlt1⟩]
        simp only [Int.toNat_natCast, hx0]
      have tx : decide (x < 32) = false := decide_eq_false (by omega)
      have HX0 := Aside0.mk hx0
      clear hx0
      go_wp2
      go_roundw
      case rel => exact ⟨k + 1, by omega, by go_num, by first | rfl | trivial⟩
      case measure => simp [intOf]; omega
    · have hlt2 : decide (k < X.size) = false := decide_eq_false hlt
      go_wp2_with (first
        | (go_at_call 16; refine (HLE.out _).mono ?_; rintro e w6 ⟨rfl, hk⟩; have HK6 := Aside0.mk (HK5.out.trans hk (fun _ q => q.elim)); clear hk)
        | (go_at_call 10; refine (awake_any _).mono ?_; rintro e w7 ⟨rfl, hk⟩; have HK7 := Aside0.mk (HK6.out.trans hk (fun _ q => q.elim)); clear hk))
      go_ret
      exact ⟨rfl, HK7.out.below (fun _ q => q.elim) (Nat.le_refl _)⟩
set_option maxHeartbeats 4000000 in
set_option maxRecDepth 100000 in
theorem qscal_set (n c : Int) (w : World) (hc : orthoepylaw00_Rune.f n = some c) (hs : isScal c = true) (h : 8 ≤ c ∧ c ≤ 13 ∧ c ≠ 11) :
    Calls Try.prog 8 #[.int .i64 n] w fun e w' => e = .returned (.bool true) ∧ Below w.heap.size w w' := by
  have hsc : 0 ≤ c ∧ c ≤ 1114111 := by
    have := hs
    simp only [isScal, decide_eq_true_eq] at this
    omega
  have HC := Aside0.mk hc
  have his := ris_val c
  rw [hs] at his
  have HIS := Aside0.mk his
  have hbv := rbytes_val c (by omega) (by omega)
  have hel := enc_len c hs
  have hey := (encV_byt c).1
  have hbn := bnums_nums (encV c) hey
  have hfl : ((encV c).flatMap qB).length = 2 := by
    have he : encV c = [c] := by unfold encV; rw [if_pos hs, if_pos (by omega)]
    rw [he, List.flatMap_cons, List.flatMap_nil, List.append_nil]
    have key : c = 8 ∨ c = 9 ∨ c = 10 ∨ c = 12 ∨ c = 13 := by omega
    rcases key with e | e | e | e | e <;> (rw [e]; rfl)
  obtain ⟨L, hL⟩ : ∃ L, encV c = L := ⟨_, rfl⟩
  rw [hL] at hbv hel hey hbn hfl
  obtain ⟨T, hT⟩ : ∃ T, strOfNums L = T := ⟨_, rfl⟩
  rw [hT] at hbn
  have hTs : T.size = L.length := by rw [← hT, str_size]
  have hTl : 1 ≤ T.size ∧ T.size ≤ 4 := by omega
  have hq := fun W => quote_any T W (by omega)
  have hle := fun W => len_any T W (by omega)
  rw [hbn] at hq hle
  simp only [← size_quote] at hle
  have hqby : Byt (quoteL L) := byt_app (byt_app (byt_nums rfl) (flat_byt hey)) (byt_nums rfl)
  have hbig := quote_big L hey
  have hqn := bnums_nums (quoteL L) hqby
  have hqz := quote_len L
  obtain ⟨X, hX⟩ : ∃ X, strOfNums (quoteL L) = X := ⟨_, rfl⟩
  have e34 : quoteL L = 34 :: (L.flatMap qB ++ [34]) := rfl
  have e43 : quoteL L = (34 :: L.flatMap qB) ++ [34] := rfl
  have hi0 := quote_first X (L.flatMap qB ++ [34]) (e34 ▸ hqby) (e34 ▸ hX)
  have hi1 := quote_last X (34 :: L.flatMap qB) (e43 ▸ hqby) (e43 ▸ hX)
  simp only [hX] at hq hle
  rw [hX] at hqn hqz
  have hXl : 2 ≤ X.size ∧ X.size ≤ 26 := by have := flat_len L; omega
  have HQ := Aside0.mk hq
  have HLE := Aside0.mk hle
  have HB := Aside0.mk hbv
  have HS := Aside0.mk hT
  have HBIG := Aside0.mk hbig
  have HQN := Aside0.mk hqn
  have tz : ((X.size : Int) == 4) = true := beq_iff_eq.mpr (by omega)
  have ta : decide (c < 32) = true := decide_eq_true (by omega)
  have tb : decide (8 ≤ c) = true := decide_eq_true (by omega)
  have td : decide (c ≤ 13) = true := decide_eq_true (by omega)
  have te : (c != 11) = true := bne_t (by omega)
  have te2 : (c == 11) = false := beq_f (by omega)
  clear hc hs his hbv hel hey hbn hL hT hq hle hqby hbig hqn hX hfl hqz hTs e34 e43 h
  go_enter Try.func8, Try.ntmps8
  go_wp2_with (first
    | (go_at_call 22; refine (orthoepylaw00_Rune.calls n c _ HC.out).mono ?_; rintro e w1 ⟨rfl, hd⟩; obtain ⟨n1, hd⟩ := hd.out; subst hd)
    | (go_at_call 23; refine (orthoepyref01_Is.calls c true _ HIS.out).mono ?_; rintro e w2 ⟨rfl, hd⟩; obtain ⟨n2, hd⟩ := hd.out; subst hd)
    | (go_at_call 24; refine (orthoepyref02_Bytes.calls c L _ HB.out).mono ?_; rintro e w4 ⟨v1, rfl, hr1, hB1⟩; obtain ⟨B1, d1, e1⟩ := Kd.R_slice hr1; subst e1; have hcv := Kd.C_string (P := Try.prog) (c := d1) Try.underlying32 Try.underlying5 Try.underlying9 (Kd.R_reads' hr1).2.2; rw [HS.out] at hcv; have HK4 := Aside0.mk (((Keeps.refl (fun _ => False) w).drewN _).below_ hB1); clear hr1 hB1)
    | (go_at_call 15; refine (HQ.out _).mono ?_; rintro e w5 ⟨rfl, hk⟩; have HK5 := Aside0.mk (HK4.out.trans hk (fun _ q => q.elim)); clear hk))
  go_loopw [7] (fun i wr => ∃ k : Nat, k ≤ X.size ∧ i = .int .i64 k ∧ wr = w5) (fun i _ => X.size - (intOf i).toNat)
  case atStart => exact ⟨0, Nat.zero_le _, rfl, rfl⟩
  case round =>
    obtain ⟨k, hk, rfl, rfl⟩ := hrel
    by_cases hlt : k < X.size
    · have hlt1 : (k : Int) < (X.size : Int) := by omega
      have hlt2 : decide (k < X.size) = true := decide_eq_true hlt
      obtain ⟨x, hx0⟩ : ∃ x : Int, ((X[k]'hlt).toNat : Int) = x := ⟨_, rfl⟩
      have hx : 32 ≤ x := HBIG.out x (by
        have h1 := bnums_drop X k hlt
        rw [hx0] at h1
        have h2 : x ∈ (bnums X).drop k := by rw [h1]; simp
        rw [HQN.out] at h2
        exact List.mem_of_mem_drop h2)
      have hidx : (Instr.index 9 (.string X) (.int .i64 (k : Int))).run Try.prog = fun w => .ok (.int .u8 x) w := by
        funext w
        rw [run_index_string w _ _ _ _ Try.underlying9, dif_pos ⟨by omega, hlt1⟩]
        simp only [Int.toNat_natCast, hx0]
      have tx : decide (x < 32) = false := decide_eq_false (by omega)
      have HX0 := Aside0.mk hx0
      clear hx0
      go_wp2
      go_roundw
      case rel => exact ⟨k + 1, by omega, by go_num, by first | rfl | trivial⟩
      case measure => simp [intOf]; omega
    · have hlt2 : decide (k < X.size) = false := decide_eq_false hlt
      go_wp2_with (first
        | (go_at_call 16; refine (HLE.out _).mono ?_; rintro e w6 ⟨rfl, hk⟩; have HK6 := Aside0.mk (HK5.out.trans hk (fun _ q => q.elim)); clear hk)
        | (go_at_call 10; refine (awake_any _).mono ?_; rintro e w7 ⟨rfl, hk⟩; have HK7 := Aside0.mk (HK6.out.trans hk (fun _ q => q.elim)); clear hk))
      go_ret
      exact ⟨rfl, HK7.out.below (fun _ q => q.elim) (Nat.le_refl _)⟩
set_option maxHeartbeats 4000000 in
set_option maxRecDepth 100000 in
theorem qscal_quote (n c : Int) (w : World) (hc : orthoepylaw00_Rune.f n = some c) (hs : isScal c = true) (h : c = 34) :
    Calls Try.prog 8 #[.int .i64 n] w fun e w' => e = .returned (.bool true) ∧ Below w.heap.size w w' := by
  have hsc : 0 ≤ c ∧ c ≤ 1114111 := by
    have := hs
    simp only [isScal, decide_eq_true_eq] at this
    omega
  have HC := Aside0.mk hc
  have his := ris_val c
  rw [hs] at his
  have HIS := Aside0.mk his
  have hbv := rbytes_val c (by omega) (by omega)
  have hel := enc_len c hs
  have hey := (encV_byt c).1
  have hbn := bnums_nums (encV c) hey
  have hfl : ((encV c).flatMap qB).length = 2 := by
    have he : encV c = [c] := by unfold encV; rw [if_pos hs, if_pos (by omega)]
    rw [he, List.flatMap_cons, List.flatMap_nil, List.append_nil]
    rw [h]; rfl
  obtain ⟨L, hL⟩ : ∃ L, encV c = L := ⟨_, rfl⟩
  rw [hL] at hbv hel hey hbn hfl
  obtain ⟨T, hT⟩ : ∃ T, strOfNums L = T := ⟨_, rfl⟩
  rw [hT] at hbn
  have hTs : T.size = L.length := by rw [← hT, str_size]
  have hTl : 1 ≤ T.size ∧ T.size ≤ 4 := by omega
  have hq := fun W => quote_any T W (by omega)
  have hle := fun W => len_any T W (by omega)
  rw [hbn] at hq hle
  simp only [← size_quote] at hle
  have hqby : Byt (quoteL L) := byt_app (byt_app (byt_nums rfl) (flat_byt hey)) (byt_nums rfl)
  have hbig := quote_big L hey
  have hqn := bnums_nums (quoteL L) hqby
  have hqz := quote_len L
  obtain ⟨X, hX⟩ : ∃ X, strOfNums (quoteL L) = X := ⟨_, rfl⟩
  have e34 : quoteL L = 34 :: (L.flatMap qB ++ [34]) := rfl
  have e43 : quoteL L = (34 :: L.flatMap qB) ++ [34] := rfl
  have hi0 := quote_first X (L.flatMap qB ++ [34]) (e34 ▸ hqby) (e34 ▸ hX)
  have hi1 := quote_last X (34 :: L.flatMap qB) (e43 ▸ hqby) (e43 ▸ hX)
  simp only [hX] at hq hle
  rw [hX] at hqn hqz
  have hXl : 2 ≤ X.size ∧ X.size ≤ 26 := by have := flat_len L; omega
  have HQ := Aside0.mk hq
  have HLE := Aside0.mk hle
  have HB := Aside0.mk hbv
  have HS := Aside0.mk hT
  have HBIG := Aside0.mk hbig
  have HQN := Aside0.mk hqn
  have tz : ((X.size : Int) == 4) = true := beq_iff_eq.mpr (by omega)
  have ta : decide (c < 32) = false := decide_eq_false (by omega)
  have tb : decide (8 ≤ c) = true := decide_eq_true (by omega)
  have td : decide (c ≤ 13) = false := decide_eq_false (by omega)
  have tq : (c == 34) = true := beq_iff_eq.mpr (by omega)
  clear hc hs his hbv hel hey hbn hL hT hq hle hqby hbig hqn hX hfl hqz hTs e34 e43 h
  go_enter Try.func8, Try.ntmps8
  go_wp2_with (first
    | (go_at_call 22; refine (orthoepylaw00_Rune.calls n c _ HC.out).mono ?_; rintro e w1 ⟨rfl, hd⟩; obtain ⟨n1, hd⟩ := hd.out; subst hd)
    | (go_at_call 23; refine (orthoepyref01_Is.calls c true _ HIS.out).mono ?_; rintro e w2 ⟨rfl, hd⟩; obtain ⟨n2, hd⟩ := hd.out; subst hd)
    | (go_at_call 24; refine (orthoepyref02_Bytes.calls c L _ HB.out).mono ?_; rintro e w4 ⟨v1, rfl, hr1, hB1⟩; obtain ⟨B1, d1, e1⟩ := Kd.R_slice hr1; subst e1; have hcv := Kd.C_string (P := Try.prog) (c := d1) Try.underlying32 Try.underlying5 Try.underlying9 (Kd.R_reads' hr1).2.2; rw [HS.out] at hcv; have HK4 := Aside0.mk (((Keeps.refl (fun _ => False) w).drewN _).below_ hB1); clear hr1 hB1)
    | (go_at_call 15; refine (HQ.out _).mono ?_; rintro e w5 ⟨rfl, hk⟩; have HK5 := Aside0.mk (HK4.out.trans hk (fun _ q => q.elim)); clear hk))
  go_loopw [7] (fun i wr => ∃ k : Nat, k ≤ X.size ∧ i = .int .i64 k ∧ wr = w5) (fun i _ => X.size - (intOf i).toNat)
  case atStart => exact ⟨0, Nat.zero_le _, rfl, rfl⟩
  case round =>
    obtain ⟨k, hk, rfl, rfl⟩ := hrel
    by_cases hlt : k < X.size
    · have hlt1 : (k : Int) < (X.size : Int) := by omega
      have hlt2 : decide (k < X.size) = true := decide_eq_true hlt
      obtain ⟨x, hx0⟩ : ∃ x : Int, ((X[k]'hlt).toNat : Int) = x := ⟨_, rfl⟩
      have hx : 32 ≤ x := HBIG.out x (by
        have h1 := bnums_drop X k hlt
        rw [hx0] at h1
        have h2 : x ∈ (bnums X).drop k := by rw [h1]; simp
        rw [HQN.out] at h2
        exact List.mem_of_mem_drop h2)
      have hidx : (Instr.index 9 (.string X) (.int .i64 (k : Int))).run Try.prog = fun w => .ok (.int .u8 x) w := by
        funext w
        rw [run_index_string w _ _ _ _ Try.underlying9, dif_pos ⟨by omega, hlt1⟩]
        simp only [Int.toNat_natCast, hx0]
      have tx : decide (x < 32) = false := decide_eq_false (by omega)
      have HX0 := Aside0.mk hx0
      clear hx0
      go_wp2
      go_roundw
      case rel => exact ⟨k + 1, by omega, by go_num, by first | rfl | trivial⟩
      case measure => simp [intOf]; omega
    · have hlt2 : decide (k < X.size) = false := decide_eq_false hlt
      go_wp2_with (first
        | (go_at_call 16; refine (HLE.out _).mono ?_; rintro e w6 ⟨rfl, hk⟩; have HK6 := Aside0.mk (HK5.out.trans hk (fun _ q => q.elim)); clear hk)
        | (go_at_call 10; refine (awake_any _).mono ?_; rintro e w7 ⟨rfl, hk⟩; have HK7 := Aside0.mk (HK6.out.trans hk (fun _ q => q.elim)); clear hk))
      go_ret
      exact ⟨rfl, HK7.out.below (fun _ q => q.elim) (Nat.le_refl _)⟩
set_option maxHeartbeats 4000000 in
set_option maxRecDepth 100000 in
theorem qscal_sign (n c : Int) (w : World) (hc : orthoepylaw00_Rune.f n = some c) (hs : isScal c = true) (h : c = 92) :
    Calls Try.prog 8 #[.int .i64 n] w fun e w' => e = .returned (.bool true) ∧ Below w.heap.size w w' := by
  have hsc : 0 ≤ c ∧ c ≤ 1114111 := by
    have := hs
    simp only [isScal, decide_eq_true_eq] at this
    omega
  have HC := Aside0.mk hc
  have his := ris_val c
  rw [hs] at his
  have HIS := Aside0.mk his
  have hbv := rbytes_val c (by omega) (by omega)
  have hel := enc_len c hs
  have hey := (encV_byt c).1
  have hbn := bnums_nums (encV c) hey
  have hfl : ((encV c).flatMap qB).length = 2 := by
    have he : encV c = [c] := by unfold encV; rw [if_pos hs, if_pos (by omega)]
    rw [he, List.flatMap_cons, List.flatMap_nil, List.append_nil]
    rw [h]; rfl
  obtain ⟨L, hL⟩ : ∃ L, encV c = L := ⟨_, rfl⟩
  rw [hL] at hbv hel hey hbn hfl
  obtain ⟨T, hT⟩ : ∃ T, strOfNums L = T := ⟨_, rfl⟩
  rw [hT] at hbn
  have hTs : T.size = L.length := by rw [← hT, str_size]
  have hTl : 1 ≤ T.size ∧ T.size ≤ 4 := by omega
  have hq := fun W => quote_any T W (by omega)
  have hle := fun W => len_any T W (by omega)
  rw [hbn] at hq hle
  simp only [← size_quote] at hle
  have hqby : Byt (quoteL L) := byt_app (byt_app (byt_nums rfl) (flat_byt hey)) (byt_nums rfl)
  have hbig := quote_big L hey
  have hqn := bnums_nums (quoteL L) hqby
  have hqz := quote_len L
  obtain ⟨X, hX⟩ : ∃ X, strOfNums (quoteL L) = X := ⟨_, rfl⟩
  have e34 : quoteL L = 34 :: (L.flatMap qB ++ [34]) := rfl
  have e43 : quoteL L = (34 :: L.flatMap qB) ++ [34] := rfl
  have hi0 := quote_first X (L.flatMap qB ++ [34]) (e34 ▸ hqby) (e34 ▸ hX)
  have hi1 := quote_last X (34 :: L.flatMap qB) (e43 ▸ hqby) (e43 ▸ hX)
  simp only [hX] at hq hle
  rw [hX] at hqn hqz
  have hXl : 2 ≤ X.size ∧ X.size ≤ 26 := by have := flat_len L; omega
  have HQ := Aside0.mk hq
  have HLE := Aside0.mk hle
  have HB := Aside0.mk hbv
  have HS := Aside0.mk hT
  have HBIG := Aside0.mk hbig
  have HQN := Aside0.mk hqn
  have tz : ((X.size : Int) == 4) = true := beq_iff_eq.mpr (by omega)
  have ta : decide (c < 32) = false := decide_eq_false (by omega)
  have tb : decide (8 ≤ c) = true := decide_eq_true (by omega)
  have td : decide (c ≤ 13) = false := decide_eq_false (by omega)
  have tq : (c == 34) = false := beq_f (by omega)
  have ts : (c == 92) = true := beq_iff_eq.mpr (by omega)
  clear hc hs his hbv hel hey hbn hL hT hq hle hqby hbig hqn hX hfl hqz hTs e34 e43 h
  go_enter Try.func8, Try.ntmps8
  go_wp2_with (first
    | (go_at_call 22; refine (orthoepylaw00_Rune.calls n c _ HC.out).mono ?_; rintro e w1 ⟨rfl, hd⟩; obtain ⟨n1, hd⟩ := hd.out; subst hd)
    | (go_at_call 23; refine (orthoepyref01_Is.calls c true _ HIS.out).mono ?_; rintro e w2 ⟨rfl, hd⟩; obtain ⟨n2, hd⟩ := hd.out; subst hd)
    | (go_at_call 24; refine (orthoepyref02_Bytes.calls c L _ HB.out).mono ?_; rintro e w4 ⟨v1, rfl, hr1, hB1⟩; obtain ⟨B1, d1, e1⟩ := Kd.R_slice hr1; subst e1; have hcv := Kd.C_string (P := Try.prog) (c := d1) Try.underlying32 Try.underlying5 Try.underlying9 (Kd.R_reads' hr1).2.2; rw [HS.out] at hcv; have HK4 := Aside0.mk (((Keeps.refl (fun _ => False) w).drewN _).below_ hB1); clear hr1 hB1)
    | (go_at_call 15; refine (HQ.out _).mono ?_; rintro e w5 ⟨rfl, hk⟩; have HK5 := Aside0.mk (HK4.out.trans hk (fun _ q => q.elim)); clear hk))
  go_loopw [7] (fun i wr => ∃ k : Nat, k ≤ X.size ∧ i = .int .i64 k ∧ wr = w5) (fun i _ => X.size - (intOf i).toNat)
  case atStart => exact ⟨0, Nat.zero_le _, rfl, rfl⟩
  case round =>
    obtain ⟨k, hk, rfl, rfl⟩ := hrel
    by_cases hlt : k < X.size
    · have hlt1 : (k : Int) < (X.size : Int) := by omega
      have hlt2 : decide (k < X.size) = true := decide_eq_true hlt
      obtain ⟨x, hx0⟩ : ∃ x : Int, ((X[k]'hlt).toNat : Int) = x := ⟨_, rfl⟩
      have hx : 32 ≤ x := HBIG.out x (by
        have h1 := bnums_drop X k hlt
        rw [hx0] at h1
        have h2 : x ∈ (bnums X).drop k := by rw [h1]; simp
        rw [HQN.out] at h2
        exact List.mem_of_mem_drop h2)
      have hidx : (Instr.index 9 (.string X) (.int .i64 (k : Int))).run Try.prog = fun w => .ok (.int .u8 x) w := by
        funext w
        rw [run_index_string w _ _ _ _ Try.underlying9, dif_pos ⟨by omega, hlt1⟩]
        simp only [Int.toNat_natCast, hx0]
      have tx : decide (x < 32) = false := decide_eq_false (by omega)
      have HX0 := Aside0.mk hx0
      clear hx0
      go_wp2
      go_roundw
      case rel => exact ⟨k + 1, by omega, by go_num, by first | rfl | trivial⟩
      case measure => simp [intOf]; omega
    · have hlt2 : decide (k < X.size) = false := decide_eq_false hlt
      go_wp2_with (first
        | (go_at_call 16; refine (HLE.out _).mono ?_; rintro e w6 ⟨rfl, hk⟩; have HK6 := Aside0.mk (HK5.out.trans hk (fun _ q => q.elim)); clear hk)
        | (go_at_call 10; refine (awake_any _).mono ?_; rintro e w7 ⟨rfl, hk⟩; have HK7 := Aside0.mk (HK6.out.trans hk (fun _ q => q.elim)); clear hk))
      go_ret
      exact ⟨rfl, HK7.out.below (fun _ q => q.elim) (Nat.le_refl _)⟩
set_option maxHeartbeats 4000000 in
set_option maxRecDepth 100000 in
theorem qscal_rest (n c : Int) (w : World) (hc : orthoepylaw00_Rune.f n = some c) (hs : isScal c = true) (h : 32 ≤ c ∧ c ≠ 34 ∧ c ≠ 92) :
    Calls Try.prog 8 #[.int .i64 n] w fun e w' => e = .returned (.bool true) ∧ Below w.heap.size w w' := by
  have hsc : 0 ≤ c ∧ c ≤ 1114111 := by
    have := hs
    simp only [isScal, decide_eq_true_eq] at this
    omega
  have HC := Aside0.mk hc
  have his := ris_val c
  rw [hs] at his
  have HIS := Aside0.mk his
  have hbv := rbytes_val c (by omega) (by omega)
  have hel := enc_len c hs
  have hey := (encV_byt c).1
  have hbn := bnums_nums (encV c) hey
  have hfl : ((encV c).flatMap qB).length = (encV c).length := by
    by_cases h128 : c < 128
    · have he : encV c = [c] := by unfold encV; rw [if_pos hs, if_pos h128]
      rw [he, List.flatMap_cons, List.flatMap_nil, List.append_nil]
      unfold qB
      rw [if_neg (by omega), if_neg (by omega)]
    · rw [flat_high _ (enc_high c hs (by omega))]
  obtain ⟨L, hL⟩ : ∃ L, encV c = L := ⟨_, rfl⟩
  rw [hL] at hbv hel hey hbn hfl
  obtain ⟨T, hT⟩ : ∃ T, strOfNums L = T := ⟨_, rfl⟩
  rw [hT] at hbn
  have hTs : T.size = L.length := by rw [← hT, str_size]
  have hTl : 1 ≤ T.size ∧ T.size ≤ 4 := by omega
  have hq := fun W => quote_any T W (by omega)
  have hle := fun W => len_any T W (by omega)
  rw [hbn] at hq hle
  simp only [← size_quote] at hle
  have hqby : Byt (quoteL L) := byt_app (byt_app (byt_nums rfl) (flat_byt hey)) (byt_nums rfl)
  have hbig := quote_big L hey
  have hqn := bnums_nums (quoteL L) hqby
  have hqz := quote_len L
  obtain ⟨X, hX⟩ : ∃ X, strOfNums (quoteL L) = X := ⟨_, rfl⟩
  have e34 : quoteL L = 34 :: (L.flatMap qB ++ [34]) := rfl
  have e43 : quoteL L = (34 :: L.flatMap qB) ++ [34] := rfl
  have hi0 := quote_first X (L.flatMap qB ++ [34]) (e34 ▸ hqby) (e34 ▸ hX)
  have hi1 := quote_last X (34 :: L.flatMap qB) (e43 ▸ hqby) (e43 ▸ hX)
  simp only [hX] at hq hle
  rw [hX] at hqn hqz
  have hXl : 2 ≤ X.size ∧ X.size ≤ 26 := by have := flat_len L; omega
  have HQ := Aside0.mk hq
  have HLE := Aside0.mk hle
  have HB := Aside0.mk hbv
  have HS := Aside0.mk hT
  have HBIG := Aside0.mk hbig
  have HQN := Aside0.mk hqn
  have tz : ((X.size : Int) == (T.size : Int) + 2) = true := beq_iff_eq.mpr (by omega)
  have tz2 : (X.size == T.size + 2) = true := beq_iff_eq.mpr (by omega)
  have ta : decide (c < 32) = false := decide_eq_false (by omega)
  have tb : decide (8 ≤ c) = true := decide_eq_true (by omega)
  have td : decide (c ≤ 13) = false := decide_eq_false (by omega)
  have tq : (c == 34) = false := beq_f (by omega)
  have ts : (c == 92) = false := beq_f (by omega)
  clear hc hs his hbv hel hey hbn hL hT hq hle hqby hbig hqn hX hfl hqz hTs e34 e43 h
  go_enter Try.func8, Try.ntmps8
  go_wp2_with (first
    | (go_at_call 22; refine (orthoepylaw00_Rune.calls n c _ HC.out).mono ?_; rintro e w1 ⟨rfl, hd⟩; obtain ⟨n1, hd⟩ := hd.out; subst hd)
    | (go_at_call 23; refine (orthoepyref01_Is.calls c true _ HIS.out).mono ?_; rintro e w2 ⟨rfl, hd⟩; obtain ⟨n2, hd⟩ := hd.out; subst hd)
    | (go_at_call 24; refine (orthoepyref02_Bytes.calls c L _ HB.out).mono ?_; rintro e w4 ⟨v1, rfl, hr1, hB1⟩; obtain ⟨B1, d1, e1⟩ := Kd.R_slice hr1; subst e1; have hcv := Kd.C_string (P := Try.prog) (c := d1) Try.underlying32 Try.underlying5 Try.underlying9 (Kd.R_reads' hr1).2.2; rw [HS.out] at hcv; have HK4 := Aside0.mk (((Keeps.refl (fun _ => False) w).drewN _).below_ hB1); clear hr1 hB1)
    | (go_at_call 15; refine (HQ.out _).mono ?_; rintro e w5 ⟨rfl, hk⟩; have HK5 := Aside0.mk (HK4.out.trans hk (fun _ q => q.elim)); clear hk))
  go_loopw [7] (fun i wr => ∃ k : Nat, k ≤ X.size ∧ i = .int .i64 k ∧ wr = w5) (fun i _ => X.size - (intOf i).toNat)
  case atStart => exact ⟨0, Nat.zero_le _, rfl, rfl⟩
  case round =>
    obtain ⟨k, hk, rfl, rfl⟩ := hrel
    by_cases hlt : k < X.size
    · have hlt1 : (k : Int) < (X.size : Int) := by omega
      have hlt2 : decide (k < X.size) = true := decide_eq_true hlt
      obtain ⟨x, hx0⟩ : ∃ x : Int, ((X[k]'hlt).toNat : Int) = x := ⟨_, rfl⟩
      have hx : 32 ≤ x := HBIG.out x (by
        have h1 := bnums_drop X k hlt
        rw [hx0] at h1
        have h2 : x ∈ (bnums X).drop k := by rw [h1]; simp
        rw [HQN.out] at h2
        exact List.mem_of_mem_drop h2)
      have hidx : (Instr.index 9 (.string X) (.int .i64 (k : Int))).run Try.prog = fun w => .ok (.int .u8 x) w := by
        funext w
        rw [run_index_string w _ _ _ _ Try.underlying9, dif_pos ⟨by omega, hlt1⟩]
        simp only [Int.toNat_natCast, hx0]
      have tx : decide (x < 32) = false := decide_eq_false (by omega)
      have HX0 := Aside0.mk hx0
      clear hx0
      go_wp2
      go_roundw
      case rel => exact ⟨k + 1, by omega, by go_num, by first | rfl | trivial⟩
      case measure => simp [intOf]; omega
    · have hlt2 : decide (k < X.size) = false := decide_eq_false hlt
      go_wp2_with (first
        | (go_at_call 16; refine (HLE.out _).mono ?_; rintro e w6 ⟨rfl, hk⟩; have HK6 := Aside0.mk (HK5.out.trans hk (fun _ q => q.elim)); clear hk)
        | (go_at_call 10; refine (awake_any _).mono ?_; rintro e w7 ⟨rfl, hk⟩; have HK7 := Aside0.mk (HK6.out.trans hk (fun _ q => q.elim)); clear hk))
      go_ret
      exact ⟨rfl, HK7.out.below (fun _ q => q.elim) (Nat.le_refl _)⟩
theorem orthoepylaw22_QuoteScalars.walk (a0 : Int) (w : World) (w0 : (Lit.int .i64 a0).wf = true) :
    Calls Try.prog 8 #[.int .i64 a0] w fun e w' => e = .returned (.bool true) ∧ Below w.heap.size w w' := by
  obtain ⟨c, hc, h0, _⟩ := rune_val a0
  cases hs : isScal c with
  | false => exact qscal_none a0 c w hc hs
  | true =>
    by_cases h1 : c < 8
    · exact qscal_lo a0 c w hc hs h1
    by_cases h2 : c = 11
    · exact qscal_vt a0 c w hc hs h2
    by_cases h3 : c ≤ 13
    · exact qscal_set a0 c w hc hs ⟨by omega, h3, h2⟩
    by_cases h4 : c < 32
    · exact qscal_mid a0 c w hc hs ⟨by omega, h4⟩
    by_cases h5 : c = 34
    · exact qscal_quote a0 c w hc hs h5
    by_cases h6 : c = 92
    · exact qscal_sign a0 c w hc hs h6
    exact qscal_rest a0 c w hc hs ⟨by omega, h5, h6⟩

end Go.Proofs.Ytkpeblpgfngjcaa.Pure
