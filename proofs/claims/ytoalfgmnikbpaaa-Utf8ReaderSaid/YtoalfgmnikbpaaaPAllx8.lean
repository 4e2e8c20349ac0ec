-- The machine's side of laws, written by a program of this session (wip/gen/pp.sh). Lean checks it.
import Derived.Test.YtoalfgmnikbpaaaPAllx0
import Derived.Test.YtoalfgmnikbpaaaPAllx6
namespace Go.Proofs.Ytoalfgmnikbpaaa.PAll
open Go.RowKit Go.Proofs.YtoalfgmnikbpaaaW.PrintWords Go.Proofs.YtoalfgmnikbpaaaW.PrintLast Go.Proofs.YtoalfgmnikbpaaaW.PrintMore
attribute [local go_sem] max2_int min2_int max_two min_two max_three min_three max_four min_four   -- for this text's walks alone
set_option linter.unusedVariables false
set_option linter.unusedSimpArgs false

/-! ### orthoepylaw00_Place: function 31 -/
def orthoepylaw00_Place.f (a0 : Int) (a1 : Int) : Option (Int) := if a1 = 0 then (none) else (if (Int.tmod a0 a1) < 0 then (some (wrap64 ((Int.tmod a0 a1) + a1))) else (some (Int.tmod a0 a1)))
set_option maxHeartbeats 8000000 in
set_option maxRecDepth 100000 in
theorem orthoepylaw00_Place.calls (a0 : Int) (a1 : Int) (r : Int) (w : World) (h : orthoepylaw00_Place.f a0 a1 = some r) :
    Calls Try.prog 31 #[.int .i64 a0, .int .i64 a1] w fun e w' => e = .returned (.int .i64 r) ∧ Drawn0 w w' := by
  have H : (if a1 = 0 then (none) else (if (Int.tmod a0 a1) < 0 then (some (wrap64 ((Int.tmod a0 a1) + a1))) else (some (Int.tmod a0 a1)))) = some r := h
  clear h
  by_cases c3 : a1 = 0
  · rw [if_pos c3] at H
    exact absurd H (by simp)
  · rw [if_neg c3] at H
    have c3b0 : (a1 == 0) = false := beq_eq_false_iff_ne.mpr c3
    have c3b1 : (a1 != 0) = true := bne_iff_ne.mpr c3
    by_cases c4 : (Int.tmod a0 a1) < 0
    · rw [if_pos c4] at H
      have c4b0 : decide ((Int.tmod a0 a1) < 0) = true := decide_eq_true c4
      clear c4
      obtain rfl := Option.some.inj H
      go_enter Try.func31, Try.ntmps31
      go_wp2
      go_ret
      exact ⟨by first | rfl | (simp; done) | (simp [*]; done), by repeat (first | exact Drawn0.refl _ | apply Drawn0.step)⟩
    · rw [if_neg c4] at H
      have c4b0 : decide ((Int.tmod a0 a1) < 0) = false := decide_eq_false c4
      clear c4
      obtain rfl := Option.some.inj H
      go_enter Try.func31, Try.ntmps31
      go_wp2
      go_ret
      exact ⟨by first | rfl | (simp; done) | (simp [*]; done), by repeat (first | exact Drawn0.refl _ | apply Drawn0.step)⟩

/-! ### orthoepylaw00_Rune: function 24 -/
theorem run_index_arr {P : Program} (w : World) (T e n : Nat) (cs : Array Value) (k ke : IntKind) (i : Int) (c : Value) (h : P.underlying T = some (.array n e)) (he : P.underlying e = some (.int ke)) (hs : (P.info? e).map (·.size) = some 1)
    (h0 : 0 ≤ i) (h1 : i < n) (hc : cs[i.toNat]? = some c) : (Instr.index T (.agg cs) (.int k i)).run P w = .ok c w := by
  obtain ⟨inf, hi, hs⟩ := Option.map_eq_some_iff.1 hs
  simp [Instr.index, run_underlying h, asIntOf, h0, h1, part, isAgg, run_underlying he, sizeOf, typeInfo, hi, hs, go_sem]
  rw [hc]
  rfl
theorem wpList_build_is {P : Program} {ops : Array Oper} {rest : List Oper} {o : Oper} {a : Act} {Q : Exit → Act → World → Prop} {W : World} (hg : o.guard = none) (t : TypeId) (parts : Array (Nat × Operand)) (ho : o.op = .build t parts) (cells : Array Value)
    (hf : P.built t (parts.map fun (i, x) => (i, a.eval x)).toList = some cells) (h : wpList P ops Q rest (a.put o.dst (.agg cells)) W) : wpList P ops Q (o :: rest) a W :=
  wpList_build hg t parts ho (by rw [hf]; rfl) (by rw [hf]; exact h)
theorem gate_build {P : Program} {ops : Array Oper} {rest : List Oper} {o : Oper} {a : Act} {Q : Exit → Act → World → Prop} {W : World} {t : TypeId} {xs : Array (Nat × Operand)} (_ho : o.op = .build t xs) (h : wpList P ops Q (o :: rest) a W) : wpList P ops Q (o :: rest) a W := h
def runeTab12 : List Int := [65, 69, 79, 97, 101, 111, 2325, 2344, 4352, 4370, 12363, 2503]
theorem runeTab12_at (i : Int) (h0 : 0 ≤ i) (h1 : i < 12) : (#[.int .i32 65, .int .i32 69, .int .i32 79, .int .i32 97, .int .i32 101, .int .i32 111, .int .i32 2325, .int .i32 2344, .int .i32 4352, .int .i32 4370, .int .i32 12363, .int .i32 2503] : Array Value)[i.toNat]? = some (.int .i32 (runeTab12.getD i.toNat 0)) := by
  obtain ⟨j, rfl⟩ := Int.eq_ofNat_of_zero_le h0
  have hj : j < 12 := by omega
  simp only [Int.toNat_natCast]
  match j, hj with
  | 0, _ => rfl
  | 1, _ => rfl
  | 2, _ => rfl
  | 3, _ => rfl
  | 4, _ => rfl
  | 5, _ => rfl
  | 6, _ => rfl
  | 7, _ => rfl
  | 8, _ => rfl
  | 9, _ => rfl
  | 10, _ => rfl
  | 11, _ => rfl
  | q + 12, h => exact absurd h (by omega)
theorem runeTab12_bound (j : Nat) : 0 ≤ runeTab12.getD j 0 ∧ runeTab12.getD j 0 ≤ 1114111 := by
  have h : ∀ x ∈ runeTab12, 0 ≤ x ∧ x ≤ 1114111 := by decide
  rw [List.getD_eq_getElem?_getD]
  cases hj : runeTab12[j]? with
  | none => simp
  | some x => exact h x (List.mem_of_getElem? hj)
def runeTab24 : List Int := [768, 769, 770, 771, 772, 774, 775, 776, 778, 780, 803, 807, 808, 795, 837, 820, 2364, 12441, 12442, 1456, 1460, 824, 834, 2494]
theorem runeTab24_at (i : Int) (h0 : 0 ≤ i) (h1 : i < 24) : (#[.int .i32 768, .int .i32 769, .int .i32 770, .int .i32 771, .int .i32 772, .int .i32 774, .int .i32 775, .int .i32 776, .int .i32 778, .int .i32 780, .int .i32 803, .int .i32 807, .int .i32 808, .int .i32 795, .int .i32 837, .int .i32 820, .int .i32 2364, .int .i32 12441, .int .i32 12442, .int .i32 1456, .int .i32 1460, .int .i32 824, .int .i32 834, .int .i32 2494] : Array Value)[i.toNat]? = some (.int .i32 (runeTab24.getD i.toNat 0)) := by
  obtain ⟨j, rfl⟩ := Int.eq_ofNat_of_zero_le h0
  have hj : j < 24 := by omega
  simp only [Int.toNat_natCast]
  match j, hj with
  | 0, _ => rfl
  | 1, _ => rfl
  | 2, _ => rfl
  | 3, _ => rfl
  | 4, _ => rfl
  | 5, _ => rfl
  | 6, _ => rfl
  | 7, _ => rfl
  | 8, _ => rfl
  | 9, _ => rfl
  | 10, _ => rfl
  | 11, _ => rfl
  | 12, _ => rfl
  | 13, _ => rfl
  | 14, _ => rfl
  | 15, _ => rfl
  | 16, _ => rfl
  | 17, _ => rfl
  | 18, _ => rfl
  | 19, _ => rfl
  | 20, _ => rfl
  | 21, _ => rfl
  | 22, _ => rfl
  | 23, _ => rfl
  | q + 24, h => exact absurd h (by omega)
theorem runeTab24_bound (j : Nat) : 0 ≤ runeTab24.getD j 0 ∧ runeTab24.getD j 0 ≤ 1114111 := by
  have h : ∀ x ∈ runeTab24, 0 ≤ x ∧ x ≤ 1114111 := by decide
  rw [List.getD_eq_getElem?_getD]
  cases hj : runeTab24[j]? with
  | none => simp
  | some x => exact h x (List.mem_of_getElem? hj)
def runeTab16 : List Int := [8491, 8486, 8490, 832, 833, 836, 884, 894, 2392, 2399, 63744, 64109, 194560, 119134, 64300, 10972]
theorem runeTab16_at (i : Int) (h0 : 0 ≤ i) (h1 : i < 16) : (#[.int .i32 8491, .int .i32 8486, .int .i32 8490, .int .i32 832, .int .i32 833, .int .i32 836, .int .i32 884, .int .i32 894, .int .i32 2392, .int .i32 2399, .int .i32 63744, .int .i32 64109, .int .i32 194560, .int .i32 119134, .int .i32 64300, .int .i32 10972] : Array Value)[i.toNat]? = some (.int .i32 (runeTab16.getD i.toNat 0)) := by
  obtain ⟨j, rfl⟩ := Int.eq_ofNat_of_zero_le h0
  have hj : j < 16 := by omega
  simp only [Int.toNat_natCast]
  match j, hj with
  | 0, _ => rfl
  | 1, _ => rfl
  | 2, _ => rfl
  | 3, _ => rfl
  | 4, _ => rfl
  | 5, _ => rfl
  | 6, _ => rfl
  | 7, _ => rfl
  | 8, _ => rfl
  | 9, _ => rfl
  | 10, _ => rfl
  | 11, _ => rfl
  | 12, _ => rfl
  | 13, _ => rfl
  | 14, _ => rfl
  | 15, _ => rfl
  | q + 16, h => exact absurd h (by omega)
theorem runeTab16_bound (j : Nat) : 0 ≤ runeTab16.getD j 0 ∧ runeTab16.getD j 0 ≤ 1114111 := by
  have h : ∀ x ∈ runeTab16, 0 ≤ x ∧ x ≤ 1114111 := by decide
  rw [List.getD_eq_getElem?_getD]
  cases hj : runeTab16[j]? with
  | none => simp
  | some x => exact h x (List.mem_of_getElem? hj)
def runeTab3 : List Int := [4352, 4449, 4519]
theorem runeTab3_at (i : Int) (h0 : 0 ≤ i) (h1 : i < 3) : (#[.int .i32 4352, .int .i32 4449, .int .i32 4519] : Array Value)[i.toNat]? = some (.int .i32 (runeTab3.getD i.toNat 0)) := by
  obtain ⟨j, rfl⟩ := Int.eq_ofNat_of_zero_le h0
  have hj : j < 3 := by omega
  simp only [Int.toNat_natCast]
  match j, hj with
  | 0, _ => rfl
  | 1, _ => rfl
  | 2, _ => rfl
  | q + 3, h => exact absurd h (by omega)
theorem runeTab3_bound (j : Nat) : 0 ≤ runeTab3.getD j 0 ∧ runeTab3.getD j 0 ≤ 1114111 := by
  have h : ∀ x ∈ runeTab3, 0 ≤ x ∧ x ≤ 1114111 := by decide
  rw [List.getD_eq_getElem?_getD]
  cases hj : runeTab3[j]? with
  | none => simp
  | some x => exact h x (List.mem_of_getElem? hj)
def runeTab8 : List Int := [128512, 65536, 1114109, 57344, 64307, 65533, 55295, 8232]
theorem runeTab8_at (i : Int) (h0 : 0 ≤ i) (h1 : i < 8) : (#[.int .i32 128512, .int .i32 65536, .int .i32 1114109, .int .i32 57344, .int .i32 64307, .int .i32 65533, .int .i32 55295, .int .i32 8232] : Array Value)[i.toNat]? = some (.int .i32 (runeTab8.getD i.toNat 0)) := by
  obtain ⟨j, rfl⟩ := Int.eq_ofNat_of_zero_le h0
  have hj : j < 8 := by omega
  simp only [Int.toNat_natCast]
  match j, hj with
  | 0, _ => rfl
  | 1, _ => rfl
  | 2, _ => rfl
  | 3, _ => rfl
  | 4, _ => rfl
  | 5, _ => rfl
  | 6, _ => rfl
  | 7, _ => rfl
  | q + 8, h => exact absurd h (by omega)
theorem runeTab8_bound (j : Nat) : 0 ≤ runeTab8.getD j 0 ∧ runeTab8.getD j 0 ≤ 1114111 := by
  have h : ∀ x ∈ runeTab8, 0 ≤ x ∧ x ≤ 1114111 := by decide
  rw [List.getD_eq_getElem?_getD]
  cases hj : runeTab8[j]? with
  | none => simp
  | some x => exact h x (List.mem_of_getElem? hj)
/-- What rune a number below 2^40 stands for. -/
def runeV (k : Int) : Int :=
  if k % 16 < 2 then 97 + k / 16 % 100000 % 26 else if k % 16 = 2 then runeTab12.getD (k / 16 % 100000 % 12).toNat 0 else if k % 16 < 6 then runeTab24.getD (k / 16 % 100000 % 24).toNat 0 else if k % 16 = 6 then 192 + k / 16 % 100000 % 448
  else if k % 16 = 7 then 7680 + k / 16 % 100000 % 512 else if k % 16 = 8 then runeTab16.getD (k / 16 % 16).toNat 0 else if k % 16 = 9 then 44032 + k / 16 % 100000 % 11172
  else if k % 16 = 10 then runeTab3.getD (k / 16 % 100000 % 3).toNat 0 + k / 16 % 100000 / 3 % 30 else if k % 16 = 11 then runeTab8.getD (k / 16 % 8).toNat 0 else if k % 16 = 12 then k / 16 % 100000 % 128
  else if k % 16 = 13 then 880 + k / 16 % 100000 % 1536 else if k % 16 = 14 then 12352 + k / 16 % 100000 % 192 else k / 16 % 1114112
theorem runeV_bound (k : Int) (h0 : 0 ≤ k) : 0 ≤ runeV k ∧ runeV k ≤ 2147483647 := by
  have b12 := runeTab12_bound (k / 16 % 100000 % 12).toNat
  have b24 := runeTab24_bound (k / 16 % 100000 % 24).toNat
  have b16 := runeTab16_bound (k / 16 % 16).toNat
  have b3 := runeTab3_bound (k / 16 % 100000 % 3).toNat
  have b8 := runeTab8_bound (k / 16 % 8).toNat
  unfold runeV
  (repeat' split) <;> omega
def orthoepylaw00_Rune.f (a0 : Int) : Option (Int) := (orthoepylaw00_Place.f a0 1099511627776).bind fun k => if 0 ≤ k ∧ k < 1099511627776 then some (runeV k) else none
set_option maxHeartbeats 8000000 in
set_option maxRecDepth 100000 in
theorem orthoepylaw00_Rune.case0 (a0 : Int) (k : Int) (w : World) (h0 : 0 ≤ k) (h1 : k < 1099511627776) (hp : Aside0 (orthoepylaw00_Place.f a0 1099511627776 = some k)) (c0 : (k % 16 == 0) = true) :
    Calls Try.prog 24 #[.int .i64 a0] w fun e w' => e = .returned (.int .i32 (97 + k / 16 % 100000 % 26)) ∧ Drawn0 w w' := by
  go_enter Try.func24, Try.ntmps24
  go_wp2_with (first | ((with_reducible refine gate_callee (f := 31) rfl ?_); refine goesL_ (some 6) rfl rfl Try.func31 (by kernel_rfl) rfl #[.int .i64 a0, .int .i64 1099511627776] rfl (by (try simp only [List.map_toArray, List.map_cons, List.map_nil]); first | done | rfl) ?_; (with_reducible refine (orthoepylaw00_Place.calls a0 1099511627776 k _ hp.out).mono ?_); rintro e w' ⟨rfl, ⟨nd, rfl⟩⟩; refine ⟨_, rfl, ?_⟩))
  go_ret
  exact ⟨by first | rfl | (simp; done), by repeat (first | exact Drawn0.refl _ | apply Drawn0.step)⟩
set_option maxHeartbeats 8000000 in
set_option maxRecDepth 100000 in
theorem orthoepylaw00_Rune.case1 (a0 : Int) (k : Int) (w : World) (h0 : 0 ≤ k) (h1 : k < 1099511627776) (hp : Aside0 (orthoepylaw00_Place.f a0 1099511627776 = some k)) (c0 : (k % 16 == 0) = false) (c1 : (k % 16 == 1) = true) :
    Calls Try.prog 24 #[.int .i64 a0] w fun e w' => e = .returned (.int .i32 (97 + k / 16 % 100000 % 26)) ∧ Drawn0 w w' := by
  go_enter Try.func24, Try.ntmps24
  go_wp2_with (first | ((with_reducible refine gate_callee (f := 31) rfl ?_); refine goesL_ (some 6) rfl rfl Try.func31 (by kernel_rfl) rfl #[.int .i64 a0, .int .i64 1099511627776] rfl (by (try simp only [List.map_toArray, List.map_cons, List.map_nil]); first | done | rfl) ?_; (with_reducible refine (orthoepylaw00_Place.calls a0 1099511627776 k _ hp.out).mono ?_); rintro e w' ⟨rfl, ⟨nd, rfl⟩⟩; refine ⟨_, rfl, ?_⟩))
  go_ret
  exact ⟨by first | rfl | (simp; done), by repeat (first | exact Drawn0.refl _ | apply Drawn0.step)⟩
set_option maxHeartbeats 8000000 in
set_option maxRecDepth 100000 in
theorem orthoepylaw00_Rune.case2 (a0 : Int) (k : Int) (w : World) (h0 : 0 ≤ k) (h1 : k < 1099511627776) (hp : Aside0 (orthoepylaw00_Place.f a0 1099511627776 = some k)) (c0 : (k % 16 == 0) = false) (c1 : (k % 16 == 1) = false) (c2 : (k % 16 == 2) = true) :
    Calls Try.prog 24 #[.int .i64 a0] w fun e w' => e = .returned (.int .i32 (runeTab12.getD (k / 16 % 100000 % 12).toNat 0)) ∧ Drawn0 w w' := by
  have hidx : ∀ w : World, (Instr.index 57 (.agg (#[.int .i32 65, .int .i32 69, .int .i32 79, .int .i32 97, .int .i32 101, .int .i32 111, .int .i32 2325, .int .i32 2344, .int .i32 4352, .int .i32 4370, .int .i32 12363, .int .i32 2503])) (.int .i32 (k / 16 % 100000 % 12))).run Try.prog w = .ok (.int .i32 (runeTab12.getD (k / 16 % 100000 % 12).toNat 0)) w := fun w => run_index_arr w 57 21 12 _ .i32 .i32 _ _ Try.underlying57 Try.underlying21 (by kernel_rfl) (by omega) (by omega) (runeTab12_at _ (by omega) (by omega))
  have hb := runeTab12_bound (k / 16 % 100000 % 12).toNat
  rw [List.getD_eq_getElem?_getD] at hb
  go_enter Try.func24, Try.ntmps24
  go_wp2_with (first | ((with_reducible refine gate_callee (f := 31) rfl ?_); refine goesL_ (some 6) rfl rfl Try.func31 (by kernel_rfl) rfl #[.int .i64 a0, .int .i64 1099511627776] rfl (by (try simp only [List.map_toArray, List.map_cons, List.map_nil]); first | done | rfl) ?_; (with_reducible refine (orthoepylaw00_Place.calls a0 1099511627776 k _ hp.out).mono ?_); rintro e w' ⟨rfl, ⟨nd, rfl⟩⟩; refine ⟨_, rfl, ?_⟩) | ((with_reducible refine gate_build (t := 57) rfl ?_); refine wpList_build_is rfl 57 _ rfl (#[.int .i32 65, .int .i32 69, .int .i32 79, .int .i32 97, .int .i32 101, .int .i32 111, .int .i32 2325, .int .i32 2344, .int .i32 4352, .int .i32 4370, .int .i32 12363, .int .i32 2503]) (by kernel_rfl) ?_))
  go_ret
  exact ⟨by first | rfl | (simp; done), by repeat (first | exact Drawn0.refl _ | apply Drawn0.step)⟩
set_option maxHeartbeats 8000000 in
set_option maxRecDepth 100000 in
theorem orthoepylaw00_Rune.case3 (a0 : Int) (k : Int) (w : World) (h0 : 0 ≤ k) (h1 : k < 1099511627776) (hp : Aside0 (orthoepylaw00_Place.f a0 1099511627776 = some k)) (c0 : (k % 16 == 0) = false) (c1 : (k % 16 == 1) = false) (c2 : (k % 16 == 2) = false) (c3 : (k % 16 == 3) = true) :
    Calls Try.prog 24 #[.int .i64 a0] w fun e w' => e = .returned (.int .i32 (runeTab24.getD (k / 16 % 100000 % 24).toNat 0)) ∧ Drawn0 w w' := by
  have hidx : ∀ w : World, (Instr.index 58 (.agg (#[.int .i32 768, .int .i32 769, .int .i32 770, .int .i32 771, .int .i32 772, .int .i32 774, .int .i32 775, .int .i32 776, .int .i32 778, .int .i32 780, .int .i32 803, .int .i32 807, .int .i32 808, .int .i32 795, .int .i32 837, .int .i32 820, .int .i32 2364, .int .i32 12441, .int .i32 12442, .int .i32 1456, .int .i32 1460, .int .i32 824, .int .i32 834, .int .i32 2494])) (.int .i32 (k / 16 % 100000 % 24))).run Try.prog w = .ok (.int .i32 (runeTab24.getD (k / 16 % 100000 % 24).toNat 0)) w := fun w => run_index_arr w 58 21 24 _ .i32 .i32 _ _ Try.underlying58 Try.underlying21 (by kernel_rfl) (by omega) (by omega) (runeTab24_at _ (by omega) (by omega))
  have hb := runeTab24_bound (k / 16 % 100000 % 24).toNat
  rw [List.getD_eq_getElem?_getD] at hb
  go_enter Try.func24, Try.ntmps24
  go_wp2_with (first | ((with_reducible refine gate_callee (f := 31) rfl ?_); refine goesL_ (some 6) rfl rfl Try.func31 (by kernel_rfl) rfl #[.int .i64 a0, .int .i64 1099511627776] rfl (by (try simp only [List.map_toArray, List.map_cons, List.map_nil]); first | done | rfl) ?_; (with_reducible refine (orthoepylaw00_Place.calls a0 1099511627776 k _ hp.out).mono ?_); rintro e w' ⟨rfl, ⟨nd, rfl⟩⟩; refine ⟨_, rfl, ?_⟩) | ((with_reducible refine gate_build (t := 58) rfl ?_); refine wpList_build_is rfl 58 _ rfl (#[.int .i32 768, .int .i32 769, .int .i32 770, .int .i32 771, .int .i32 772, .int .i32 774, .int .i32 775, .int .i32 776, .int .i32 778, .int .i32 780, .int .i32 803, .int .i32 807, .int .i32 808, .int .i32 795, .int .i32 837, .int .i32 820, .int .i32 2364, .int .i32 12441, .int .i32 12442, .int .i32 1456, .int .i32 1460, .int .i32 824, .int .i32 834, .int .i32 2494]) (by kernel_rfl) ?_))
  go_ret
  exact ⟨by first | rfl | (simp; done), by repeat (first | exact Drawn0.refl _ | apply Drawn0.step)⟩
set_option maxHeartbeats 8000000 in
set_option maxRecDepth 100000 in
theorem orthoepylaw00_Rune.case4 (a0 : Int) (k : Int) (w : World) (h0 : 0 ≤ k) (h1 : k < 1099511627776) (hp : Aside0 (orthoepylaw00_Place.f a0 1099511627776 = some k)) (c0 : (k % 16 == 0) = false) (c1 : (k % 16 == 1) = false) (c2 : (k % 16 == 2) = false) (c3 : (k % 16 == 3) = false) (c4 : (k % 16 == 4) = true) :
    Calls Try.prog 24 #[.int .i64 a0] w fun e w' => e = .returned (.int .i32 (runeTab24.getD (k / 16 % 100000 % 24).toNat 0)) ∧ Drawn0 w w' := by
  have hidx : ∀ w : World, (Instr.index 58 (.agg (#[.int .i32 768, .int .i32 769, .int .i32 770, .int .i32 771, .int .i32 772, .int .i32 774, .int .i32 775, .int .i32 776, .int .i32 778, .int .i32 780, .int .i32 803, .int .i32 807, .int .i32 808, .int .i32 795, .int .i32 837, .int .i32 820, .int .i32 2364, .int .i32 12441, .int .i32 12442, .int .i32 1456, .int .i32 1460, .int .i32 824, .int .i32 834, .int .i32 2494])) (.int .i32 (k / 16 % 100000 % 24))).run Try.prog w = .ok (.int .i32 (runeTab24.getD (k / 16 % 100000 % 24).toNat 0)) w := fun w => run_index_arr w 58 21 24 _ .i32 .i32 _ _ Try.underlying58 Try.underlying21 (by kernel_rfl) (by omega) (by omega) (runeTab24_at _ (by omega) (by omega))
  have hb := runeTab24_bound (k / 16 % 100000 % 24).toNat
  rw [List.getD_eq_getElem?_getD] at hb
  go_enter Try.func24, Try.ntmps24
  go_wp2_with (first | ((with_reducible refine gate_callee (f := 31) rfl ?_); refine goesL_ (some 6) rfl rfl Try.func31 (by kernel_rfl) rfl #[.int .i64 a0, .int .i64 1099511627776] rfl (by (try simp only [List.map_toArray, List.map_cons, List.map_nil]); first | done | rfl) ?_; (with_reducible refine (orthoepylaw00_Place.calls a0 1099511627776 k _ hp.out).mono ?_); rintro e w' ⟨rfl, ⟨nd, rfl⟩⟩; refine ⟨_, rfl, ?_⟩) | ((with_reducible refine gate_build (t := 58) rfl ?_); refine wpList_build_is rfl 58 _ rfl (#[.int .i32 768, .int .i32 769, .int .i32 770, .int .i32 771, .int .i32 772, .int .i32 774, .int .i32 775, .int .i32 776, .int .i32 778, .int .i32 780, .int .i32 803, .int .i32 807, .int .i32 808, .int .i32 795, .int .i32 837, .int .i32 820, .int .i32 2364, .int .i32 12441, .int .i32 12442, .int .i32 1456, .int .i32 1460, .int .i32 824, .int .i32 834, .int .i32 2494]) (by kernel_rfl) ?_))
  go_ret
  exact ⟨by first | rfl | (simp; done), by repeat (first | exact Drawn0.refl _ | apply Drawn0.step)⟩
set_option maxHeartbeats 8000000 in
set_option maxRecDepth 100000 in
theorem orthoepylaw00_Rune.case5 (a0 : Int) (k : Int) (w : World) (h0 : 0 ≤ k) (h1 : k < 1099511627776) (hp : Aside0 (orthoepylaw00_Place.f a0 1099511627776 = some k)) (c0 : (k % 16 == 0) = false) (c1 : (k % 16 == 1) = false) (c2 : (k % 16 == 2) = false) (c3 : (k % 16 == 3) = false) (c4 : (k % 16 == 4) = false) (c5 : (k % 16 == 5) = true) :
    Calls Try.prog 24 #[.int .i64 a0] w fun e w' => e = .returned (.int .i32 (runeTab24.getD (k / 16 % 100000 % 24).toNat 0)) ∧ Drawn0 w w' := by
  have hidx : ∀ w : World, (Instr.index 58 (.agg (#[.int .i32 768, .int .i32 769, .int .i32 770, .int .i32 771, .int .i32 772, .int .i32 774, .int .i32 775, .int .i32 776, .int .i32 778, .int .i32 780, .int .i32 803, .int .i32 807, .int .i32 808, .int .i32 795, .int .i32 837, .int .i32 820, .int .i32 2364, .int .i32 12441, .int .i32 12442, .int .i32 1456, .int .i32 1460, .int .i32 824, .int .i32 834, .int .i32 2494])) (.int .i32 (k / 16 % 100000 % 24))).run Try.prog w = .ok (.int .i32 (runeTab24.getD (k / 16 % 100000 % 24).toNat 0)) w := fun w => run_index_arr w 58 21 24 _ .i32 .i32 _ _ Try.underlying58 Try.underlying21 (by kernel_rfl) (by omega) (by omega) (runeTab24_at _ (by omega) (by omega))
  have hb := runeTab24_bound (k / 16 % 100000 % 24).toNat
  rw [List.getD_eq_getElem?_getD] at hb
  go_enter Try.func24, Try.ntmps24
  go_wp2_with (first | ((with_reducible refine gate_callee (f := 31) rfl ?_); refine goesL_ (some 6) rfl rfl Try.func31 (by kernel_rfl) rfl #[.int .i64 a0, .int .i64 1099511627776] rfl (by (try simp only [List.map_toArray, List.map_cons, List.map_nil]); first | done | rfl) ?_; (with_reducible refine (orthoepylaw00_Place.calls a0 1099511627776 k _ hp.out).mono ?_); rintro e w' ⟨rfl, ⟨nd, rfl⟩⟩; refine ⟨_, rfl, ?_⟩) | ((with_reducible refine gate_build (t := 58) rfl ?_); refine wpList_build_is rfl 58 _ rfl (#[.int .i32 768, .int .i32 769, .int .i32 770, .int .i32 771, .int .i32 772, .int .i32 774, .int .i32 775, .int .i32 776, .int .i32 778, .int .i32 780, .int .i32 803, .int .i32 807, .int .i32 808, .int .i32 795, .int .i32 837, .int .i32 820, .int .i32 2364, .int .i32 12441, .int .i32 12442, .int .i32 1456, .int .i32 1460, .int .i32 824, .int .i32 834, .int .i32 2494]) (by kernel_rfl) ?_))
  go_ret
  exact ⟨by first | rfl | (simp; done), by repeat (first | exact Drawn0.refl _ | apply Drawn0.step)⟩
set_option maxHeartbeats 8000000 in
set_option maxRecDepth 100000 in
theorem orthoepylaw00_Rune.case6 (a0 : Int) (k : Int) (w : World) (h0 : 0 ≤ k) (h1 : k < 1099511627776) (hp : Aside0 (orthoepylaw00_Place.f a0 1099511627776 = some k)) (c0 : (k % 16 == 0) = false) (c1 : (k % 16 == 1) = false) (c2 : (k % 16 == 2) = false) (c3 : (k % 16 == 3) = false) (c4 : (k % 16 == 4) = false) (c5 : (k % 16 == 5) = false) (c6 : (k % 16 == 6) = true) :
    Calls Try.prog 24 #[.int .i64 a0] w fun e w' => e = .returned (.int .i32 (192 + k / 16 % 100000 % 448)) ∧ Drawn0 w w' := by
  go_enter Try.func24, Try.ntmps24
  go_wp2_with (first | ((with_reducible refine gate_callee (f := 31) rfl ?_); refine goesL_ (some 6) rfl rfl Try.func31 (by kernel_rfl) rfl #[.int .i64 a0, .int .i64 1099511627776] rfl (by (try simp only [List.map_toArray, List.map_cons, List.map_nil]); first | done | rfl) ?_; (with_reducible refine (orthoepylaw00_Place.calls a0 1099511627776 k _ hp.out).mono ?_); rintro e w' ⟨rfl, ⟨nd, rfl⟩⟩; refine ⟨_, rfl, ?_⟩))
  go_ret
  exact ⟨by first | rfl | (simp; done), by repeat (first | exact Drawn0.refl _ | apply Drawn0.step)⟩
set_option maxHeartbeats 8000000 in
set_option maxRecDepth 100000 in
theorem orthoepylaw00_Rune.case7 (a0 : Int) (k : Int) (w : World) (h0 : 0 ≤ k) (h1 : k < 1099511627776) (hp : Aside0 (orthoepylaw00_Place.f a0 1099511627776 = some k)) (c0 : (k % 16 == 0) = false) (c1 : (k % 16 == 1) = false) (c2 : (k % 16 == 2) = false) (c3 : (k % 16 == 3) = false) (c4 : (k % 16 == 4) = false) (c5 : (k % 16 == 5) = false) (c6 : (k % 16 == 6) = false) (c7 : (k % 16 == 7) = true) :
    Calls Try.prog 24 #[.int .i64 a0] w fun e w' => e = .returned (.int .i32 (7680 + k / 16 % 100000 % 512)) ∧ Drawn0 w w' := by
  go_enter Try.func24, Try.ntmps24
  go_wp2_with (first | ((with_reducible refine gate_callee (f := 31) rfl ?_); refine goesL_ (some 6) rfl rfl Try.func31 (by kernel_rfl) rfl #[.int .i64 a0, .int .i64 1099511627776] rfl (by (try simp only [List.map_toArray, List.map_cons, List.map_nil]); first | done | rfl) ?_; (with_reducible refine (orthoepylaw00_Place.calls a0 1099511627776 k _ hp.out).mono ?_); rintro e w' ⟨rfl, ⟨nd, rfl⟩⟩; refine ⟨_, rfl, ?_⟩))
  go_ret
  exact ⟨by first | rfl | (simp; done), by repeat (first | exact Drawn0.refl _ | apply Drawn0.step)⟩
set_option maxHeartbeats 8000000 in
set_option maxRecDepth 100000 in
theorem orthoepylaw00_Rune.case8 (a0 : Int) (k : Int) (w : World) (h0 : 0 ≤ k) (h1 : k < 1099511627776) (hp : Aside0 (orthoepylaw00_Place.f a0 1099511627776 = some k)) (c0 : (k % 16 == 0) = false) (c1 : (k % 16 == 1) = false) (c2 : (k % 16 == 2) = false) (c3 : (k % 16 == 3) = false) (c4 : (k % 16 == 4) = false) (c5 : (k % 16 == 5) = false) (c6 : (k % 16 == 6) = false) (c7 : (k % 16 == 7) = false) (c8 : (k % 16 == 8) = true) :
    Calls Try.prog 24 #[.int .i64 a0] w fun e w' => e = .returned (.int .i32 (runeTab16.getD (k / 16 % 16).toNat 0)) ∧ Drawn0 w w' := by
  have hidx : ∀ w : World, (Instr.index 59 (.agg (#[.int .i32 8491, .int .i32 8486, .int .i32 8490, .int .i32 832, .int .i32 833, .int .i32 836, .int .i32 884, .int .i32 894, .int .i32 2392, .int .i32 2399, .int .i32 63744, .int .i32 64109, .int .i32 194560, .int .i32 119134, .int .i32 64300, .int .i32 10972])) (.int .i32 (k / 16 % 16))).run Try.prog w = .ok (.int .i32 (runeTab16.getD (k / 16 % 16).toNat 0)) w := fun w => run_index_arr w 59 21 16 _ .i32 .i32 _ _ Try.underlying59 Try.underlying21 (by kernel_rfl) (by omega) (by omega) (runeTab16_at _ (by omega) (by omega))
  have hb := runeTab16_bound (k / 16 % 16).toNat
  rw [List.getD_eq_getElem?_getD] at hb
  go_enter Try.func24, Try.ntmps24
  go_wp2_with (first | ((with_reducible refine gate_callee (f := 31) rfl ?_); refine goesL_ (some 6) rfl rfl Try.func31 (by kernel_rfl) rfl #[.int .i64 a0, .int .i64 1099511627776] rfl (by (try simp only [List.map_toArray, List.map_cons, List.map_nil]); first | done | rfl) ?_; (with_reducible refine (orthoepylaw00_Place.calls a0 1099511627776 k _ hp.out).mono ?_); rintro e w' ⟨rfl, ⟨nd, rfl⟩⟩; refine ⟨_, rfl, ?_⟩) | ((with_reducible refine gate_build (t := 59) rfl ?_); refine wpList_build_is rfl 59 _ rfl (#[.int .i32 8491, .int .i32 8486, .int .i32 8490, .int .i32 832, .int .i32 833, .int .i32 836, .int .i32 884, .int .i32 894, .int .i32 2392, .int .i32 2399, .int .i32 63744, .int .i32 64109, .int .i32 194560, .int .i32 119134, .int .i32 64300, .int .i32 10972]) (by kernel_rfl) ?_))
  go_ret
  exact ⟨by first | rfl | (simp; done), by repeat (first | exact Drawn0.refl _ | apply Drawn0.step)⟩
set_option maxHeartbeats 8000000 in
set_option maxRecDepth 100000 in
theorem orthoepylaw00_Rune.case9 (a0 : Int) (k : Int) (w : World) (h0 : 0 ≤ k) (h1 : k < 1099511627776) (hp : Aside0 (orthoepylaw00_Place.f a0 1099511627776 = some k)) (c0 : (k % 16 == 0) = false) (c1 : (k % 16 == 1) = false) (c2 : (k % 16 == 2) = false) (c3 : (k % 16 == 3) = false) (c4 : (k % 16 == 4) = false) (c5 : (k % 16 == 5) = false) (c6 : (k % 16 == 6) = false) (c7 : (k % 16 == 7) = false) (c8 : (k % 16 == 8) = false) (c9 : (k % 16 == 9) = true) :
    Calls Try.prog 24 #[.int .i64 a0] w fun e w' => e = .returned (.int .i32 (44032 + k / 16 % 100000 % 11172)) ∧ Drawn0 w w' := by
  go_enter Try.func24, Try.ntmps24
  go_wp2_with (first | ((with_reducible refine gate_callee (f := 31) rfl ?_); refine goesL_ (some 6) rfl rfl Try.func31 (by kernel_rfl) rfl #[.int .i64 a0, .int .i64 1099511627776] rfl (by (try simp only [List.map_toArray, List.map_cons, List.map_nil]); first | done | rfl) ?_; (with_reducible refine (orthoepylaw00_Place.calls a0 1099511627776 k _ hp.out).mono ?_); rintro e w' ⟨rfl, ⟨nd, rfl⟩⟩; refine ⟨_, rfl, ?_⟩))
  go_ret
  exact ⟨by first | rfl | (simp; done), by repeat (first | exact Drawn0.refl _ | apply Drawn0.step)⟩
set_option maxHeartbeats 8000000 in
set_option maxRecDepth 100000 in
theorem orthoepylaw00_Rune.case10 (a0 : Int) (k : Int) (w : World) (h0 : 0 ≤ k) (h1 : k < 1099511627776) (hp : Aside0 (orthoepylaw00_Place.f a0 1099511627776 = some k)) (c0 : (k % 16 == 0) = false) (c1 : (k % 16 == 1) = false) (c2 : (k % 16 == 2) = false) (c3 : (k % 16 == 3) = false) (c4 : (k % 16 == 4) = false) (c5 : (k % 16 == 5) = false) (c6 : (k % 16 == 6) = false) (c7 : (k % 16 == 7) = false) (c8 : (k % 16 == 8) = false) (c9 : (k % 16 == 9) = false) (c10 : (k % 16 == 10) = true) :
    Calls Try.prog 24 #[.int .i64 a0] w fun e w' => e = .returned (.int .i32 (runeTab3.getD (k / 16 % 100000 % 3).toNat 0 + k / 16 % 100000 / 3 % 30)) ∧ Drawn0 w w' := by
  have hidx : ∀ w : World, (Instr.index 60 (.agg (#[.int .i32 4352, .int .i32 4449, .int .i32 4519])) (.int .i32 (k / 16 % 100000 % 3))).run Try.prog w = .ok (.int .i32 (runeTab3.getD (k / 16 % 100000 % 3).toNat 0)) w := fun w => run_index_arr w 60 21 3 _ .i32 .i32 _ _ Try.underlying60 Try.underlying21 (by kernel_rfl) (by omega) (by omega) (runeTab3_at _ (by omega) (by omega))
  have hb := runeTab3_bound (k / 16 % 100000 % 3).toNat
  rw [List.getD_eq_getElem?_getD] at hb
  go_enter Try.func24, Try.ntmps24
  go_wp2_with (first | ((with_reducible refine gate_callee (f := 31) rfl ?_); refine goesL_ (some 6) rfl rfl Try.func31 (by kernel_rfl) rfl #[.int .i64 a0, .int .i64 1099511627776] rfl (by (try simp only [List.map_toArray, List.map_cons, List.map_nil]); first | done | rfl) ?_; (with_reducible refine (orthoepylaw00_Place.calls a0 1099511627776 k _ hp.out).mono ?_); rintro e w' ⟨rfl, ⟨nd, rfl⟩⟩; refine ⟨_, rfl, ?_⟩) | ((with_reducible refine gate_build (t := 60) rfl ?_); refine wpList_build_is rfl 60 _ rfl (#[.int .i32 4352, .int .i32 4449, .int .i32 4519]) (by kernel_rfl) ?_))
  go_ret
  exact ⟨by first | rfl | (simp; done), by repeat (first | exact Drawn0.refl _ | apply Drawn0.step)⟩
set_option maxHeartbeats 8000000 in
set_option maxRecDepth 100000 in
theorem orthoepylaw00_Rune.case11 (a0 : Int) (k : Int) (w : World) (h0 : 0 ≤ k) (h1 : k < 1099511627776) (hp : Aside0 (orthoepylaw00_Place.f a0 1099511627776 = some k)) (c0 : (k % 16 == 0) = false) (c1 : (k % 16 == 1) = false) (c2 : (k % 16 == 2) = false) (c3 : (k % 16 == 3) = false) (c4 : (k % 16 == 4) = false) (c5 : (k % 16 == 5) = false) (c6 : (k % 16 == 6) = false) (c7 : (k % 16 == 7) = false) (c8 : (k % 16 == 8) = false) (c9 : (k % 16 == 9) = false) (c10 : (k % 16 == 10) = false) (c11 : (k % 16 == 11) = true) :
    Calls Try.prog 24 #[.int .i64 a0] w fun e w' => e = .returned (.int .i32 (runeTab8.getD (k / 16 % 8).toNat 0)) ∧ Drawn0 w w' := by
  have hidx : ∀ w : World, (Instr.index 61 (.agg (#[.int .i32 128512, .int .i32 65536, .int .i32 1114109, .int .i32 57344, .int .i32 64307, .int .i32 65533, .int .i32 55295, .int .i32 8232])) (.int .i32 (k / 16 % 8))).run Try.prog w = .ok (.int .i32 (runeTab8.getD (k / 16 % 8).toNat 0)) w := fun w => run_index_arr w 61 21 8 _ .i32 .i32 _ _ Try.underlying61 Try.underlying21 (by kernel_rfl) (by omega) (by omega) (runeTab8_at _ (by omega) (by omega))
  have hb := runeTab8_bound (k / 16 % 8).toNat
  rw [List.getD_eq_getElem?_getD] at hb
  go_enter Try.func24, Try.ntmps24
  go_wp2_with (first | ((with_reducible refine gate_callee (f := 31) rfl ?_); refine goesL_ (some 6) rfl rfl Try.func31 (by kernel_rfl) rfl #[.int .i64 a0, .int .i64 1099511627776] rfl (by (try simp only [List.map_toArray, List.map_cons, List.map_nil]); first | done | rfl) ?_; (with_reducible refine (orthoepylaw00_Place.calls a0 1099511627776 k _ hp.out).mono ?_); rintro e w' ⟨rfl, ⟨nd, rfl⟩⟩; refine ⟨_, rfl, ?_⟩) | ((with_reducible refine gate_build (t := 61) rfl ?_); refine wpList_build_is rfl 61 _ rfl (#[.int .i32 128512, .int .i32 65536, .int .i32 1114109, .int .i32 57344, .int .i32 64307, .int .i32 65533, .int .i32 55295, .int .i32 8232]) (by kernel_rfl) ?_))
  go_ret
  exact ⟨by first | rfl | (simp; done), by repeat (first | exact Drawn0.refl _ | apply Drawn0.step)⟩
set_option maxHeartbeats 8000000 in
set_option maxRecDepth 100000 in
theorem orthoepylaw00_Rune.case12 (a0 : Int) (k : Int) (w : World) (h0 : 0 ≤ k) (h1 : k < 1099511627776) (hp : Aside0 (orthoepylaw00_Place.f a0 1099511627776 = some k)) (c0 : (k % 16 == 0) = false) (c1 : (k % 16 == 1) = false) (c2 : (k % 16 == 2) = false) (c3 : (k % 16 == 3) = false) (c4 : (k % 16 == 4) = false) (c5 : (k % 16 == 5) = false) (c6 : (k % 16 == 6) = false) (c7 : (k % 16 == 7) = false) (c8 : (k % 16 == 8) = false) (c9 : (k % 16 == 9) = false) (c10 : (k % 16 == 10) = false) (c11 : (k % 16 == 11) = false) (c12 : (k % 16 == 12) = true) :
    Calls Try.prog 24 #[.int .i64 a0] w fun e w' => e = .returned (.int .i32 (k / 16 % 100000 % 128)) ∧ Drawn0 w w' := by
  go_enter Try.func24, Try.ntmps24
  go_wp2_with (first | ((with_reducible refine gate_callee (f := 31) rfl ?_); refine goesL_ (some 6) rfl rfl Try.func31 (by kernel_rfl) rfl #[.int .i64 a0, .int .i64 1099511627776] rfl (by (try simp only [List.map_toArray, List.map_cons, List.map_nil]); first | done | rfl) ?_; (with_reducible refine (orthoepylaw00_Place.calls a0 1099511627776 k _ hp.out).mono ?_); rintro e w' ⟨rfl, ⟨nd, rfl⟩⟩; refine ⟨_, rfl, ?_⟩))
  go_ret
  exact ⟨by first | rfl | (simp; done), by repeat (first | exact Drawn0.refl _ | apply Drawn0.step)⟩
set_option maxHeartbeats 8000000 in
set_option maxRecDepth 100000 in
theorem orthoepylaw00_Rune.case13 (a0 : Int) (k : Int) (w : World) (h0 : 0 ≤ k) (h1 : k < 1099511627776) (hp : Aside0 (orthoepylaw00_Place.f a0 1099511627776 = some k)) (c0 : (k % 16 == 0) = false) (c1 : (k % 16 == 1) = false) (c2 : (k % 16 == 2) = false) (c3 : (k % 16 == 3) = false) (c4 : (k % 16 == 4) = false) (c5 : (k % 16 == 5) = false) (c6 : (k % 16 == 6) = false) (c7 : (k % 16 == 7) = false) (c8 : (k % 16 == 8) = false) (c9 : (k % 16 == 9) = false) (c10 : (k % 16 == 10) = false) (c11 : (k % 16 == 11) = false) (c12 : (k % 16 == 12) = false) (c13 : (k % 16 == 13) = true) :
    Calls Try.prog 24 #[.int .i64 a0] w fun e w' => e = .returned (.int .i32 (880 + k / 16 % 100000 % 1536)) ∧ Drawn0 w w' := by
  go_enter Try.func24, Try.ntmps24
  go_wp2_with (first | ((with_reducible refine gate_callee (f := 31) rfl ?_); refine goesL_ (some 6) rfl rfl Try.func31 (by kernel_rfl) rfl #[.int .i64 a0, .int .i64 1099511627776] rfl (by (try simp only [List.map_toArray, List.map_cons, List.map_nil]); first | done | rfl) ?_; (with_reducible refine (orthoepylaw00_Place.calls a0 1099511627776 k _ hp.out).mono ?_); rintro e w' ⟨rfl, ⟨nd, rfl⟩⟩; refine ⟨_, rfl, ?_⟩))
  go_ret
  exact ⟨by first | rfl | (simp; done), by repeat (first | exact Drawn0.refl _ | apply Drawn0.step)⟩
set_option maxHeartbeats 8000000 in
set_option maxRecDepth 100000 in
theorem orthoepylaw00_Rune.case14 (a0 : Int) (k : Int) (w : World) (h0 : 0 ≤ k) (h1 : k < 1099511627776) (hp : Aside0 (orthoepylaw00_Place.f a0 1099511627776 = some k)) (c0 : (k % 16 == 0) = false) (c1 : (k % 16 == 1) = false) (c2 : (k % 16 == 2) = false) (c3 : (k % 16 == 3) = false) (c4 : (k % 16 == 4) = false) (c5 : (k % 16 == 5) = false) (c6 : (k % 16 == 6) = false) (c7 : (k % 16 == 7) = false) (c8 : (k % 16 == 8) = false) (c9 : (k % 16 == 9) = false) (c10 : (k % 16 == 10) = false) (c11 : (k % 16 == 11) = false) (c12 : (k % 16 == 12) = false) (c13 : (k % 16 == 13) = false) (c14 : (k % 16 == 14) = true) :
    Calls Try.prog 24 #[.int .i64 a0] w fun e w' => e = .returned (.int .i32 (12352 + k / 16 % 100000 % 192)) ∧ Drawn0 w w' := by
  go_enter Try.func24, Try.ntmps24
  go_wp2_with (first | ((with_reducible refine gate_callee (f := 31) rfl ?_); refine goesL_ (some 6) rfl rfl Try.func31 (by kernel_rfl) rfl #[.int .i64 a0, .int .i64 1099511627776] rfl (by (try simp only [List.map_toArray, List.map_cons, List.map_nil]); first | done | rfl) ?_; (with_reducible refine (orthoepylaw00_Place.calls a0 1099511627776 k _ hp.out).mono ?_); rintro e w' ⟨rfl, ⟨nd, rfl⟩⟩; refine ⟨_, rfl, ?_⟩))
  go_ret
  exact ⟨by first | rfl | (simp; done), by repeat (first | exact Drawn0.refl _ | apply Drawn0.step)⟩
set_option maxHeartbeats 8000000 in
set_option maxRecDepth 100000 in
theorem orthoepylaw00_Rune.case15 (a0 : Int) (k : Int) (w : World) (h0 : 0 ≤ k) (h1 : k < 1099511627776) (hp : Aside0 (orthoepylaw00_Place.f a0 1099511627776 = some k)) (c0 : (k % 16 == 0) = false) (c1 : (k % 16 == 1) = false) (c2 : (k % 16 == 2) = false) (c3 : (k % 16 == 3) = false) (c4 : (k % 16 == 4) = false) (c5 : (k % 16 == 5) = false) (c6 : (k % 16 == 6) = false) (c7 : (k % 16 == 7) = false) (c8 : (k % 16 == 8) = false) (c9 : (k % 16 == 9) = false) (c10 : (k % 16 == 10) = false) (c11 : (k % 16 == 11) = false) (c12 : (k % 16 == 12) = false) (c13 : (k % 16 == 13) = false) (c14 : (k % 16 == 14) = false) :
    Calls Try.prog 24 #[.int .i64 a0] w fun e w' => e = .returned (.int .i32 (k / 16 % 1114112)) ∧ Drawn0 w w' := by
  go_enter Try.func24, Try.ntmps24
  go_wp2_with (first | ((with_reducible refine gate_callee (f := 31) rfl ?_); refine goesL_ (some 6) rfl rfl Try.func31 (by kernel_rfl) rfl #[.int .i64 a0, .int .i64 1099511627776] rfl (by (try simp only [List.map_toArray, List.map_cons, List.map_nil]); first | done | rfl) ?_; (with_reducible refine (orthoepylaw00_Place.calls a0 1099511627776 k _ hp.out).mono ?_); rintro e w' ⟨rfl, ⟨nd, rfl⟩⟩; refine ⟨_, rfl, ?_⟩))
  go_ret
  exact ⟨by first | rfl | (simp; done), by repeat (first | exact Drawn0.refl _ | apply Drawn0.step)⟩
theorem orthoepylaw00_Rune.calls (a0 : Int) (r : Int) (w : World) (h : orthoepylaw00_Rune.f a0 = some r) :
    Calls Try.prog 24 #[.int .i64 a0] w fun e w' => e = .returned (.int .i32 r) ∧ Drawn0 w w' := by
  unfold orthoepylaw00_Rune.f at h
  obtain ⟨k, hp, h⟩ := Option.bind_eq_some_iff.mp h
  split at h
  case isFalse => cases h
  case isTrue hh =>
  obtain rfl := Option.some.inj h
  obtain ⟨h0, h1⟩ := hh
  clear h
  have hp := Aside0.mk hp
  have hm : k % 16 = 0 ∨ k % 16 = 1 ∨ k % 16 = 2 ∨ k % 16 = 3 ∨ k % 16 = 4 ∨ k % 16 = 5 ∨ k % 16 = 6 ∨ k % 16 = 7 ∨ k % 16 = 8 ∨ k % 16 = 9 ∨ k % 16 = 10 ∨ k % 16 = 11 ∨ k % 16 = 12 ∨ k % 16 = 13 ∨ k % 16 = 14 ∨ k % 16 = 15 := by omega
  rcases hm with hm | hm | hm | hm | hm | hm | hm | hm | hm | hm | hm | hm | hm | hm | hm | hm
  · have e : runeV k = 97 + k / 16 % 100000 % 26 := by
      unfold runeV
      simp [hm]
    rw [e]
    exact orthoepylaw00_Rune.case0 a0 k w h0 h1 hp (by rw [hm]; rfl)
  · have e : runeV k = 97 + k / 16 % 100000 % 26 := by
      unfold runeV
      simp [hm]
    rw [e]
    exact orthoepylaw00_Rune.case1 a0 k w h0 h1 hp (by rw [hm]; rfl) (by rw [hm]; rfl)
  · have e : runeV k = runeTab12.getD (k / 16 % 100000 % 12).toNat 0 := by
      unfold runeV
      simp [hm]
    rw [e]
    exact orthoepylaw00_Rune.case2 a0 k w h0 h1 hp (by rw [hm]; rfl) (by rw [hm]; rfl) (by rw [hm]; rfl)
  · have e : runeV k = runeTab24.getD (k / 16 % 100000 % 24).toNat 0 := by
      unfold runeV
      simp [hm]
    rw [e]
    exact orthoepylaw00_Rune.case3 a0 k w h0 h1 hp (by rw [hm]; rfl) (by rw [hm]; rfl) (by rw [hm]; rfl) (by rw [hm]; rfl)
  · have e : runeV k = runeTab24.getD (k / 16 % 100000 % 24).toNat 0 := by
      unfold runeV
      simp [hm]
    rw [e]
    exact orthoepylaw00_Rune.case4 a0 k w h0 h1 hp (by rw [hm]; rfl) (by rw [hm]; rfl) (by rw [hm]; rfl) (by rw [hm]; rfl) (by rw [hm]; rfl)
  · have e : runeV k = runeTab24.getD (k / 16 % 100000 % 24).toNat 0 := by
      unfold runeV
      simp [hm]
    rw [e]
    exact orthoepylaw00_Rune.case5 a0 k w h0 h1 hp (by rw [hm]; rfl) (by rw [hm]; rfl) (by rw [hm]; rfl) (by rw [hm]; rfl) (by rw [hm]; rfl) (by rw [hm]; rfl)
  · have e : runeV k = 192 + k / 16 % 100000 % 448 := by
      unfold runeV
      simp [hm]
    rw [e]
    exact orthoepylaw00_Rune.case6 a0 k w h0 h1 hp (by rw [hm]; rfl) (by rw [hm]; rfl) (by rw [hm]; rfl) (by rw [hm]; rfl) (by rw [hm]; rfl) (by rw [hm]; rfl) (by rw [hm]; rfl)
  · have e : runeV k = 7680 + k / 16 % 100000 % 512 := by
      unfold runeV
      simp [hm]
    rw [e]
    exact orthoepylaw00_Rune.case7 a0 k w h0 h1 hp (by rw [hm]; rfl) (by rw [hm]; rfl) (by rw [hm]; rfl) (by rw [hm]; rfl) (by rw [hm]; rfl) (by rw [hm]; rfl) (by rw [hm]; rfl) (by rw [hm]; rfl)
  · have e : runeV k = runeTab16.getD (k / 16 % 16).toNat 0 := by
      unfold runeV
      simp [hm]
    rw [e]
    exact orthoepylaw00_Rune.case8 a0 k w h0 h1 hp (by rw [hm]; rfl) (by rw [hm]; rfl) (by rw [hm]; rfl) (by rw [hm]; rfl) (by rw [hm]; rfl) (by rw [hm]; rfl) (by rw [hm]; rfl) (by rw [hm]; rfl) (by rw [hm]; rfl)
  · have e : runeV k = 44032 + k / 16 % 100000 % 11172 := by
      unfold runeV
      simp [hm]
    rw [e]
    exact orthoepylaw00_Rune.case9 a0 k w h0 h1 hp (by rw [hm]; rfl) (by rw [hm]; rfl) (by rw [hm]; rfl) (by rw [hm]; rfl) (by rw [hm]; rfl) (by rw [hm]; rfl) (by rw [hm]; rfl) (by rw [hm]; rfl) (by rw [hm]; rfl) (by rw [hm]; rfl)
  · have e : runeV k = runeTab3.getD (k / 16 % 100000 % 3).toNat 0 + k / 16 % 100000 / 3 % 30 := by
      unfold runeV
      simp [hm]
    rw [e]
    exact orthoepylaw00_Rune.case10 a0 k w h0 h1 hp (by rw [hm]; rfl) (by rw [hm]; rfl) (by rw [hm]; rfl) (by rw [hm]; rfl) (by rw [hm]; rfl) (by rw [hm]; rfl) (by rw [hm]; rfl) (by rw [hm]; rfl) (by rw [hm]; rfl) (by rw [hm]; rfl) (by rw [hm]; rfl)
  · have e : runeV k = runeTab8.getD (k / 16 % 8).toNat 0 := by
      unfold runeV
      simp [hm]
    rw [e]
    exact orthoepylaw00_Rune.case11 a0 k w h0 h1 hp (by rw [hm]; rfl) (by rw [hm]; rfl) (by rw [hm]; rfl) (by rw [hm]; rfl) (by rw [hm]; rfl) (by rw [hm]; rfl) (by rw [hm]; rfl) (by rw [hm]; rfl) (by rw [hm]; rfl) (by rw [hm]; rfl) (by rw [hm]; rfl) (by rw [hm]; rfl)
  · have e : runeV k = k / 16 % 100000 % 128 := by
      unfold runeV
      simp [hm]
    rw [e]
    exact orthoepylaw00_Rune.case12 a0 k w h0 h1 hp (by rw [hm]; rfl) (by rw [hm]; rfl) (by rw [hm]; rfl) (by rw [hm]; rfl) (by rw [hm]; rfl) (by rw [hm]; rfl) (by rw [hm]; rfl) (by rw [hm]; rfl) (by rw [hm]; rfl) (by rw [hm]; rfl) (by rw [hm]; rfl) (by rw [hm]; rfl) (by rw [hm]; rfl)
  · have e : runeV k = 880 + k / 16 % 100000 % 1536 := by
      unfold runeV
      simp [hm]
    rw [e]
    exact orthoepylaw00_Rune.case13 a0 k w h0 h1 hp (by rw [hm]; rfl) (by rw [hm]; rfl) (by rw [hm]; rfl) (by rw [hm]; rfl) (by rw [hm]; rfl) (by rw [hm]; rfl) (by rw [hm]; rfl) (by rw [hm]; rfl) (by rw [hm]; rfl) (by rw [hm]; rfl) (by rw [hm]; rfl) (by rw [hm]; rfl) (by rw [hm]; rfl) (by rw [hm]; rfl)
  · have e : runeV k = 12352 + k / 16 % 100000 % 192 := by
      unfold runeV
      simp [hm]
    rw [e]
    exact orthoepylaw00_Rune.case14 a0 k w h0 h1 hp (by rw [hm]; rfl) (by rw [hm]; rfl) (by rw [hm]; rfl) (by rw [hm]; rfl) (by rw [hm]; rfl) (by rw [hm]; rfl) (by rw [hm]; rfl) (by rw [hm]; rfl) (by rw [hm]; rfl) (by rw [hm]; rfl) (by rw [hm]; rfl) (by rw [hm]; rfl) (by rw [hm]; rfl) (by rw [hm]; rfl) (by rw [hm]; rfl)
  · have e : runeV k = k / 16 % 1114112 := by
      unfold runeV
      simp [hm]
    rw [e]
    exact orthoepylaw00_Rune.case15 a0 k w h0 h1 hp (by rw [hm]; rfl) (by rw [hm]; rfl) (by rw [hm]; rfl) (by rw [hm]; rfl) (by rw [hm]; rfl) (by rw [hm]; rfl) (by rw [hm]; rfl) (by rw [hm]; rfl) (by rw [hm]; rfl) (by rw [hm]; rfl) (by rw [hm]; rfl) (by rw [hm]; rfl) (by rw [hm]; rfl) (by rw [hm]; rfl) (by rw [hm]; rfl)

/-! ### orthoepylaw00_Runes: function 18 -/
mutual
def orthoepylaw00_Runes.l0 : Nat → List Int → List Int → Int → Option (List Int)
  | 0, _, _, _ => none
  | k + 1, x0, x3, x4 => if x4 < (x0.length : Int) then (orthoepylaw00_Runes.j1 k x0 x3 x4 (decide (x4 < 60))) else (orthoepylaw00_Runes.j1 k x0 x3 x4 false)
def orthoepylaw00_Runes.j1 : Nat → List Int → List Int → Int → Bool → Option (List Int)
  | 0, _, _, _, _ => none
  | k + 1, x0, x3, x4, x13 => if x13 = true then (if 0 ≤ x4 then (if x4 < (x0.length : Int) then ((orthoepylaw00_Rune.f (rd x0 x4)).bind fun t292 => ((orthoepyref01_Is.f t292).bind fun t293 => (if t293 = true then (if x3.length < 35184372088832 then (orthoepylaw00_Runes.l0 k x0 (x3 ++ [t292]) (wrap64 (x4 + 1))) else (none)) else (orthoepylaw00_Runes.l0 k x0 x3 (wrap64 (x4 + 1)))))) else (none)) else (none)) else (some x3)
end
def orthoepylaw00_Runes.f (k : Nat) (l0 : List Int) : Option (List Int) := orthoepylaw00_Runes.l0 k l0 ([] : List Int) 0
theorem orthoepylaw00_Runes.mono_l : ∀ k, (∀ y0 y1 y2, LeO (orthoepylaw00_Runes.l0 k y0 y1 y2) (orthoepylaw00_Runes.l0 (k + 1) y0 y1 y2)) ∧ (∀ y0 y1 y2 y3, LeO (orthoepylaw00_Runes.j1 k y0 y1 y2 y3) (orthoepylaw00_Runes.j1 (k + 1) y0 y1 y2 y3))
  | 0 => ⟨fun _ _ _ r h => by simp [orthoepylaw00_Runes.l0] at h, fun _ _ _ _ r h => by simp [orthoepylaw00_Runes.j1] at h⟩
  | k + 1 => by
    obtain ⟨ih0, ih1⟩ := orthoepylaw00_Runes.mono_l k
    refine ⟨?_, ?_⟩
    · intro y0 y1 y2
      unfold orthoepylaw00_Runes.l0
      repeat' first
      | (with_reducible exact ih0 _ _ _)
      | (with_reducible exact ih1 _ _ _ _)
      | (with_reducible exact LeO.refl _)
      | (with_reducible exact LeO.none _)
      | (with_reducible refine LeO.ite ?_ ?_)
      | (with_reducible refine LeO.bind ?_ (fun _ => ?_))
      | exact ih0 _ _ _
      | exact ih1 _ _ _ _
      | exact LeO.none _
      | refine LeO.ite ?_ ?_
      | refine LeO.bind ?_ (fun _ => ?_)
    · intro y0 y1 y2 y3
      unfold orthoepylaw00_Runes.j1
      repeat' first
      | (with_reducible exact ih0 _ _ _)
      | (with_reducible exact ih1 _ _ _ _)
      | (with_reducible exact LeO.refl _)
      | (with_reducible exact LeO.none _)
      | (with_reducible refine LeO.ite ?_ ?_)
      | (with_reducible refine LeO.bind ?_ (fun _ => ?_))
      | exact ih0 _ _ _
      | exact ih1 _ _ _ _
      | exact LeO.none _
      | refine LeO.ite ?_ ?_
      | refine LeO.bind ?_ (fun _ => ?_)
theorem orthoepylaw00_Runes.mono : ∀ a0 k, LeO (orthoepylaw00_Runes.f k a0) (orthoepylaw00_Runes.f (k + 1) a0) := by
  intro a0 k
  obtain ⟨ih0, ih1⟩ := orthoepylaw00_Runes.mono_l k
  unfold orthoepylaw00_Runes.f
  repeat' first
      | (with_reducible exact ih0 _ _ _)
      | (with_reducible exact ih1 _ _ _ _)
      | (with_reducible exact LeO.refl _)
      | (with_reducible exact LeO.none _)
      | (with_reducible refine LeO.ite ?_ ?_)
      | (with_reducible refine LeO.bind ?_ (fun _ => ?_))
      | exact ih0 _ _ _
      | exact ih1 _ _ _ _
      | exact LeO.none _
      | refine LeO.ite ?_ ?_
      | refine LeO.bind ?_ (fun _ => ?_)
set_option maxHeartbeats 8000000 in
set_option maxRecDepth 100000 in
theorem orthoepylaw00_Runes.calls (k : Nat) (A0 : Option Addr) (c0 : Nat) (l0 : List Int) (r : List Int) (w : World) (hr0 : Kd.C (Kd.int .i64) w A0 l0.length l0) (hc0 : l0.length ≤ c0) (h : orthoepylaw00_Runes.f k l0 = some r) :
    Calls Try.prog 18 #[.slice A0 l0.length c0] w fun e w' => ∃ v0_ : Value, e = .returned (v0_) ∧ Kd.R (Kd.int .i32) 21 w' w.heap.size (fun _ => True) v0_ r ∧ Below w.heap.size w w' := by
  have HR0 := Aside0.mk hr0
  have HC0 := Aside0.mk hc0
  clear hr0 hc0
  have HB := Aside0.mk (Below.refl w.heap.size w)
  have H : (orthoepylaw00_Runes.l0 k l0 ([] : List Int) 0) = some r := h
  clear h
  have H' := Aside0.mk H
  clear H
  go_enter Try.func18, Try.ntmps18
  go_wp2
  go_loopg [3, 4] k (fun kq v3 v4 w' => ∃ (x3_1 : List Int) (x4_1 : Int), v4 = .int .i64 x4_1 ∧ Aside0 (orthoepylaw00_Runes.l0 kq l0 x3_1 x4_1 = some r) ∧ Aside0 (kq ≤ k) ∧ Aside0 (Kd.R (Kd.int .i32) 21 w' w.heap.size (fun _ => True) v3 x3_1) ∧ Aside0 (Below w.heap.size w w'))
  case atStart => exact ⟨(([] : List Int)), (0), (by first | rfl | (simp; done) | (simp [*]; done)), H', ⟨Nat.le_refl _⟩, ⟨by first | exact Kd.R_nil _ _ _ _ _ | exact Kd.N_nil _ _ _ _ _ | exact Kd.V_nil _ _ _ _ _ | exact Kd.Q_nil _ _ _ _ _ | exact Kd.S_nil _ _ _ _ _⟩, ⟨by repeat (first | (with_reducible first | exact HB.out | apply below_alloc | apply pw_below_drewN | apply below_drew1) | exact HB.out)⟩⟩
  case round =>
    clear H'
    try clear c1
    obtain ⟨x3_1, x4_1, rfl, HA, HK1, HO_3, HB⟩ := hrel
    cases gk with
    | zero => exact absurd HA.out (by simp [orthoepylaw00_Runes.l0])
    | succ k1 =>
      have H := HA.out
      clear HA
      simp only [orthoepylaw00_Runes.l0] at H
      have HC2 := Aside0.mk H
      clear H
      go_upto_region 3 with (fail)
      go_cut [13] (fun v13 wc => ∃ (kq : Nat) (x13_1 : Bool), v13 = .bool x13_1 ∧ Aside0 (orthoepylaw00_Runes.j1 kq l0 x3_1 x4_1 x13_1 = some r) ∧ Aside0 (kq ≤ k1) ∧ Aside0 (Kd.R (Kd.int .i32) 21 wc w.heap.size (fun _ => True) u3 x3_1) ∧ Aside0 (Below w.heap.size w wc))
      case first =>
        have H := HC2.out
        clear HC2
        by_cases c3 : x4_1 < (l0.length : Int)
        · rw [if_pos c3] at H
          have c3b0 : decide (x4_1 < (l0.length : Int)) = true := decide_eq_true c3
          clear c3
          (first | rw [c3b0] | (simp only [i64_w, i32_w]; rw [c3b0]) | skip)
          have H' := Aside0.mk H
          clear H
          go_wp2
          go_meet
          case rel => exact ⟨_, (decide (x4_1 < 60)), (by first | rfl | (simp; done) | (simp [*]; done)), H', ⟨by have := HK1.out; first | omega | exact Nat.le_refl _⟩, ⟨by (with_reducible repeat (first | apply Kd.R_alloc | apply Kd.R_drewN | apply Kd.R_drew)); exact HO_3.out⟩, ⟨by repeat (first | (with_reducible first | exact HB.out | apply below_alloc | apply pw_below_drewN | apply below_drew1) | exact HB.out)⟩⟩
        · rw [if_neg c3] at H
          have c3b0 : decide (x4_1 < (l0.length : Int)) = false := decide_eq_false c3
          clear c3
          (first | rw [c3b0] | (simp only [i64_w, i32_w]; rw [c3b0]) | skip)
          have H' := Aside0.mk H
          clear H
          go_wp2
          go_meet
          case rel => exact ⟨_, (false), (by first | rfl | (simp; done) | (simp [*]; done)), H', ⟨by have := HK1.out; first | omega | exact Nat.le_refl _⟩, ⟨by (with_reducible repeat (first | apply Kd.R_alloc | apply Kd.R_drewN | apply Kd.R_drew)); exact HO_3.out⟩, ⟨by repeat (first | (with_reducible first | exact HB.out | apply below_alloc | apply pw_below_drewN | apply below_drew1) | exact HB.out)⟩⟩
      case rest =>
        clear HC2
        try clear c1
        try clear p2
        try clear c3
        try clear c3b0
        obtain ⟨kq, x13_1, rfl, HA, HJ1, HO_3, HB⟩ := hcut
        cases kq with
        | zero => exact absurd HA.out (by simp [orthoepylaw00_Runes.j1])
        | succ kj1 =>
          have H := HA.out
          clear HA
          simp only [orthoepylaw00_Runes.j1] at H
          by_cases c4 : x13_1 = true
          · subst c4
            have H1 : (if 0 ≤ x4_1 then (if x4_1 < (l0.length : Int) then ((orthoepylaw00_Rune.f (rd l0 x4_1)).bind fun t292 => ((orthoepyref01_Is.f t292).bind fun t293 => (if t293 = true then (if x3_1.length < 35184372088832 then (orthoepylaw00_Runes.l0 kj1 l0 (x3_1 ++ [t292]) (wrap64 (x4_1 + 1))) else (none)) else (orthoepylaw00_Runes.l0 kj1 l0 x3_1 (wrap64 (x4_1 + 1)))))) else (none)) else (none)) = some r := by rw [if_pos rfl] at H; exact H
            clear H
            have H := H1
            clear H1
            by_cases c5 : 0 ≤ x4_1
            · rw [if_pos c5] at H
              have c5b0 : decide (0 ≤ x4_1) = true := decide_eq_true c5
              clear c5
              by_cases c6 : x4_1 < (l0.length : Int)
              · rw [if_pos c6] at H
                have c6b0 : decide (x4_1 < (l0.length : Int)) = true := decide_eq_true c6
                clear c6
                replace H := Option.bind_eq_some_iff.mp H
                obtain ⟨t292, A70, H⟩ := H
                replace H : ((orthoepyref01_Is.f t292).bind fun t293 => (if t293 = true then (if x3_1.length < 35184372088832 then (orthoepylaw00_Runes.l0 kj1 l0 (x3_1 ++ [t292]) (wrap64 (x4_1 + 1))) else (none)) else (orthoepylaw00_Runes.l0 kj1 l0 x3_1 (wrap64 (x4_1 + 1))))) = some r := H
                have A7 := Aside0.mk A70
                clear A70
                replace H := Option.bind_eq_some_iff.mp H
                obtain ⟨t293, A80, H⟩ := H
                replace H : (if t293 = true then (if x3_1.length < 35184372088832 then (orthoepylaw00_Runes.l0 kj1 l0 (x3_1 ++ [t292]) (wrap64 (x4_1 + 1))) else (none)) else (orthoepylaw00_Runes.l0 kj1 l0 x3_1 (wrap64 (x4_1 + 1)))) = some r := H
                have A8 := Aside0.mk A80
                clear A80
                by_cases c9 : t293 = true
                · subst c9
                  have H1 : (if x3_1.length < 35184372088832 then (orthoepylaw00_Runes.l0 kj1 l0 (x3_1 ++ [t292]) (wrap64 (x4_1 + 1))) else (none)) = some r := by rw [if_pos rfl] at H; exact H
                  clear H
                  have H := H1
                  clear H1
                  by_cases c10 : x3_1.length < 35184372088832
                  · rw [if_pos c10] at H
                    have LMc10 := Aside0.mk c10
                    clear c10
                    obtain ⟨y294, hy294⟩ : ∃ y_ : List Int, y_ = (x3_1 ++ [t292]) := ⟨_, rfl⟩
                    replace H : (orthoepylaw00_Runes.l0 kj1 l0 y294 (wrap64 (x4_1 + 1))) = some r := by first | (rw [hy294]; with_reducible exact H) | (have H2_ := (Option.bind_some _ _).symm.trans H; rw [hy294]; with_reducible exact H2_) | (have H2_ := (Option.bind_some _ _).symm.trans H; with_reducible exact H2_) | with_reducible exact H | (rw [hy294]; exact H) | exact H
                    have Ny294 := Aside0.mk hy294
                    clear hy294
                    have H' := Aside0.mk H
                    clear H
                    have p291 : 0 ≤ (x4_1 : Int) := of_decide_eq_true (by first | (with_reducible assumption) | assumption)
                    have q291 : x4_1 < (l0.length : Int) := of_decide_eq_true (by first | (with_reducible assumption) | assumption)
                    obtain ⟨ad291, e291, hx291_0⟩ := Kd.at_int HR0.out x4_1 p291 q291
                    cases e291
                    replace hx291_0 := (HB.out.cell (World.block_lt_of_cell? w _ hx291_0)).trans hx291_0
                    replace p291 := eq_true p291
                    replace q291 := eq_true q291
                    go_wp2_with (first | ((with_reducible refine gate_callee (f := 24) rfl ?_); refine goesL_ (some 20) rfl rfl Try.func24 (by kernel_rfl) rfl #[.int .i64 (rd l0 x4_1)] rfl (by (try simp only [List.map_toArray, List.map_cons, List.map_nil]); first | done | rfl | (simp only [List.length_drop, List.length_take]; rfl)) ?_; (with_reducible refine (orthoepylaw00_Rune.calls (rd l0 x4_1) t292 _ A7.out).mono ?_); rintro e w' ⟨rfl, ⟨nd, rfl⟩⟩; refine ⟨_, rfl, ?_⟩) | ((with_reducible refine gate_callee (f := 25) rfl ?_); refine goesL_ (some 22) rfl rfl Try.func25 (by kernel_rfl) rfl #[.int .i32 t292] rfl (by (try simp only [List.map_toArray, List.map_cons, List.map_nil]); first | done | rfl | (simp only [List.length_drop, List.length_take]; rfl)) ?_; (with_reducible refine (orthoepyref01_Is.calls t292 true _ A8.out).mono ?_); rintro e w' ⟨rfl, ⟨nd, rfl⟩⟩; refine ⟨_, rfl, ?_⟩) | ((with_reducible refine gate_builtin (b := .append) (xs := #[.tmp 23, .tmp 25]) rfl ?_); at_builtin; refine Kd.R_append (Kd.int .i32) (w0 := w) w.heap.size rfl (.tmp 23) (.tmp 25) 23 21 (.int .i32 0) 4 rfl Try.underlying23 info21 rfl (by decide) (by omega) u3 x3_1 t292 [.int .i32 t292] (fun _ => True) (fun _ => False) rfl rfl ?aP (fun _ hk => hk.elim) ?aF ?aO ?aB ?aS ?aL ?_; (case aP => exact rfl); (case aB => exact (by repeat (first | (with_reducible first | exact HB.out | apply below_alloc | apply pw_below_drewN | apply below_drew1) | exact HB.out))); (case aF => exact (fun _ _ => trivial)); (case aO => exact (by (with_reducible repeat (first | apply Kd.R_alloc | apply Kd.R_drewN | apply Kd.R_drew)); exact HO_3.out)); (case aS => exact (below_size (by repeat (first | (with_reducible first | exact HB.out | apply below_alloc | apply pw_below_drewN | apply below_drew1) | exact HB.out)))); (case aL => have := LMc10.out; omega); intro v295 w11 ho hb hg hat; rw [← Ny294.out] at ho; have n0_ := Aside0.mk (hb); have n1_ := Aside0.mk (ho); clear HB; clear HO_3; have HB := n0_; have HO296 := n1_; clear n0_ n1_; clear ho hb hg hat))
                    go_roundg kj1
                    case measure => have := HK1.out; have := HJ1.out; omega
                    case rel => exact ⟨(y294), (wrap64 (x4_1 + 1)), (by first | rfl | (simp; done) | (simp [*]; done)), H', ⟨by have := HK1.out; have := HJ1.out; omega⟩, ⟨by (with_reducible repeat (first | apply Kd.R_alloc | apply Kd.R_drewN | apply Kd.R_drew)); exact HO296.out⟩, ⟨by repeat (first | (with_reducible first | exact HB.out | apply below_alloc | apply pw_below_drewN | apply below_drew1) | exact HB.out)⟩⟩
                  · rw [if_neg c10] at H
                    exact absurd H (by simp)
                · replace c9 := Bool.eq_false_iff.mpr c9
                  subst c9
                  have H1 : (orthoepylaw00_Runes.l0 kj1 l0 x3_1 (wrap64 (x4_1 + 1))) = some r := by rw [if_neg (show ¬ (false = true) by decide)] at H; exact H
                  clear H
                  have H := H1
                  clear H1
                  have H' := Aside0.mk H
                  clear H
                  have p291 : 0 ≤ (x4_1 : Int) := of_decide_eq_true (by first | (with_reducible assumption) | assumption)
                  have q291 : x4_1 < (l0.length : Int) := of_decide_eq_true (by first | (with_reducible assumption) | assumption)
                  obtain ⟨ad291, e291, hx291_0⟩ := Kd.at_int HR0.out x4_1 p291 q291
                  cases e291
                  replace hx291_0 := (HB.out.cell (World.block_lt_of_cell? w _ hx291_0)).trans hx291_0
                  replace p291 := eq_true p291
                  replace q291 := eq_true q291
                  go_wp2_with (first | ((with_reducible refine gate_callee (f := 24) rfl ?_); refine goesL_ (some 20) rfl rfl Try.func24 (by kernel_rfl) rfl #[.int .i64 (rd l0 x4_1)] rfl (by (try simp only [List.map_toArray, List.map_cons, List.map_nil]); first | done | rfl | (simp only [List.length_drop, List.length_take]; rfl)) ?_; (with_reducible refine (orthoepylaw00_Rune.calls (rd l0 x4_1) t292 _ A7.out).mono ?_); rintro e w' ⟨rfl, ⟨nd, rfl⟩⟩; refine ⟨_, rfl, ?_⟩) | ((with_reducible refine gate_callee (f := 25) rfl ?_); refine goesL_ (some 22) rfl rfl Try.func25 (by kernel_rfl) rfl #[.int .i32 t292] rfl (by (try simp only [List.map_toArray, List.map_cons, List.map_nil]); first | done | rfl | (simp only [List.length_drop, List.length_take]; rfl)) ?_; (with_reducible refine (orthoepyref01_Is.calls t292 false _ A8.out).mono ?_); rintro e w' ⟨rfl, ⟨nd, rfl⟩⟩; refine ⟨_, rfl, ?_⟩))
                  go_roundg kj1
                  case measure => have := HK1.out; have := HJ1.out; omega
                  case rel => exact ⟨(x3_1), (wrap64 (x4_1 + 1)), (by first | rfl | (simp; done) | (simp [*]; done)), H', ⟨by have := HK1.out; have := HJ1.out; omega⟩, ⟨by (with_reducible repeat (first | apply Kd.R_alloc | apply Kd.R_drewN | apply Kd.R_drew)); exact HO_3.out⟩, ⟨by repeat (first | (with_reducible first | exact HB.out | apply below_alloc | apply pw_below_drewN | apply below_drew1) | exact HB.out)⟩⟩
              · rw [if_neg c6] at H
                exact absurd H (by simp)
            · rw [if_neg c5] at H
              exact absurd H (by simp)
          · replace c4 := Bool.eq_false_iff.mpr c4
            subst c4
            have H1 : (some x3_1) = some r := by rw [if_neg (show ¬ (false = true) by decide)] at H; exact H
            clear H
            have H := H1
            clear H1
            obtain rfl := Option.some.inj H
            go_wp2
            go_ret
            exact ⟨_, by first | rfl | (simp [errW_none, errW_some] <;> rfl) | (simp [*, errW_none, errW_some] <;> rfl), by (with_reducible repeat (first | apply Kd.R_alloc | apply Kd.R_drewN | apply Kd.R_drew)); exact HO_3.out, by repeat (first | (with_reducible first | exact HB.out | apply below_alloc | apply pw_below_drewN | apply below_drew1) | exact HB.out)⟩

end Go.Proofs.Ytoalfgmnikbpaaa.PAll
