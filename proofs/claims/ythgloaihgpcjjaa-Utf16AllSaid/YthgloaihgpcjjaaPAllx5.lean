-- The machine's side of laws, written by a program of this session (wip/gen/pp.sh). Lean checks it.
import Derived.Test.YthgloaihgpcjjaaPAllx0
import Derived.Test.YthgloaihgpcjjaaPAllx1
import Derived.Test.YthgloaihgpcjjaaPAllx2
import Derived.Test.YthgloaihgpcjjaaPAllx3
import Derived.Test.YthgloaihgpcjjaaPAllx4
namespace Go.Proofs.Ythgloaihgpcjjaa.PAll
open Go.RowKit Go.Proofs.YthgloaihgpcjjaaW.PrintWords Go.Proofs.YthgloaihgpcjjaaW.PrintLast Go.Proofs.YthgloaihgpcjjaaW.PrintMore
attribute [local go_sem] max2_int min2_int max_two min_two max_three min_three max_four min_four   -- for this text's walks alone
set_option linter.unusedVariables false
set_option linter.unusedSimpArgs false

/-! ### orthoepylaw00_Rune: function 19 -/
theorem run_index_arr {P : Program} (w : World) (T e n : Nat) (cs : Array Value) (k ke : IntKind) (i : Int) (c : Value) (h : P.underlying T = some (.array n e)) (he : P.underlying e = some (.int ke)) (hs : (P.info? e).map (·.size) = some 1)
    (h0 : 0 ≤ i) (h1 : i < n) (hc : cs[i.toNat]? = some c) : (Instr.index T (.agg cs) (.int k i)).run P w = .ok c w := by
  obtain ⟨inf, hi, hs⟩ := Option.map_eq_some_iff.1 hs
  simp [Instr.index, run_underlying h, asIntOf, h0, h1, part, isAgg, run_underlying he, sizeOf, typeInfo, hi, hs, go_sem]
  rw [hc]
  rfl
theorem wpList_build_is {P : Program} {ops : Array Oper} {rest : List Oper} {o : Oper} {a : Act} {Q : Exit → Act → World → Prop} {W : World} (hg : o.guard = none) (t : TypeId) (parts : Array (Nat × Operand)) (ho : o.op = .build t parts) (cells : Array Value)
    (hf : P.built t (parts.map fun (i, x) => (i, a.eval x)).toList = some cells) (h : wpList P ops Q rest (a.put o.dst (.agg cells)) W) : wpList P ops Q (o :: rest) a W :=
  wpList_build hg t parts ho (by rw [hf]; rfl) (by rw [hf]; exact h)
theorem gate_build {P : Program} {ops : Array Oper} {rest : List Oper} {o : Oper} {a : Act} {Q : Exit → Act → World → Prop} {W : World} {t : TypeId} {xs : Array (Nat × Operand)} (_ho : o.op = .build t xs) (h : wpList P ops Q (o :: rest) a W) : wpList P ops Q (o :: rest) a W := h
def runeTab12 : List Int := [65, 69, 79, 97, 101, 111, 2325, 2344, 4352, 4370, 12363, 2503]
theorem runeTab12_at (i : Int) (h0 : 0 ≤ i) (h1 : i < 12) : (#[.int .i32 65, .int .i32 69, .int .i32 79, .int .i32 97, .int .i32 101, .int .i32 111, .int .i32 2325, .int .i32 2344, .int .i32 4352, .int .i32 4370, .int .i32 12363, .int .i32 2503] : Array Value)[i.toNat]? = some (.int .i32 (runeTab12.getD i.toNat 0)) := by
  obtain ⟨j, rfl⟩ := Int.eq_ofNat_of_zero_le h0
  have hj : j < 12 := by omega
  simp only [Int.toNat_natCast]
  match j, hj with
  | 0, _ => rfl
  | 1, _ => rfl
  | 2, _ => rfl
  | 3, _ => rfl
  | 4, _ => rfl
  | 5, _ => rfl
  | 6, _ => rfl
  | 7, _ => rfl
  | 8, _ => rfl
  | 9, _ => rfl
  | 10, _ => rfl
  | 11, _ => rfl
  | q + 12, h => exact absurd h (by omega)
theorem runeTab12_bound (j : Nat) : 0 ≤ runeTab12.getD j 0 ∧ runeTab12.getD j 0 ≤ 1114111 := by
  have h : ∀ x ∈ runeTab12, 0 ≤ x ∧ x ≤ 1114111 := by decide
  rw [List.getD_eq_getElem?_getD]
  cases hj : runeTab12[j]? with
  | none => simp
  | some x => exact h x (List.mem_of_getElem? hj)
def runeTab24 : List Int := [768, 769, 770, 771, 772, 774, 775, 776, 778, 780, 803, 807, 808, 795, 837, 820, 2364, 12441, 12442, 1456, 1460, 824, 834, 2494]
theorem runeTab24_at (i : Int) (h0 : 0 ≤ i) (h1 : i < 24) : (#[.int .i32 768, .int .i32 769, .int .i32 770, .int .i32 771, .int .i32 772, .int .i32 774, .int .i32 775, .int .i32 776, .int .i32 778, .int .i32 780, .int .i32 803, .int .i32 807, .int .i32 808, .int .i32 795, .int .i32 837, .int .i32 820, .int .i32 2364, .int .i32 12441, .int .i32 12442, .int .i32 1456, .int .i32 1460, .int .i32 824, .int .i32 834, .int .i32 2494] : Array Value)[i.toNat]? = some (.int .i32 (runeTab24.getD i.toNat 0)) := by
  obtain ⟨j, rfl⟩ := Int.eq_ofNat_of_zero_le h0
  have hj : j < 24 := by omega
  simp only [Int.toNat_natCast]
  match j, hj with
  | 0, _ => rfl
  | 1, _ => rfl
  | 2, _ => rfl
  | 3, _ => rfl
  | 4, _ => rfl
  | 5, _ => rfl
  | 6, _ => rfl
  | 7, _ => rfl
  | 8, _ => rfl
  | 9, _ => rfl
  | 10, _ => rfl
  | 11, _ => rfl
  | 12, _ => rfl
  | 13, _ => rfl
  | 14, _ => rfl
  | 15, _ => rfl
  | 16, _ => rfl
  | 17, _ => rfl
  | 18, _ => rfl
  | 19, _ => rfl
  | 20, _ => rfl
  | 21, _ => rfl
  | 22, _ => rfl
  | 23, _ => rfl
  | q + 24, h => exact absurd h (by omega)
theorem runeTab24_bound (j : Nat) : 0 ≤ runeTab24.getD j 0 ∧ runeTab24.getD j 0 ≤ 1114111 := by
  have h : ∀ x ∈ runeTab24, 0 ≤ x ∧ x ≤ 1114111 := by decide
  rw [List.getD_eq_getElem?_getD]
  cases hj : runeTab24[j]? with
  | none => simp
  | some x => exact h x (List.mem_of_getElem? hj)
def runeTab16 : List Int := [8491, 8486, 8490, 832, 833, 836, 884, 894, 2392, 2399, 63744, 64109, 194560, 119134, 64300, 10972]
theorem runeTab16_at (i : Int) (h0 : 0 ≤ i) (h1 : i < 16) : (#[.int .i32 8491, .int .i32 8486, .int .i32 8490, .int .i32 832, .int .i32 833, .int .i32 836, .int .i32 884, .int .i32 894, .int .i32 2392, .int .i32 2399, .int .i32 63744, .int .i32 64109, .int .i32 194560, .int .i32 119134, .int .i32 64300, .int .i32 10972] : Array Value)[i.toNat]? = some (.int .i32 (runeTab16.getD i.toNat 0)) := by
  obtain ⟨j, rfl⟩ := Int.eq_ofNat_of_zero_le h0
  have hj : j < 16 := by omega
  simp only [Int.toNat_natCast]
  match j, hj with
  | 0, _ => rfl
  | 1, _ => rfl
  | 2, _ => rfl
  | 3, _ => rfl
  | 4, _ => rfl
  | 5, _ => rfl
  | 6, _ => rfl
  | 7, _ => rfl
  | 8, _ => rfl
  | 9, _ => rfl
  | 10, _ => rfl
  | 11, _ => rfl
  | 12, _ => rfl
  | 13, _ => rfl
  | 14, _ => rfl
  | 15, _ => rfl
  | q + 16, h => exact absurd h (by omega)
theorem runeTab16_bound (j : Nat) : 0 ≤ runeTab16.getD j 0 ∧ runeTab16.getD j 0 ≤ 1114111 := by
  have h : ∀ x ∈ runeTab16, 0 ≤ x ∧ x ≤ 1114111 := by decide
  rw [List.getD_eq_getElem?_getD]
  cases hj : runeTab16[j]? with
  | none => simp
  | some x => exact h x (List.mem_of_getElem? hj)
def runeTab3 : List Int := [4352, 4449, 4519]
theorem runeTab3_at (i : Int) (h0 : 0 ≤ i) (h1 : i < 3) : (#[.int .i32 4352, .int .i32 4449, .int .i32 4519] : Array Value)[i.toNat]? = some (.int .i32 (runeTab3.getD i.toNat 0)) := by
  obtain ⟨j, rfl⟩ := Int.eq_ofNat_of_zero_le h0
  have hj : j < 3 := by omega
  simp only [Int.toNat_natCast]
  match j, hj with
  | 0, _ => rfl
  | 1, _ => rfl
  | 2, _ => rfl
  | q + 3, h => exact absurd h (by omega)
theorem runeTab3_bound (j : Nat) : 0 ≤ runeTab3.getD j 0 ∧ runeTab3.getD j 0 ≤ 1114111 := by
  have h : ∀ x ∈ runeTab3, 0 ≤ x ∧ x ≤ 1114111 := by decide
  rw [List.getD_eq_getElem?_getD]
  cases hj : runeTab3[j]? with
  | none => simp
  | some x => exact h x (List.mem_of_getElem? hj)
def runeTab8 : List Int := [128512, 65536, 1114109, 57344, 64307, 65533, 55295, 8232]
theorem runeTab8_at (i : Int) (h0 : 0 ≤ i) (h1 : i < 8) : (#[.int .i32 128512, .int .i32 65536, .int .i32 1114109, .int .i32 57344, .int .i32 64307, .int .i32 65533, .int .i32 55295, .int .i32 8232] : Array Value)[i.toNat]? = some (.int .i32 (runeTab8.getD i.toNat 0)) := by
  obtain ⟨j, rfl⟩ := Int.eq_ofNat_of_zero_le h0
  have hj : j < 8 := by omega
  simp only [Int.toNat_natCast]
  match j, hj with
  | 0, _ => rfl
  | 1, _ => rfl
  | 2, _ => rfl
  | 3, _ => rfl
  | 4, _ => rfl
  | 5, _ => rfl
  | 6, _ => rfl
  | 7, _ => rfl
  | q + 8, h => exact absurd h (by omega)
theorem runeTab8_bound (j : Nat) : 0 ≤ runeTab8.getD j 0 ∧ runeTab8.getD j 0 ≤ 1114111 := by
  have h : ∀ x ∈ runeTab8, 0 ≤ x ∧ x ≤ 1114111 := by decide
  rw [List.getD_eq_getElem?_getD]
  cases hj : runeTab8[j]? with
  | none => simp
  | some x => exact h x (List.mem_of_getElem? hj)
/-- What rune a number below 2^40 stands for. -/
def runeV (k : Int) : Int :=
  if k % 16 < 2 then 97 + k / 16 % 100000 % 26 else if k % 16 = 2 then runeTab12.getD (k / 16 % 100000 % 12).toNat 0 else if k % 16 < 6 then runeTab24.getD (k / 16 % 100000 % 24).toNat 0 else if k % 16 = 6 then 192 + k / 16 % 100000 % 448
  else if k % 16 = 7 then 7680 + k / 16 % 100000 % 512 else if k % 16 = 8 then runeTab16.getD (k / 16 % 16).toNat 0 else if k % 16 = 9 then 44032 + k / 16 % 100000 % 11172
  else if k % 16 = 10 then runeTab3.getD (k / 16 % 100000 % 3).toNat 0 + k / 16 % 100000 / 3 % 30 else if k % 16 = 11 then runeTab8.getD (k / 16 % 8).toNat 0 else if k % 16 = 12 then k / 16 % 100000 % 128
  else if k % 16 = 13 then 880 + k / 16 % 100000 % 1536 else if k % 16 = 14 then 12352 + k / 16 % 100000 % 192 else k / 16 % 1114112
theorem runeV_bound (k : Int) (h0 : 0 ≤ k) : 0 ≤ runeV k ∧ runeV k ≤ 2147483647 := by
  have b12 := runeTab12_bound (k / 16 % 100000 % 12).toNat
  have b24 := runeTab24_bound (k / 16 % 100000 % 24).toNat
  have b16 := runeTab16_bound (k / 16 % 16).toNat
  have b3 := runeTab3_bound (k / 16 % 100000 % 3).toNat
  have b8 := runeTab8_bound (k / 16 % 8).toNat
  unfold runeV
  (repeat' split) <;> omega
def orthoepylaw00_Rune.f (a0 : Int) : Option (Int) := (orthoepylaw00_Place.f a0 1099511627776).bind fun k => if 0 ≤ k ∧ k < 1099511627776 then some (runeV k) else none
set_option maxHeartbeats 8000000 in
set_option maxRecDepth 100000 in
theorem orthoepylaw00_Rune.case0 (a0 : Int) (k : Int) (w : World) (h0 : 0 ≤ k) (h1 : k < 1099511627776) (hp : Aside0 (orthoepylaw00_Place.f a0 1099511627776 = some k)) (c0 : (k % 16 == 0) = true) :
    Calls Try.prog 19 #[.int .i64 a0] w fun e w' => e = .returned (.int .i32 (97 + k / 16 % 100000 % 26)) ∧ Drawn0 w w' := by
  go_enter Try.func19, Try.ntmps19
  go_wp2_with (first | ((with_reducible refine gate_callee (f := 22) rfl ?_); refine goesL_ (some 6) rfl rfl Try.func22 (by kernel_rfl) rfl #[.int .i64 a0, .int .i64 1099511627776] rfl (by (try simp only [List.map_toArray, List.map_cons, List.map_nil]); first | done | rfl) ?_; (with_reducible refine (orthoepylaw00_Place.calls a0 1099511627776 k _ hp.out).mono ?_); rintro e w' ⟨rfl, ⟨nd, rfl⟩⟩; refine ⟨_, rfl, ?_⟩))
  go_ret
  exact ⟨by first | rfl | (simp; done), by repeat (first | exact Drawn0.refl _ | apply Drawn0.step)⟩
set_option maxHeartbeats 8000000 in
set_option maxRecDepth 100000 in
theorem orthoepylaw00_Rune.case1 (a0 : Int) (k : Int) (w : World) (h0 : 0 ≤ k) (h1 : k < 1099511627776) (hp : Aside0 (orthoepylaw00_Place.f a0 1099511627776 = some k)) (c0 : (k % 16 == 0) = false) (c1 : (k % 16 == 1) = true) :
    Calls Try.prog 19 #[.int .i64 a0] w fun e w' => e = .returned (.int .i32 (97 + k / 16 % 100000 % 26)) ∧ Drawn0 w w' := by
  go_enter Try.func19, Try.ntmps19
  go_wp2_with (first | ((with_reducible refine gate_callee (f := 22) rfl ?_); refine goesL_ (some 6) rfl rfl Try.func22 (by kernel_rfl) rfl #[.int .i64 a0, .int .i64 1099511627776] rfl (by (try simp only [List.map_toArray, List.map_cons, List.map_nil]); first | done | rfl) ?_; (with_reducible refine (orthoepylaw00_Place.calls a0 1099511627776 k _ hp.out).mono ?_); rintro e w' ⟨rfl, ⟨nd, rfl⟩⟩; refine ⟨_, rfl, ?_⟩))
  go_ret
  exact ⟨by first | rfl | (simp; done), by repeat (first | exact Drawn0.refl _ | apply Drawn0.step)⟩
set_option maxHeartbeats 8000000 in
set_option maxRecDepth 100000 in
theorem orthoepylaw00_Rune.case2 (a0 : Int) (k : Int) (w : World) (h0 : 0 ≤ k) (h1 : k < 1099511627776) (hp : Aside0 (orthoepylaw00_Place.f a0 1099511627776 = some k)) (c0 : (k % 16 == 0) = false) (c1 : (k % 16 == 1) = false) (c2 : (k % 16 == 2) = true) :
    Calls Try.prog 19 #[.int .i64 a0] w fun e w' => e = .returned (.int .i32 (runeTab12.getD (k / 16 % 100000 % 12).toNat 0)) ∧ Drawn0 w w' := by
  have hidx : ∀ w : World, (Instr.index 54 (.agg (#[.int .i32 65, .int .i32 69, .int .i32 79, .int .i32 97, .int .i32 101, .int .i32 111, .int .i32 2325, .int .i32 2344, .int .i32 4352, .int .i32 4370, .int .i32 12363, .int .i32 2503])) (.int .i32 (k / 16 % 100000 % 12))).run Try.prog w = .ok (.int .i32 (runeTab12.getD (k / 16 % 100000 % 12).toNat 0)) w := fun w => run_index_arr w 54 21 12 _ .i32 .i32 _ _ Try.underlying54 Try.underlying21 (by kernel_rfl) (by omega) (by omega) (runeTab12_at _ (by omega) (by omega))
  have hb := runeTab12_bound (k / 16 % 100000 % 12).toNat
  rw [List.getD_eq_getElem?_getD] at hb
  go_enter Try.func19, Try.ntmps19
  go_wp2_with (first | ((with_reducible refine gate_callee (f := 22) rfl ?_); refine goesL_ (some 6) rfl rfl Try.func22 (by kernel_rfl) rfl #[.int .i64 a0, .int .i64 1099511627776] rfl (by (try simp only [List.map_toArray, List.map_cons, List.map_nil]); first | done | rfl) ?_; (with_reducible refine (orthoepylaw00_Place.calls a0 1099511627776 k _ hp.out).mono ?_); rintro e w' ⟨rfl, ⟨nd, rfl⟩⟩; refine ⟨_, rfl, ?_⟩) | ((with_reducible refine gate_build (t := 54) rfl ?_); refine wpList_build_is rfl 54 _ rfl (#[.int .i32 65, .int .i32 69, .int .i32 79, .int .i32 97, .int .i32 101, .int .i32 111, .int .i32 2325, .int .i32 2344, .int .i32 4352, .int .i32 4370, .int .i32 12363, .int .i32 2503]) (by kernel_rfl) ?_))
  go_ret
  exact ⟨by first | rfl | (simp; done), by repeat (first | exact Drawn0.refl _ | apply Drawn0.step)⟩
set_option maxHeartbeats 8000000 in
set_option maxRecDepth 100000 in
theorem orthoepylaw00_Rune.case3 (a0 : Int) (k : Int) (w : World) (h0 : 0 ≤ k) (h1 : k < 1099511627776) (hp : Aside0 (orthoepylaw00_Place.f a0 1099511627776 = some k)) (c0 : (k % 16 == 0) = false) (c1 : (k % 16 == 1) = false) (c2 : (k % 16 == 2) = false) (c3 : (k % 16 == 3) = true) :
    Calls Try.prog 19 #[.int .i64 a0] w fun e w' => e = .returned (.int .i32 (runeTab24.getD (k / 16 % 100000 % 24).toNat 0)) ∧ Drawn0 w w' := by
  have hidx : ∀ w : World, (Instr.index 55 (.agg (#[.int .i32 768, .int .i32 769, .int .i32 770, .int .i32 771, .int .i32 772, .int .i32 774, .int .i32 775, .int .i32 776, .int .i32 778, .int .i32 780, .int .i32 803, .int .i32 807, .int .i32 808, .int .i32 795, .int .i32 837, .int .i32 820, .int .i32 2364, .int .i32 12441, .int .i32 12442, .int .i32 1456, .int .i32 1460, .int .i32 824, .int .i32 834, .int .i32 2494])) (.int .i32 (k / 16 % 100000 % 24))).run Try.prog w = .ok (.int .i32 (runeTab24.getD (k / 16 % 100000 % 24).toNat 0)) w := fun w => run_index_arr w 55 21 24 _ .i32 .i32 _ _ Try.underlying55 Try.underlying21 (by kernel_rfl) (by omega) (by omega) (runeTab24_at _ (by omega) (by omega))
  have hb := runeTab24_bound (k / 16 % 100000 % 24).toNat
  rw [List.getD_eq_getElem?_getD] at hb
  go_enter Try.func19, Try.ntmps19
  go_wp2_with (first | ((with_reducible refine gate_callee (f := 22) rfl ?_); refine goesL_ (some 6) rfl rfl Try.func22 (by kernel_rfl) rfl #[.int .i64 a0, .int .i64 1099511627776] rfl (by (try simp only [List.map_toArray, List.map_cons, List.map_nil]); first | done | rfl) ?_; (with_reducible refine (orthoepylaw00_Place.calls a0 1099511627776 k _ hp.out).mono ?_); rintro e w' ⟨rfl, ⟨nd, rfl⟩⟩; refine ⟨_, rfl, ?_⟩) | ((with_reducible refine gate_build (t := 55) rfl ?_); refine wpList_build_is rfl 55 _ rfl (#[.int .i32 768, .int .i32 769, .int .i32 770, .int .i32 771, .int .i32 772, .int .i32 774, .int .i32 775, .int .i32 776, .int .i32 778, .int .i32 780, .int .i32 803, .int .i32 807, .int .i32 808, .int .i32 795, .int .i32 837, .int .i32 820, .int .i32 2364, .int .i32 12441, .int .i32 12442, .int .i32 1456, .int .i32 1460, .int .i32 824, .int .i32 834, .int .i32 2494]) (by kernel_rfl) ?_))
  go_ret
  exact ⟨by first | rfl | (simp; done), by repeat (first | exact Drawn0.refl _ | apply Drawn0.step)⟩
set_option maxHeartbeats 8000000 in
set_option maxRecDepth 100000 in
theorem orthoepylaw00_Rune.case4 (a0 : Int) (k : Int) (w : World) (h0 : 0 ≤ k) (h1 : k < 1099511627776) (hp : Aside0 (orthoepylaw00_Place.f a0 1099511627776 = some k)) (c0 : (k % 16 == 0) = false) (c1 : (k % 16 == 1) = false) (c2 : (k % 16 == 2) = false) (c3 : (k % 16 == 3) = false) (c4 : (k % 16 == 4) = true) :
    Calls Try.prog 19 #[.int .i64 a0] w fun e w' => e = .returned (.int .i32 (runeTab24.getD (k / 16 % 100000 % 24).toNat 0)) ∧ Drawn0 w w' := by
  have hidx : ∀ w : World, (Instr.index 55 (.agg (#[.int .i32 768, .int .i32 769, .int .i32 770, .int .i32 771, .int .i32 772, .int .i32 774, .int .i32 775, .int .i32 776, .int .i32 778, .int .i32 780, .int .i32 803, .int .i32 807, .int .i32 808, .int .i32 795, .int .i32 837, .int .i32 820, .int .i32 2364, .int .i32 12441, .int .i32 12442, .int .i32 1456, .int .i32 1460, .int .i32 824, .int .i32 834, .int .i32 2494])) (.int .i32 (k / 16 % 100000 % 24))).run Try.prog w = .ok (.int .i32 (runeTab24.getD (k / 16 % 100000 % 24).toNat 0)) w := fun w => run_index_arr w 55 21 24 _ .i32 .i32 _ _ Try.underlying55 Try.underlying21 (by kernel_rfl) (by omega) (by omega) (runeTab24_at _ (by omega) (by omega))
  have hb := runeTab24_bound (k / 16 % 100000 % 24).toNat
  rw [List.getD_eq_getElem?_getD] at hb
  go_enter Try.func19, Try.ntmps19
  go_wp2_with (first | ((with_reducible refine gate_callee (f := 22) rfl ?_); refine goesL_ (some 6) rfl rfl Try.func22 (by kernel_rfl) rfl #[.int .i64 a0, .int .i64 1099511627776] rfl (by (try simp only [List.map_toArray, List.map_cons, List.map_nil]); first | done | rfl) ?_; (with_reducible refine (orthoepylaw00_Place.calls a0 1099511627776 k _ hp.out).mono ?_); rintro e w' ⟨rfl, ⟨nd, rfl⟩⟩; refine ⟨_, rfl, ?_⟩) | ((with_reducible refine gate_build (t := 55) rfl ?_); refine wpList_build_is rfl 55 _ rfl (#[.int .i32 768, .int .i32 769, .int .i32 770, .int .i32 771, .int .i32 772, .int .i32 774, .int .i32 775, .int .i32 776, .int .i32 778, .int .i32 780, .int .i32 803, .int .i32 807, .int .i32 808, .int .i32 795, .int .i32 837, .int .i32 820, .int .i32 2364, .int .i32 12441, .int .i32 12442, .int .i32 1456, .int .i32 1460, .int .i32 824, .int .i32 834, .int .i32 2494]) (by kernel_rfl) ?_))
  go_ret
  exact ⟨by first | rfl | (simp; done), by repeat (first | exact Drawn0.refl _ | apply Drawn0.step)⟩
set_option maxHeartbeats 8000000 in
set_option maxRecDepth 100000 in
theorem orthoepylaw00_Rune.case5 (a0 : Int) (k : Int) (w : World) (h0 : 0 ≤ k) (h1 : k < 1099511627776) (hp : Aside0 (orthoepylaw00_Place.f a0 1099511627776 = some k)) (c0 : (k % 16 == 0) = false) (c1 : (k % 16 == 1) = false) (c2 : (k % 16 == 2) = false) (c3 : (k % 16 == 3) = false) (c4 : (k % 16 == 4) = false) (c5 : (k % 16 == 5) = true) :
    Calls Try.prog 19 #[.int .i64 a0] w fun e w' => e = .returned (.int .i32 (runeTab24.getD (k / 16 % 100000 % 24).toNat 0)) ∧ Drawn0 w w' := by
  have hidx : ∀ w : World, (Instr.index 55 (.agg (#[.int .i32 768, .int .i32 769, .int .i32 770, .int .i32 771, .int .i32 772, .int .i32 774, .int .i32 775, .int .i32 776, .int .i32 778, .int .i32 780, .int .i32 803, .int .i32 807, .int .i32 808, .int .i32 795, .int .i32 837, .int .i32 820, .int .i32 2364, .int .i32 12441, .int .i32 12442, .int .i32 1456, .int .i32 1460, .int .i32 824, .int .i32 834, .int .i32 2494])) (.int .i32 (k / 16 % 100000 % 24))).run Try.prog w = .ok (.int .i32 (runeTab24.getD (k / 16 % 100000 % 24).toNat 0)) w := fun w => run_index_arr w 55 21 24 _ .i32 .i32 _ _ Try.underlying55 Try.underlying21 (by kernel_rfl) (by omega) (by omega) (runeTab24_at _ (by omega) (by omega))
  have hb := runeTab24_bound (k / 16 % 100000 % 24).toNat
  rw [List.getD_eq_getElem?_getD] at hb
  go_enter Try.func19, Try.ntmps19
  go_wp2_with (first | ((with_reducible refine gate_callee (f := 22) rfl ?_); refine goesL_ (some 6) rfl rfl Try.func22 (by kernel_rfl) rfl #[.int .i64 a0, .int .i64 1099511627776] rfl (by (try simp only [List.map_toArray, List.map_cons, List.map_nil]); first | done | rfl) ?_; (with_reducible refine (orthoepylaw00_Place.calls a0 1099511627776 k _ hp.out).mono ?_); rintro e w' ⟨rfl, ⟨nd, rfl⟩⟩; refine ⟨_, rfl, ?_⟩) | ((with_reducible refine gate_build (t := 55) rfl ?_); refine wpList_build_is rfl 55 _ rfl (#[.int .i32 768, .int .i32 769, .int .i32 770, .int .i32 771, .int .i32 772, .int .i32 774, .int .i32 775, .int .i32 776, .int .i32 778, .int .i32 780, .int .i32 803, .int .i32 807, .int .i32 808, .int .i32 795, .int .i32 837, .int .i32 820, .int .i32 2364, .int .i32 12441, .int .i32 12442, .int .i32 1456, .int .i32 1460, .int .i32 824, .int .i32 834, .int .i32 2494]) (by kernel_rfl) ?_))
  go_ret
  exact ⟨by first | rfl | (simp; done), by repeat (first | exact Drawn0.refl _ | apply Drawn0.step)⟩
set_option maxHeartbeats 8000000 in
set_option maxRecDepth 100000 in
theorem orthoepylaw00_Rune.case6 (a0 : Int) (k : Int) (w : World) (h0 : 0 ≤ k) (h1 : k < 1099511627776) (hp : Aside0 (orthoepylaw00_Place.f a0 1099511627776 = some k)) (c0 : (k % 16 == 0) = false) (c1 : (k % 16 == 1) = false) (c2 : (k % 16 == 2) = false) (c3 : (k % 16 == 3) = false) (c4 : (k % 16 == 4) = false) (c5 : (k % 16 == 5) = false) (c6 : (k % 16 == 6) = true) :
    Calls Try.prog 19 #[.int .i64 a0] w fun e w' => e = .returned (.int .i32 (192 + k / 16 % 100000 % 448)) ∧ Drawn0 w w' := by
  go_enter Try.func19, Try.ntmps19
  go_wp2_with (first | ((with_reducible refine gate_callee (f := 22) rfl ?_); refine goesL_ (some 6) rfl rfl Try.func22 (by kernel_rfl) rfl #[.int .i64 a0, .int .i64 1099511627776] rfl (by (try simp only [List.map_toArray, List.map_cons, List.map_nil]); first | done | rfl) ?_; (with_reducible refine (orthoepylaw00_Place.calls a0 1099511627776 k _ hp.out).mono ?_); rintro e w' ⟨rfl, ⟨nd, rfl⟩⟩; refine ⟨_, rfl, ?_⟩))
  go_ret
  exact ⟨by first | rfl | (simp; done), by repeat (first | exact Drawn0.refl _ | apply Drawn0.step)⟩
set_option maxHeartbeats 8000000 in
set_option maxRecDepth 100000 in
theorem orthoepylaw00_Rune.case7 (a0 : Int) (k : Int) (w : World) (h0 : 0 ≤ k) (h1 : k < 1099511627776) (hp : Aside0 (orthoepylaw00_Place.f a0 1099511627776 = some k)) (c0 : (k % 16 == 0) = false) (c1 : (k % 16 == 1) = false) (c2 : (k % 16 == 2) = false) (c3 : (k % 16 == 3) = false) (c4 : (k % 16 == 4) = false) (c5 : (k % 16 == 5) = false) (c6 : (k % 16 == 6) = false) (c7 : (k % 16 == 7) = true) :
    Calls Try.prog 19 #[.int .i64 a0] w fun e w' => e = .returned (.int .i32 (7680 + k / 16 % 100000 % 512)) ∧ Drawn0 w w' := by
  go_enter Try.func19, Try.ntmps19
  go_wp2_with (first | ((with_reducible refine gate_callee (f := 22) rfl ?_); refine goesL_ (some 6) rfl rfl Try.func22 (by kernel_rfl) rfl #[.int .i64 a0, .int .i64 1099511627776] rfl (by (try simp only [List.map_toArray, List.map_cons, List.map_nil]); first | done | rfl) ?_; (with_reducible refine (orthoepylaw00_Place.calls a0 1099511627776 k _ hp.out).mono ?_); rintro e w' ⟨rfl, ⟨nd, rfl⟩⟩; refine ⟨_, rfl, ?_⟩))
  go_ret
  exact ⟨by first | rfl | (simp; done), by repeat (first | exact Drawn0.refl _ | apply Drawn0.step)⟩
set_option maxHeartbeats 8000000 in
set_option maxRecDepth 100000 in
theorem orthoepylaw00_Rune.case8 (a0 : Int) (k : Int) (w : World) (h0 : 0 ≤ k) (h1 : k < 1099511627776) (hp : Aside0 (orthoepylaw00_Place.f a0 1099511627776 = some k)) (c0 : (k % 16 == 0) = false) (c1 : (k % 16 == 1) = false) (c2 : (k % 16 == 2) = false) (c3 : (k % 16 == 3) = false) (c4 : (k % 16 == 4) = false) (c5 : (k % 16 == 5) = false) (c6 : (k % 16 == 6) = false) (c7 : (k % 16 == 7) = false) (c8 : (k % 16 == 8) = true) :
    Calls Try.prog 19 #[.int .i64 a0] w fun e w' => e = .returned (.int .i32 (runeTab16.getD (k / 16 % 16).toNat 0)) ∧ Drawn0 w w' := by
  have hidx : ∀ w : World, (Instr.index 56 (.agg (#[.int .i32 8491, .int .i32 8486, .int .i32 8490, .int .i32 832, .int .i32 833, .int .i32 836, .int .i32 884, .int .i32 894, .int .i32 2392, .int .i32 2399, .int .i32 63744, .int .i32 64109, .int .i32 194560, .int .i32 119134, .int .i32 64300, .int .i32 10972])) (.int .i32 (k / 16 % 16))).run Try.prog w = .ok (.int .i32 (runeTab16.getD (k / 16 % 16).toNat 0)) w := fun w => run_index_arr w 56 21 16 _ .i32 .i32 _ _ Try.underlying56 Try.underlying21 (by kernel_rfl) (by omega) (by omega) (runeTab16_at _ (by omega) (by omega))
  have hb := runeTab16_bound (k / 16 % 16).toNat
  rw [List.getD_eq_getElem?_getD] at hb
  go_enter Try.func19, Try.ntmps19
  go_wp2_with (first | ((with_reducible refine gate_callee (f := 22) rfl ?_); refine goesL_ (some 6) rfl rfl Try.func22 (by kernel_rfl) rfl #[.int .i64 a0, .int .i64 1099511627776] rfl (by (try simp only [List.map_toArray, List.map_cons, List.map_nil]); first | done | rfl) ?_; (with_reducible refine (orthoepylaw00_Place.calls a0 1099511627776 k _ hp.out).mono ?_); rintro e w' ⟨rfl, ⟨nd, rfl⟩⟩; refine ⟨_, rfl, ?_⟩) | ((with_reducible refine gate_build (t := 56) rfl ?_); refine wpList_build_is rfl 56 _ rfl (#[.int .i32 8491, .int .i32 8486, .int .i32 8490, .int .i32 832, .int .i32 833, .int .i32 836, .int .i32 884, .int .i32 894, .int .i32 2392, .int .i32 2399, .int .i32 63744, .int .i32 64109, .int .i32 194560, .int .i32 119134, .int .i32 64300, .int .i32 10972]) (by kernel_rfl) ?_))
  go_ret
  exact ⟨by first | rfl | (simp; done), by repeat (first | exact Drawn0.refl _ | apply Drawn0.step)⟩
set_option maxHeartbeats 8000000 in
set_option maxRecDepth 100000 in
theorem orthoepylaw00_Rune.case9 (a0 : Int) (k : Int) (w : World) (h0 : 0 ≤ k) (h1 : k < 1099511627776) (hp : Aside0 (orthoepylaw00_Place.f a0 1099511627776 = some k)) (c0 : (k % 16 == 0) = false) (c1 : (k % 16 == 1) = false) (c2 : (k % 16 == 2) = false) (c3 : (k % 16 == 3) = false) (c4 : (k % 16 == 4) = false) (c5 : (k % 16 == 5) = false) (c6 : (k % 16 == 6) = false) (c7 : (k % 16 == 7) = false) (c8 : (k % 16 == 8) = false) (c9 : (k % 16 == 9) = true) :
    Calls Try.prog 19 #[.int .i64 a0] w fun e w' => e = .returned (.int .i32 (44032 + k / 16 % 100000 % 11172)) ∧ Drawn0 w w' := by
  go_enter Try.func19, Try.ntmps19
  go_wp2_with (first | ((with_reducible refine gate_callee (f := 22) rfl ?_); refine goesL_ (some 6) rfl rfl Try.func22 (by kernel_rfl) rfl #[.int .i64 a0, .int .i64 1099511627776] rfl (by (try simp only [List.map_toArray, List.map_cons, List.map_nil]); first | done | rfl) ?_; (with_reducible refine (orthoepylaw00_Place.calls a0 1099511627776 k _ hp.out).mono ?_); rintro e w' ⟨rfl, ⟨nd, rfl⟩⟩; refine ⟨_, rfl, ?_⟩))
  go_ret
  exact ⟨by first | rfl | (simp; done), by repeat (first | exact Drawn0.refl _ | apply Drawn0.step)⟩
set_option maxHeartbeats 8000000 in
set_option maxRecDepth 100000 in
theorem orthoepylaw00_Rune.case10 (a0 : Int) (k : Int) (w : World) (h0 : 0 ≤ k) (h1 : k < 1099511627776) (hp : Aside0 (orthoepylaw00_Place.f a0 1099511627776 = some k)) (c0 : (k % 16 == 0) = false) (c1 : (k % 16 == 1) = false) (c2 : (k % 16 == 2) = false) (c3 : (k % 16 == 3) = false) (c4 : (k % 16 == 4) = false) (c5 : (k % 16 == 5) = false) (c6 : (k % 16 == 6) = false) (c7 : (k % 16 == 7) = false) (c8 : (k % 16 == 8) = false) (c9 : (k % 16 == 9) = false) (c10 : (k % 16 == 10) = true) :
    Calls Try.prog 19 #[.int .i64 a0] w fun e w' => e = .returned (.int .i32 (runeTab3.getD (k / 16 % 100000 % 3).toNat 0 + k / 16 % 100000 / 3 % 30)) ∧ Drawn0 w w' := by
  have hidx : ∀ w : World, (Instr.index 57 (.agg (#[.int .i32 4352, .int .i32 4449, .int .i32 4519])) (.int .i32 (k / 16 % 100000 % 3))).run Try.prog w = .ok (.int .i32 (runeTab3.getD (k / 16 % 100000 % 3).toNat 0)) w := fun w => run_index_arr w 57 21 3 _ .i32 .i32 _ _ Try.underlying57 Try.underlying21 (by kernel_rfl) (by omega) (by omega) (runeTab3_at _ (by omega) (by omega))
  have hb := runeTab3_bound (k / 16 % 100000 % 3).toNat
  rw [List.getD_eq_getElem?_getD] at hb
  go_enter Try.func19, Try.ntmps19
  go_wp2_with (first | ((with_reducible refine gate_callee (f := 22) rfl ?_); refine goesL_ (some 6) rfl rfl Try.func22 (by kernel_rfl) rfl #[.int .i64 a0, .int .i64 1099511627776] rfl (by (try simp only [List.map_toArray, List.map_cons, List.map_nil]); first | done | rfl) ?_; (with_reducible refine (orthoepylaw00_Place.calls a0 1099511627776 k _ hp.out).mono ?_); rintro e w' ⟨rfl, ⟨nd, rfl⟩⟩; refine ⟨_, rfl, ?_⟩) | ((with_reducible refine gate_build (t := 57) rfl ?_); refine wpList_build_is rfl 57 _ rfl (#[.int .i32 4352, .int .i32 4449, .int .i32 4519]) (by kernel_rfl) ?_))
  go_ret
  exact ⟨by first | rfl | (simp; done), by repeat (first | exact Drawn0.refl _ | apply Drawn0.step)⟩
set_option maxHeartbeats 8000000 in
set_option maxRecDepth 100000 in
theorem orthoepylaw00_Rune.case11 (a0 : Int) (k : Int) (w : World) (h0 : 0 ≤ k) (h1 : k < 1099511627776) (hp : Aside0 (orthoepylaw00_Place.f a0 1099511627776 = some k)) (c0 : (k % 16 == 0) = false) (c1 : (k % 16 == 1) = false) (c2 : (k % 16 == 2) = false) (c3 : (k % 16 == 3) = false) (c4 : (k % 16 == 4) = false) (c5 : (k % 16 == 5) = false) (c6 : (k % 16 == 6) = false) (c7 : (k % 16 == 7) = false) (c8 : (k % 16 == 8) = false) (c9 : (k % 16 == 9) = false) (c10 : (k % 16 == 10) = false) (c11 : (k % 16 == 11) = true) :
    Calls Try.prog 19 #[.int .i64 a0] w fun e w' => e = .returned (.int .i32 (runeTab8.getD (k / 16 % 8).toNat 0)) ∧ Drawn0 w w' := by
  have hidx : ∀ w : World, (Instr.index 58 (.agg (#[.int .i32 128512, .int .i32 65536, .int .i32 1114109, .int .i32 57344, .int .i32 64307, .int .i32 65533, .int .i32 55295, .int .i32 8232])) (.int .i32 (k / 16 % 8))).run Try.prog w = .ok (.int .i32 (runeTab8.getD (k / 16 % 8).toNat 0)) w := fun w => run_index_arr w 58 21 8 _ .i32 .i32 _ _ Try.underlying58 Try.underlying21 (by kernel_rfl) (by omega) (by omega) (runeTab8_at _ (by omega) (by omega))
  have hb := runeTab8_bound (k / 16 % 8).toNat
  rw [List.getD_eq_getElem?_getD] at hb
  go_enter Try.func19, Try.ntmps19
  go_wp2_with (first | ((with_reducible refine gate_callee (f := 22) rfl ?_); refine goesL_ (some 6) rfl rfl Try.func22 (by kernel_rfl) rfl #[.int .i64 a0, .int .i64 1099511627776] rfl (by (try simp only [List.map_toArray, List.map_cons, List.map_nil]); first | done | rfl) ?_; (with_reducible refine (orthoepylaw00_Place.calls a0 1099511627776 k _ hp.out).mono ?_); rintro e w' ⟨rfl, ⟨nd, rfl⟩⟩; refine ⟨_, rfl, ?_⟩) | ((with_reducible refine gate_build (t := 58) rfl ?_); refine wpList_build_is rfl 58 _ rfl (#[.int .i32 128512, .int .i32 65536, .int .i32 1114109, .int .i32 57344, .int .i32 64307, .int .i32 65533, .int .i32 55295, .int .i32 8232]) (by kernel_rfl) ?_))
  go_ret
  exact ⟨by first | rfl | (simp; done), by repeat (first | exact Drawn0.refl _ | apply Drawn0.step)⟩
set_option maxHeartbeats 8000000 in
set_option maxRecDepth 100000 in
theorem orthoepylaw00_Rune.case12 (a0 : Int) (k : Int) (w : World) (h0 : 0 ≤ k) (h1 : k < 1099511627776) (hp : Aside0 (orthoepylaw00_Place.f a0 1099511627776 = some k)) (c0 : (k % 16 == 0) = false) (c1 : (k % 16 == 1) = false) (c2 : (k % 16 == 2) = false) (c3 : (k % 16 == 3) = false) (c4 : (k % 16 == 4) = false) (c5 : (k % 16 == 5) = false) (c6 : (k % 16 == 6) = false) (c7 : (k % 16 == 7) = false) (c8 : (k % 16 == 8) = false) (c9 : (k % 16 == 9) = false) (c10 : (k % 16 == 10) = false) (c11 : (k % 16 == 11) = false) (c12 : (k % 16 == 12) = true) :
    Calls Try.prog 19 #[.int .i64 a0] w fun e w' => e = .returned (.int .i32 (k / 16 % 100000 % 128)) ∧ Drawn0 w w' := by
  go_enter Try.func19, Try.ntmps19
  go_wp2_with (first | ((with_reducible refine gate_callee (f := 22) rfl ?_); refine goesL_ (some 6) rfl rfl Try.func22 (by kernel_rfl) rfl #[.int .i64 a0, .int .i64 1099511627776] rfl (by (try simp only [List.map_toArray, List.map_cons, List.map_nil]); first | done | rfl) ?_; (with_reducible refine (orthoepylaw00_Place.calls a0 1099511627776 k _ hp.out).mono ?_); rintro e w' ⟨rfl, ⟨nd, rfl⟩⟩; refine ⟨_, rfl, ?_⟩))
  go_ret
  exact ⟨by first | rfl | (simp; done), by repeat (first | exact Drawn0.refl _ | apply Drawn0.step)⟩
set_option maxHeartbeats 8000000 in
set_option maxRecDepth 100000 in
theorem orthoepylaw00_Rune.case13 (a0 : Int) (k : Int) (w : World) (h0 : 0 ≤ k) (h1 : k < 1099511627776) (hp : Aside0 (orthoepylaw00_Place.f a0 1099511627776 = some k)) (c0 : (k % 16 == 0) = false) (c1 : (k % 16 == 1) = false) (c2 : (k % 16 == 2) = false) (c3 : (k % 16 == 3) = false) (c4 : (k % 16 == 4) = false) (c5 : (k % 16 == 5) = false) (c6 : (k % 16 == 6) = false) (c7 : (k % 16 == 7) = false) (c8 : (k % 16 == 8) = false) (c9 : (k % 16 == 9) = false) (c10 : (k % 16 == 10) = false) (c11 : (k % 16 == 11) = false) (c12 : (k % 16 == 12) = false) (c13 : (k % 16 == 13) = true) :
    Calls Try.prog 19 #[.int .i64 a0] w fun e w' => e = .returned (.int .i32 (880 + k / 16 % 100000 % 1536)) ∧ Drawn0 w w' := by
  go_enter Try.func19, Try.ntmps19
  go_wp2_with (first | ((with_reducible refine gate_callee (f := 22) rfl ?_); refine goesL_ (some 6) rfl rfl Try.func22 (by kernel_rfl) rfl #[.int .i64 a0, .int .i64 1099511627776] rfl (by (try simp only [List.map_toArray, List.map_cons, List.map_nil]); first | done | rfl) ?_; (with_reducible refine (orthoepylaw00_Place.calls a0 1099511627776 k _ hp.out).mono ?_); rintro e w' ⟨rfl, ⟨nd, rfl⟩⟩; refine ⟨_, rfl, ?_⟩))
  go_ret
  exact ⟨by first | rfl | (simp; done), by repeat (first | exact Drawn0.refl _ | apply Drawn0.step)⟩
set_option maxHeartbeats 8000000 in
set_option maxRecDepth 100000 in
theorem orthoepylaw00_Rune.case14 (a0 : Int) (k : Int) (w : World) (h0 : 0 ≤ k) (h1 : k < 1099511627776) (hp : Aside0 (orthoepylaw00_Place.f a0 1099511627776 = some k)) (c0 : (k % 16 == 0) = false) (c1 : (k % 16 == 1) = false) (c2 : (k % 16 == 2) = false) (c3 : (k % 16 == 3) = false) (c4 : (k % 16 == 4) = false) (c5 : (k % 16 == 5) = false) (c6 : (k % 16 == 6) = false) (c7 : (k % 16 == 7) = false) (c8 : (k % 16 == 8) = false) (c9 : (k % 16 == 9) = false) (c10 : (k % 16 == 10) = false) (c11 : (k % 16 == 11) = false) (c12 : (k % 16 == 12) = false) (c13 : (k % 16 == 13) = false) (c14 : (k % 16 == 14) = true) :
    Calls Try.prog 19 #[.int .i64 a0] w fun e w' => e = .returned (.int .i32 (12352 + k / 16 % 100000 % 192)) ∧ Drawn0 w w' := by
  go_enter Try.func19, Try.ntmps19
  go_wp2_with (first | ((with_reducible refine gate_callee (f := 22) rfl ?_); refine goesL_ (some 6) rfl rfl Try.func22 (by kernel_rfl) rfl #[.int .i64 a0, .int .i64 1099511627776] rfl (by (try simp only [List.map_toArray, List.map_cons, List.map_nil]); first | done | rfl) ?_; (with_reducible refine (orthoepylaw00_Place.calls a0 1099511627776 k _ hp.out).mono ?_); rintro e w' ⟨rfl, ⟨nd, rfl⟩⟩; refine ⟨_, rfl, ?_⟩))
  go_ret
  exact ⟨by first | rfl | (simp; done), by repeat (first | exact Drawn0.refl _ | apply Drawn0.step)⟩
set_option maxHeartbeats 8000000 in
set_option maxRecDepth 100000 in
theorem orthoepylaw00_Rune.case15 (a0 : Int) (k : Int) (w : World) (h0 : 0 ≤ k) (h1 : k < 1099511627776) (hp : Aside0 (orthoepylaw00_Place.f a0 1099511627776 = some k)) (c0 : (k % 16 == 0) = false) (c1 : (k % 16 == 1) = false) (c2 : (k % 16 == 2) = false) (c3 : (k % 16 == 3) = false) (c4 : (k % 16 == 4) = false) (c5 : (k % 16 == 5) = false) (c6 : (k % 16 == 6) = false) (c7 : (k % 16 == 7) = false) (c8 : (k % 16 == 8) = false) (c9 : (k % 16 == 9) = false) (c10 : (k % 16 == 10) = false) (c11 : (k % 16 == 11) = false) (c12 : (k % 16 == 12) = false) (c13 : (k % 16 == 13) = false) (c14 : (k % 16 == 14) = false) :
    Calls Try.prog 19 #[.int .i64 a0] w fun e w' => e = .returned (.int .i32 (k / 16 % 1114112)) ∧ Drawn0 w w' := by
  go_enter Try.func19, Try.ntmps19
  go_wp2_with (first | ((with_reducible refine gate_callee (f := 22) rfl ?_); refine goesL_ (some 6) rfl rfl Try.func22 (by kernel_rfl) rfl #[.int .i64 a0, .int .i64 1099511627776] rfl (by (try simp only [List.map_toArray, List.map_cons, List.map_nil]); first | done | rfl) ?_; (with_reducible refine (orthoepylaw00_Place.calls a0 1099511627776 k _ hp.out).mono ?_); rintro e w' ⟨rfl, ⟨nd, rfl⟩⟩; refine ⟨_, rfl, ?_⟩))
  go_ret
  exact ⟨by first | rfl | (simp; done), by repeat (first | exact Drawn0.refl _ | apply Drawn0.step)⟩
theorem orthoepylaw00_Rune.calls (a0 : Int) (r : Int) (w : World) (h : orthoepylaw00_Rune.f a0 = some r) :
    Calls Try.prog 19 #[.int .i64 a0] w fun e w' => e = .returned (.int .i32 r) ∧ Drawn0 w w' := by
  unfold orthoepylaw00_Rune.f at h
  obtain ⟨k, hp, h⟩ := Option.bind_eq_some_iff.mp h
  split at h
  case isFalse => cases h
  case isTrue hh =>
  obtain rfl := Option.some.inj h
  obtain ⟨h0, h1⟩ := hh
  clear h
  have hp := Aside0.mk hp
  have hm : k % 16 = 0 ∨ k % 16 = 1 ∨ k % 16 = 2 ∨ k % 16 = 3 ∨ k % 16 = 4 ∨ k % 16 = 5 ∨ k % 16 = 6 ∨ k % 16 = 7 ∨ k % 16 = 8 ∨ k % 16 = 9 ∨ k % 16 = 10 ∨ k % 16 = 11 ∨ k % 16 = 12 ∨ k % 16 = 13 ∨ k % 16 = 14 ∨ k % 16 = 15 := by omega
  rcases hm with hm | hm | hm | hm | hm | hm | hm | hm | hm | hm | hm | hm | hm | hm | hm | hm
  · have e : runeV k = 97 + k / 16 % 100000 % 26 := by
      unfold runeV
      simp [hm]
    rw [e]
    exact orthoepylaw00_Rune.case0 a0 k w h0 h1 hp (by rw [hm]; rfl)
  · have e : runeV k = 97 + k / 16 % 100000 % 26 := by
      unfold runeV
      simp [hm]
    rw [e]
    exact orthoepylaw00_Rune.case1 a0 k w h0 h1 hp (by rw [hm]; rfl) (by rw [hm]; rfl)
  · have e : runeV k = runeTab12.getD (k / 16 % 100000 % 12).toNat 0 := by
      unfold runeV
      simp [hm]
    rw [e]
    exact orthoepylaw00_Rune.case2 a0 k w h0 h1 hp (by rw [hm]; rfl) (by rw [hm]; rfl) (by rw [hm]; rfl)
  · have e : runeV k = runeTab24.getD (k / 16 % 100000 % 24).toNat 0 := by
      unfold runeV
      simp [hm]
    rw [e]
    exact orthoepylaw00_Rune.case3 a0 k w h0 h1 hp (by rw [hm]; rfl) (by rw [hm]; rfl) (by rw [hm]; rfl) (by rw [hm]; rfl)
  · have e : runeV k = runeTab24.getD (k / 16 % 100000 % 24).toNat 0 := by
      unfold runeV
      simp [hm]
    rw [e]
    exact orthoepylaw00_Rune.case4 a0 k w h0 h1 hp (by rw [hm]; rfl) (by rw [hm]; rfl) (by rw [hm]; rfl) (by rw [hm]; rfl) (by rw [hm]; rfl)
  · have e : runeV k = runeTab24.getD (k / 16 % 100000 % 24).toNat 0 := by
      unfold runeV
      simp [hm]
    rw [e]
    exact orthoepylaw00_Rune.case5 a0 k w h0 h1 hp (by rw [hm]; rfl) (by rw [hm]; rfl) (by rw [hm]; rfl) (by rw [hm]; rfl) (by rw [hm]; rfl) (by rw [hm]; rfl)
  · have e : runeV k = 192 + k / 16 % 100000 % 448 := by
      unfold runeV
      simp [hm]
    rw [e]
    exact orthoepylaw00_Rune.case6 a0 k w h0 h1 hp (by rw [hm]; rfl) (by rw [hm]; rfl) (by rw [hm]; rfl) (by rw [hm]; rfl) (by rw [hm]; rfl) (by rw [hm]; rfl) (by rw [hm]; rfl)
  · have e : runeV k = 7680 + k / 16 % 100000 % 512 := by
      unfold runeV
      simp [hm]
    rw [e]
    exact orthoepylaw00_Rune.case7 a0 k w h0 h1 hp (by rw [hm]; rfl) (by rw [hm]; rfl) (by rw [hm]; rfl) (by rw [hm]; rfl) (by rw [hm]; rfl) (by rw [hm]; rfl) (by rw [hm]; rfl) (by rw [hm]; rfl)
  · have e : runeV k = runeTab16.getD (k / 16 % 16).toNat 0 := by
      unfold runeV
      simp [hm]
    rw [e]
    exact orthoepylaw00_Rune.case8 a0 k w h0 h1 hp (by rw [hm]; rfl) (by rw [hm]; rfl) (by rw [hm]; rfl) (by rw [hm]; rfl) (by rw [hm]; rfl) (by rw [hm]; rfl) (by rw [hm]; rfl) (by rw [hm]; rfl) (by rw [hm]; rfl)
  · have e : runeV k = 44032 + k / 16 % 100000 % 11172 := by
      unfold runeV
      simp [hm]
    rw [e]
    exact orthoepylaw00_Rune.case9 a0 k w h0 h1 hp (by rw [hm]; rfl) (by rw [hm]; rfl) (by rw [hm]; rfl) (by rw [hm]; rfl) (by rw [hm]; rfl) (by rw [hm]; rfl) (by rw [hm]; rfl) (by rw [hm]; rfl) (by rw [hm]; rfl) (by rw [hm]; rfl)
  · have e : runeV k = runeTab3.getD (k / 16 % 100000 % 3).toNat 0 + k / 16 % 100000 / 3 % 30 := by
      unfold runeV
      simp [hm]
    rw [e]
    exact orthoepylaw00_Rune.case10 a0 k w h0 h1 hp (by rw [hm]; rfl) (by rw [hm]; rfl) (by rw [hm]; rfl) (by rw [hm]; rfl) (by rw [hm]; rfl) (by rw [hm]; rfl) (by rw [hm]; rfl) (by rw [hm]; rfl) (by rw [hm]; rfl) (by rw [hm]; rfl) (by rw [hm]; rfl)
  · have e : runeV k = runeTab8.getD (k / 16 % 8).toNat 0 := by
      unfold runeV
      simp [hm]
    rw [e]
    exact orthoepylaw00_Rune.case11 a0 k w h0 h1 hp (by rw [hm]; rfl) (by rw [hm]; rfl) (by rw [hm]; rfl) (by rw [hm]; rfl) (by rw [hm]; rfl) (by rw [hm]; rfl) (by rw [hm]; rfl) (by rw [hm]; rfl) (by rw [hm]; rfl) (by rw [hm]; rfl) (by rw [hm]; rfl) (by rw [hm]; rfl)
  · have e : runeV k = k / 16 % 100000 % 128 := by
      unfold runeV
      simp [hm]
    rw [e]
    exact orthoepylaw00_Rune.case12 a0 k w h0 h1 hp (by rw [hm]; rfl) (by rw [hm]; rfl) (by rw [hm]; rfl) (by rw [hm]; rfl) (by rw [hm]; rfl) (by rw [hm]; rfl) (by rw [hm]; rfl) (by rw [hm]; rfl) (by rw [hm]; rfl) (by rw [hm]; rfl) (by rw [hm]; rfl) (by rw [hm]; rfl) (by rw [hm]; rfl)
  · have e : runeV k = 880 + k / 16 % 100000 % 1536 := by
      unfold runeV
      simp [hm]
    rw [e]
    exact orthoepylaw00_Rune.case13 a0 k w h0 h1 hp (by rw [hm]; rfl) (by rw [hm]; rfl) (by rw [hm]; rfl) (by rw [hm]; rfl) (by rw [hm]; rfl) (by rw [hm]; rfl) (by rw [hm]; rfl) (by rw [hm]; rfl) (by rw [hm]; rfl) (by rw [hm]; rfl) (by rw [hm]; rfl) (by rw [hm]; rfl) (by rw [hm]; rfl) (by rw [hm]; rfl)
  · have e : runeV k = 12352 + k / 16 % 100000 % 192 := by
      unfold runeV
      simp [hm]
    rw [e]
    exact orthoepylaw00_Rune.case14 a0 k w h0 h1 hp (by rw [hm]; rfl) (by rw [hm]; rfl) (by rw [hm]; rfl) (by rw [hm]; rfl) (by rw [hm]; rfl) (by rw [hm]; rfl) (by rw [hm]; rfl) (by rw [hm]; rfl) (by rw [hm]; rfl) (by rw [hm]; rfl) (by rw [hm]; rfl) (by rw [hm]; rfl) (by rw [hm]; rfl) (by rw [hm]; rfl) (by rw [hm]; rfl)
  · have e : runeV k = k / 16 % 1114112 := by
      unfold runeV
      simp [hm]
    rw [e]
    exact orthoepylaw00_Rune.case15 a0 k w h0 h1 hp (by rw [hm]; rfl) (by rw [hm]; rfl) (by rw [hm]; rfl) (by rw [hm]; rfl) (by rw [hm]; rfl) (by rw [hm]; rfl) (by rw [hm]; rfl) (by rw [hm]; rfl) (by rw [hm]; rfl) (by rw [hm]; rfl) (by rw [hm]; rfl) (by rw [hm]; rfl) (by rw [hm]; rfl) (by rw [hm]; rfl) (by rw [hm]; rfl)

/-! ### orthoepylaw00_Runes: function 17 -/
mutual
def orthoepylaw00_Runes.l0 : Nat → List Int → List Int → Int → Option (List Int)
  | 0, _, _, _ => none
  | k + 1, x0, x3, x4 => if x4 < (x0.length : Int) then (orthoepylaw00_Runes.j1 k x0 x3 x4 (decide (x4 < 60))) else (orthoepylaw00_Runes.j1 k x0 x3 x4 false)
def orthoepylaw00_Runes.j1 : Nat → List Int → List Int → Int → Bool → Option (List Int)
  | 0, _, _, _, _ => none
  | k + 1, x0, x3, x4, x13 => if x13 = true then (if 0 ≤ x4 then (if x4 < (x0.length : Int) then ((orthoepylaw00_Rune.f (rd x0 x4)).bind fun t236 => ((orthoepyref01_Is.f t236).bind fun t237 => (if t237 = true then (if x3.length < 35184372088832 then (orthoepylaw00_Runes.l0 k x0 (x3 ++ [t236]) (wrap64 (x4 + 1))) else (none)) else (orthoepylaw00_Runes.l0 k x0 x3 (wrap64 (x4 + 1)))))) else (none)) else (none)) else (some x3)
end
def orthoepylaw00_Runes.f (k : Nat) (l0 : List Int) : Option (List Int) := orthoepylaw00_Runes.l0 k l0 ([] : List Int) 0
theorem orthoepylaw00_Runes.mono_l : ∀ k, (∀ y0 y1 y2, LeO (orthoepylaw00_Runes.l0 k y0 y1 y2) (orthoepylaw00_Runes.l0 (k + 1) y0 y1 y2)) ∧ (∀ y0 y1 y2 y3, LeO (orthoepylaw00_Runes.j1 k y0 y1 y2 y3) (orthoepylaw00_Runes.j1 (k + 1) y0 y1 y2 y3))
  | 0 => ⟨fun _ _ _ r h => by simp [orthoepylaw00_Runes.l0] at h, fun _ _ _ _ r h => by simp [orthoepylaw00_Runes.j1] at h⟩
  | k + 1 => by
    obtain ⟨ih0, ih1⟩ := orthoepylaw00_Runes.mono_l k
    refine ⟨?_, ?_⟩
    · intro y0 y1 y2
      unfold orthoepylaw00_Runes.l0
      repeat' first
      | (with_reducible exact ih0 _ _ _)
      | (with_reducible exact ih1 _ _ _ _)
      | (with_reducible exact LeO.refl _)
      | (with_reducible exact LeO.none _)
      | (with_reducible refine LeO.ite ?_ ?_)
      | (with_reducible refine LeO.bind ?_ (fun _ => ?_))
      | exact ih0 _ _ _
      | exact ih1 _ _ _ _
      | exact LeO.none _
      | refine LeO.ite ?_ ?_
      | refine LeO.bind ?_ (fun _ => ?_)
    · intro y0 y1 y2 y3
      unfold orthoepylaw00_Runes.j1
      repeat' first
      | (with_reducible exact ih0 _ _ _)
      | (with_reducible exact ih1 _ _ _ _)
      | (with_reducible exact LeO.refl _)
      | (with_reducible exact LeO.none _)
      | (with_reducible refine LeO.ite ?_ ?_)
      | (with_reducible refine LeO.bind ?_ (fun _ => ?_))
      | exact ih0 _ _ _
      | exact ih1 _ _ _ _
      | exact LeO.none _
      | refine LeO.ite ?_ ?_
      | refine LeO.bind ?_ (fun _ => ?_)
theorem orthoepylaw00_Runes.mono : ∀ a0 k, LeO (orthoepylaw00_Runes.f k a0) (orthoepylaw00_Runes.f (k + 1) a0) := by
  intro a0 k
  obtain ⟨ih0, ih1⟩ := orthoepylaw00_Runes.mono_l k
  unfold orthoepylaw00_Runes.f
  repeat' first
      | (with_reducible exact ih0 _ _ _)
      | (with_reducible exact ih1 _ _ _ _)
      | (with_reducible exact LeO.refl _)
      | (with_reducible exact LeO.none _)
      | (with_reducible refine LeO.ite ?_ ?_)
      | (with_reducible refine LeO.bind ?_ (fun _ => ?_))
      | exact ih0 _ _ _
      | exact ih1 _ _ _ _
      | exact LeO.none _
      | refine LeO.ite ?_ ?_
      | refine LeO.bind ?_ (fun _ => ?_)
set_option maxHeartbeats 8000000 in
set_option maxRecDepth 100000 in
theorem orthoepylaw00_Runes.calls (k : Nat) (A0 : Option Addr) (c0 : Nat) (l0 : List Int) (r : List Int) (w : World) (hr0 : Kd.C (Kd.int .i64) w A0 l0.length l0) (hc0 : l0.length ≤ c0) (h : orthoepylaw00_Runes.f k l0 = some r) :
    Calls Try.prog 17 #[.slice A0 l0.length c0] w fun e w' => ∃ v0_ : Value, e = .returned (v0_) ∧ Kd.R (Kd.int .i32) 21 w' w.heap.size (fun _ => True) v0_ r ∧ Below w.heap.size w w' := by
  have HR0 := Aside0.mk hr0
  have HC0 := Aside0.mk hc0
  clear hr0 hc0
  have HB := Aside0.mk (Below.refl w.heap.size w)
  have H : (orthoepylaw00_Runes.l0 k l0 ([] : List Int) 0) = some r := h
  clear h
  have H' := Aside0.mk H
  clear H
  go_enter Try.func17, Try.ntmps17
  go_wp2
  go_loopg [3, 4] k (fun kq v3 v4 w' => ∃ (x3_1 : List Int) (x4_1 : Int), v4 = .int .i64 x4_1 ∧ Aside0 (orthoepylaw00_Runes.l0 kq l0 x3_1 x4_1 = some r) ∧ Aside0 (kq ≤ k) ∧ Aside0 (Kd.R (Kd.int .i32) 21 w' w.heap.size (fun _ => True) v3 x3_1) ∧ Aside0 (Below w.heap.size w w'))
  case atStart => exact ⟨(([] : List Int)), (0), (by first | rfl | (simp; done) | (simp [*]; done)), H', ⟨Nat.le_refl _⟩, ⟨by first | exact Kd.R_nil _ _ _ _ _ | exact Kd.N_nil _ _ _ _ _ | exact Kd.V_nil _ _ _ _ _ | exact Kd.Q_nil _ _ _ _ _ | exact Kd.S_nil _ _ _ _ _⟩, ⟨by repeat (first | (with_reducible first | exact HB.out | apply below_alloc | apply pw_below_drewN | apply below_drew1) | exact HB.out)⟩⟩
  case round =>
    clear H'
    try clear c1
    obtain ⟨x3_1, x4_1, rfl, HA, HK1, HO_3, HB⟩ := hrel
    cases gk with
    | zero => exact absurd HA.out (by simp [orthoepylaw00_Runes.l0])
    | succ k1 =>
      have H := HA.out
      clear HA
      simp only [orthoepylaw00_Runes.l0] at H
      have HC2 := Aside0.mk H
      clear H
      go_upto_region 3 with (fail)
      go_cut [13] (fun v13 wc => ∃ (kq : Nat) (x13_1 : Bool), v13 = .bool x13_1 ∧ Aside0 (orthoepylaw00_Runes.j1 kq l0 x3_1 x4_1 x13_1 = some r) ∧ Aside0 (kq ≤ k1) ∧ Aside0 (Kd.R (Kd.int .i32) 21 wc w.heap.size (fun _ => True) u3 x3_1) ∧ Aside0 (Below w.heap.size w wc))
      case first =>
        have H := HC2.out
        clear HC2
        by_cases c3 : x4_1 < (l0.length : Int)
        · rw [if_pos c3] at H
          have c3b0 : decide (x4_1 < (l0.length : Int)) = true := decide_eq_true c3
          clear c3
          (first | rw [c3b0] | (simp only [i64_w, i32_w]; rw [c3b0]) | skip)
          have H' := Aside0.mk H
          clear H
          go_wp2
          go_meet
          case rel => exact ⟨_, (decide (x4_1 < 60)), (by first | rfl | (simp; done) | (simp [*]; done)), H', ⟨by have := HK1.out; first | omega | exact Nat.le_refl _⟩, ⟨by (with_reducible repeat (first | apply Kd.R_alloc | apply Kd.R_drewN | apply Kd.R_drew)); exact HO_3.out⟩, ⟨by repeat (first | (with_reducible first | exact HB.out | apply below_alloc | apply pw_below_drewN | apply below_drew1) | exact HB.out)⟩⟩
        · rw [if_neg c3] at H
          have c3b0 : decide (x4_1 < (l0.length : Int)) = false := decide_eq_false c3
          clear c3
          (first | rw [c3b0] | (simp only [i64_w, i32_w]; rw [c3b0]) | skip)
          have H' := Aside0.mk H
          clear H
          go_wp2
          go_meet
          case rel => exact ⟨_, (false), (by first | rfl | (simp; done) | (simp [*]; done)), H', ⟨by have := HK1.out; first | omega | exact Nat.le_refl _⟩, ⟨by (with_reducible repeat (first | apply Kd.R_alloc | apply Kd.R_drewN | apply Kd.R_drew)); exact HO_3.out⟩, ⟨by repeat (first | (with_reducible first | exact HB.out | apply below_alloc | apply pw_below_drewN | apply below_drew1) | exact HB.out)⟩⟩
      case rest =>
        clear HC2
        try clear c1
        try clear p2
        try clear c3
        try clear c3b0
        obtain ⟨kq, x13_1, rfl, HA, HJ1, HO_3, HB⟩ := hcut
        cases kq with
        | zero => exact absurd HA.out (by simp [orthoepylaw00_Runes.j1])
        | succ kj1 =>
          have H := HA.out
          clear HA
          simp only [orthoepylaw00_Runes.j1] at H
          by_cases c4 : x13_1 = true
          · subst c4
            have H1 : (if 0 ≤ x4_1 then (if x4_1 < (l0.length : Int) then ((orthoepylaw00_Rune.f (rd l0 x4_1)).bind fun t236 => ((orthoepyref01_Is.f t236).bind fun t237 => (if t237 = true then (if x3_1.length < 35184372088832 then (orthoepylaw00_Runes.l0 kj1 l0 (x3_1 ++ [t236]) (wrap64 (x4_1 + 1))) else (none)) else (orthoepylaw00_Runes.l0 kj1 l0 x3_1 (wrap64 (x4_1 + 1)))))) else (none)) else (none)) = some r := by rw [if_pos rfl] at H; exact H
            clear H
            have H := H1
            clear H1
            by_cases c5 : 0 ≤ x4_1
            · rw [if_pos c5] at H
              have c5b0 : decide (0 ≤ x4_1) = true := decide_eq_true c5
              clear c5
              by_cases c6 : x4_1 < (l0.length : Int)
              · rw [if_pos c6] at H
                have c6b0 : decide (x4_1 < (l0.length : Int)) = true := decide_eq_true c6
                clear c6
                replace H := Option.bind_eq_some_iff.mp H
                obtain ⟨t236, A70, H⟩ := H
                replace H : ((orthoepyref01_Is.f t236).bind fun t237 => (if t237 = true then (if x3_1.length < 35184372088832 then (orthoepylaw00_Runes.l0 kj1 l0 (x3_1 ++ [t236]) (wrap64 (x4_1 + 1))) else (none)) else (orthoepylaw00_Runes.l0 kj1 l0 x3_1 (wrap64 (x4_1 + 1))))) = some r := H
                have A7 := Aside0.mk A70
                clear A70
                replace H := Option.bind_eq_some_iff.mp H
                obtain ⟨t237, A80, H⟩ := H
                replace H : (if t237 = true then (if x3_1.length < 35184372088832 then (orthoepylaw00_Runes.l0 kj1 l0 (x3_1 ++ [t236]) (wrap64 (x4_1 + 1))) else (none)) else (orthoepylaw00_Runes.l0 kj1 l0 x3_1 (wrap64 (x4_1 + 1)))) = some r := H
                have A8 := Aside0.mk A80
                clear A80
                by_cases c9 : t237 = true
                · subst c9
                  have H1 : (if x3_1.length < 35184372088832 then (orthoepylaw00_Runes.l0 kj1 l0 (x3_1 ++ [t236]) (wrap64 (x4_1 + 1))) else (none)) = some r := by rw [if_pos rfl] at H; exact H
                  clear H
                  have H := H1
                  clear H1
                  by_cases c10 : x3_1.length < 35184372088832
                  · rw [if_pos c10] at H
                    have LMc10 := Aside0.mk c10
                    clear c10
                    obtain ⟨y238, hy238⟩ : ∃ y_ : List Int, y_ = (x3_1 ++ [t236]) := ⟨_, rfl⟩
                    replace H : (orthoepylaw00_Runes.l0 kj1 l0 y238 (wrap64 (x4_1 + 1))) = some r := by first | (rw [hy238]; with_reducible exact H) | (have H2_ := (Option.bind_some _ _).symm.trans H; rw [hy238]; with_reducible exact H2_) | (have H2_ := (Option.bind_some _ _).symm.trans H; with_reducible exact H2_) | with_reducible exact H | (rw [hy238]; exact H) | exact H
                    have Ny238 := Aside0.mk hy238
                    clear hy238
                    have H' := Aside0.mk H
                    clear H
                    have p235 : 0 ≤ (x4_1 : Int) := of_decide_eq_true (by first | (with_reducible assumption) | assumption)
                    have q235 : x4_1 < (l0.length : Int) := of_decide_eq_true (by first | (with_reducible assumption) | assumption)
                    obtain ⟨ad235, e235, hx235_0⟩ := Kd.at_int HR0.out x4_1 p235 q235
                    cases e235
                    replace hx235_0 := (HB.out.cell (World.block_lt_of_cell? w _ hx235_0)).trans hx235_0
                    replace p235 := eq_true p235
                    replace q235 := eq_true q235
                    go_wp2_with (first | ((with_reducible refine gate_callee (f := 19) rfl ?_); refine goesL_ (some 20) rfl rfl Try.func19 (by kernel_rfl) rfl #[.int .i64 (rd l0 x4_1)] rfl (by (try simp only [List.map_toArray, List.map_cons, List.map_nil]); first | done | rfl | (simp only [List.length_drop, List.length_take]; rfl)) ?_; (with_reducible refine (orthoepylaw00_Rune.calls (rd l0 x4_1) t236 _ A7.out).mono ?_); rintro e w' ⟨rfl, ⟨nd, rfl⟩⟩; refine ⟨_, rfl, ?_⟩) | ((with_reducible refine gate_callee (f := 20) rfl ?_); refine goesL_ (some 22) rfl rfl Try.func20 (by kernel_rfl) rfl #[.int .i32 t236] rfl (by (try simp only [List.map_toArray, List.map_cons, List.map_nil]); first | done | rfl | (simp only [List.length_drop, List.length_take]; rfl)) ?_; (with_reducible refine (orthoepyref01_Is.calls t236 true _ A8.out).mono ?_); rintro e w' ⟨rfl, ⟨nd, rfl⟩⟩; refine ⟨_, rfl, ?_⟩) | ((with_reducible refine gate_builtin (b := .append) (xs := #[.tmp 23, .tmp 25]) rfl ?_); at_builtin; refine Kd.R_append (Kd.int .i32) (w0 := w) w.heap.size rfl (.tmp 23) (.tmp 25) 22 21 (.int .i32 0) 4 rfl Try.underlying22 info21 rfl (by decide) (by omega) u3 x3_1 t236 [.int .i32 t236] (fun _ => True) (fun _ => False) rfl rfl ?aP (fun _ hk => hk.elim) ?aF ?aO ?aB ?aS ?aL ?_; (case aP => exact rfl); (case aB => exact (by repeat (first | (with_reducible first | exact HB.out | apply below_alloc | apply pw_below_drewN | apply below_drew1) | exact HB.out))); (case aF => exact (fun _ _ => trivial)); (case aO => exact (by (with_reducible repeat (first | apply Kd.R_alloc | apply Kd.R_drewN | apply Kd.R_drew)); exact HO_3.out)); (case aS => exact (below_size (by repeat (first | (with_reducible first | exact HB.out | apply below_alloc | apply pw_below_drewN | apply below_drew1) | exact HB.out)))); (case aL => have := LMc10.out; omega); intro v239 w11 ho hb hg hat; rw [← Ny238.out] at ho; have n0_ := Aside0.mk (hb); have n1_ := Aside0.mk (ho); clear HB; clear HO_3; have HB := n0_; have HO240 := n1_; clear n0_ n1_; clear ho hb hg hat))
                    go_roundg kj1
                    case measure => have := HK1.out; have := HJ1.out; omega
                    case rel => exact ⟨(y238), (wrap64 (x4_1 + 1)), (by first | rfl | (simp; done) | (simp [*]; done)), H', ⟨by have := HK1.out; have := HJ1.out; omega⟩, ⟨by (with_reducible repeat (first | apply Kd.R_alloc | apply Kd.R_drewN | apply Kd.R_drew)); exact HO240.out⟩, ⟨by repeat (first | (with_reducible first | exact HB.out | apply below_alloc | apply pw_below_drewN | apply below_drew1) | exact HB.out)⟩⟩
                  · rw [if_neg c10] at H
                    exact absurd H (by simp)
                · replace c9 := Bool.eq_false_iff.mpr c9
                  subst c9
                  have H1 : (orthoepylaw00_Runes.l0 kj1 l0 x3_1 (wrap64 (x4_1 + 1))) = some r := by rw [if_neg (show ¬ (false = true) by decide)] at H; exact H
                  clear H
                  have H := H1
                  clear H1
                  have H' := Aside0.mk H
                  clear H
                  have p235 : 0 ≤ (x4_1 : Int) := of_decide_eq_true (by first | (with_reducible assumption) | assumption)
                  have q235 : x4_1 < (l0.length : Int) := of_decide_eq_true (by first | (with_reducible assumption) | assumption)
                  obtain ⟨ad235, e235, hx235_0⟩ := Kd.at_int HR0.out x4_1 p235 q235
                  cases e235
                  replace hx235_0 := (HB.out.cell (World.block_lt_of_cell? w _ hx235_0)).trans hx235_0
                  replace p235 := eq_true p235
                  replace q235 := eq_true q235
                  go_wp2_with (first | ((with_reducible refine gate_callee (f := 19) rfl ?_); refine goesL_ (some 20) rfl rfl Try.func19 (by kernel_rfl) rfl #[.int .i64 (rd l0 x4_1)] rfl (by (try simp only [List.map_toArray, List.map_cons, List.map_nil]); first | done | rfl | (simp only [List.length_drop, List.length_take]; rfl)) ?_; (with_reducible refine (orthoepylaw00_Rune.calls (rd l0 x4_1) t236 _ A7.out).mono ?_); rintro e w' ⟨rfl, ⟨nd, rfl⟩⟩; refine ⟨_, rfl, ?_⟩) | ((with_reducible refine gate_callee (f := 20) rfl ?_); refine goesL_ (some 22) rfl rfl Try.func20 (by kernel_rfl) rfl #[.int .i32 t236] rfl (by (try simp only [List.map_toArray, List.map_cons, List.map_nil]); first | done | rfl | (simp only [List.length_drop, List.length_take]; rfl)) ?_; (with_reducible refine (orthoepyref01_Is.calls t236 false _ A8.out).mono ?_); rintro e w' ⟨rfl, ⟨nd, rfl⟩⟩; refine ⟨_, rfl, ?_⟩))
                  go_roundg kj1
                  case measure => have := HK1.out; have := HJ1.out; omega
                  case rel => exact ⟨(x3_1), (wrap64 (x4_1 + 1)), (by first | rfl | (simp; done) | (simp [*]; done)), H', ⟨by have := HK1.out; have := HJ1.out; omega⟩, ⟨by (with_reducible repeat (first | apply Kd.R_alloc | apply Kd.R_drewN | apply Kd.R_drew)); exact HO_3.out⟩, ⟨by repeat (first | (with_reducible first | exact HB.out | apply below_alloc | apply pw_below_drewN | apply below_drew1) | exact HB.out)⟩⟩
              · rw [if_neg c6] at H
                exact absurd H (by simp)
            · rw [if_neg c5] at H
              exact absurd H (by simp)
          · replace c4 := Bool.eq_false_iff.mpr c4
            subst c4
            have H1 : (some x3_1) = some r := by rw [if_neg (show ¬ (false = true) by decide)] at H; exact H
            clear H
            have H := H1
            clear H1
            obtain rfl := Option.some.inj H
            go_wp2
            go_ret
            exact ⟨_, by first | rfl | (simp [errW_none, errW_some] <;> rfl) | (simp [*, errW_none, errW_some] <;> rfl), by (with_reducible repeat (first | apply Kd.R_alloc | apply Kd.R_drewN | apply Kd.R_drew)); exact HO_3.out, by repeat (first | (with_reducible first | exact HB.out | apply below_alloc | apply pw_below_drewN | apply below_drew1) | exact HB.out)⟩

/-! ### orthoepyref01_Units: function 18 -/
def orthoepyref01_Units.f (a0 : Int) : Option (Int) := (orthoepyref01_Is.f a0).bind fun t241 => (if t241 = true then (if a0 < 65536 then (some 1) else (some 2)) else (some 0))
set_option maxHeartbeats 8000000 in
set_option maxRecDepth 100000 in
theorem orthoepyref01_Units.calls (a0 : Int) (r : Int) (w : World) (h : orthoepyref01_Units.f a0 = some r) :
    Calls Try.prog 18 #[.int .i32 a0] w fun e w' => e = .returned (.int .i64 r) ∧ Drawn0 w w' := by
  have H : ((orthoepyref01_Is.f a0).bind fun t241 => (if t241 = true then (if a0 < 65536 then (some 1) else (some 2)) else (some 0))) = some r := h
  clear h
  replace H := Option.bind_eq_some_iff.mp H
  obtain ⟨t241, A20, H⟩ := H
  replace H : (if t241 = true then (if a0 < 65536 then (some 1) else (some 2)) else (some 0)) = some r := H
  have A2 := Aside0.mk A20
  clear A20
  by_cases c3 : t241 = true
  · subst c3
    have H1 : (if a0 < 65536 then (some 1) else (some 2)) = some r := by rw [if_pos rfl] at H; exact H
    clear H
    have H := H1
    clear H1
    by_cases c4 : a0 < 65536
    · rw [if_pos c4] at H
      have c4b0 : decide (a0 < 65536) = true := decide_eq_true c4
      clear c4
      obtain rfl := Option.some.inj H
      go_enter Try.func18, Try.ntmps18
      go_wp2_with (first | ((with_reducible refine gate_callee (f := 20) rfl ?_); refine goesL_ (some 5) rfl rfl Try.func20 (by kernel_rfl) rfl #[.int .i32 a0] rfl (by (try simp only [List.map_toArray, List.map_cons, List.map_nil]); first | done | rfl | (simp only [List.length_drop, List.length_take]; rfl)) ?_; (with_reducible refine (orthoepyref01_Is.calls a0 true _ A2.out).mono ?_); rintro e w' ⟨rfl, ⟨nd, rfl⟩⟩; refine ⟨_, rfl, ?_⟩))
      go_ret
      exact ⟨by first | rfl | (simp; done) | (simp [*]; done), by repeat (first | exact Drawn0.refl _ | apply Drawn0.step)⟩
    · rw [if_neg c4] at H
      have c4b0 : decide (a0 < 65536) = false := decide_eq_false c4
      clear c4
      obtain rfl := Option.some.inj H
      go_enter Try.func18, Try.ntmps18
      go_wp2_with (first | ((with_reducible refine gate_callee (f := 20) rfl ?_); refine goesL_ (some 5) rfl rfl Try.func20 (by kernel_rfl) rfl #[.int .i32 a0] rfl (by (try simp only [List.map_toArray, List.map_cons, List.map_nil]); first | done | rfl | (simp only [List.length_drop, List.length_take]; rfl)) ?_; (with_reducible refine (orthoepyref01_Is.calls a0 true _ A2.out).mono ?_); rintro e w' ⟨rfl, ⟨nd, rfl⟩⟩; refine ⟨_, rfl, ?_⟩))
      go_ret
      exact ⟨by first | rfl | (simp; done) | (simp [*]; done), by repeat (first | exact Drawn0.refl _ | apply Drawn0.step)⟩
  · replace c3 := Bool.eq_false_iff.mpr c3
    subst c3
    have H1 : (some 0) = some r := by rw [if_neg (show ¬ (false = true) by decide)] at H; exact H
    clear H
    have H := H1
    clear H1
    obtain rfl := Option.some.inj H
    go_enter Try.func18, Try.ntmps18
    go_wp2_with (first | ((with_reducible refine gate_callee (f := 20) rfl ?_); refine goesL_ (some 5) rfl rfl Try.func20 (by kernel_rfl) rfl #[.int .i32 a0] rfl (by (try simp only [List.map_toArray, List.map_cons, List.map_nil]); first | done | rfl | (simp only [List.length_drop, List.length_take]; rfl)) ?_; (with_reducible refine (orthoepyref01_Is.calls a0 false _ A2.out).mono ?_); rintro e w' ⟨rfl, ⟨nd, rfl⟩⟩; refine ⟨_, rfl, ?_⟩))
    go_ret
    exact ⟨by first | rfl | (simp; done) | (simp [*]; done), by repeat (first | exact Drawn0.refl _ | apply Drawn0.step)⟩

/-! ### orthoepylaw03_Utf16Back: function 4 -/
def orthoepylaw03_Utf16Back.l0 : Nat → List Int → List Int → List Int → Int → Bool → Int → Int → Option (Bool)
  | 0, _, _, _, _, _, _, _ => none
  | k + 1, x3, x4, x5, x6, x7, x8, x9 => if x9 < (x3.length : Int) then (if 0 ≤ x9 then ((orthoepyref01_Units.f (rd x3 x9)).bind fun t254 => (orthoepylaw03_Utf16Back.l0 k x3 x4 x5 x6 x7 (wrap64 (x8 + t254)) (wrap64 (x9 + 1)))) else (none)) else (if x7 = true then (if x6 = (x4.length : Int) then (if (x4.length : Int) = x8 then ((orthoepyref07_Same.f k x5 x3).bind fun t255 => (if t255 = true then ((orthoepylaw03_awake.f).bind fun t256 => (some t256)) else (some false))) else (some false)) else (some false)) else (some false))
def orthoepylaw03_Utf16Back.f (k : Nat) (l0 : List Int) : Option (Bool) := (orthoepylaw00_Runes.f k l0).bind fun t242 => ((utf16_Units.f t242).bind fun t245 => ((utf16_Scalars.f k t245).bind fun bt248 => (orthoepylaw03_Utf16Back.l0 k t242 t245 bt248.1 bt248.2.1 bt248.2.2 0 0)))
theorem orthoepylaw03_Utf16Back.mono_l : ∀ k, (∀ y0 y1 y2 y3 y4 y5 y6, LeO (orthoepylaw03_Utf16Back.l0 k y0 y1 y2 y3 y4 y5 y6) (orthoepylaw03_Utf16Back.l0 (k + 1) y0 y1 y2 y3 y4 y5 y6))
  | 0 => fun _ _ _ _ _ _ _ r h => by simp [orthoepylaw03_Utf16Back.l0] at h
  | k + 1 => by
    have ih0 := orthoepylaw03_Utf16Back.mono_l k
    · intro y0 y1 y2 y3 y4 y5 y6
      unfold orthoepylaw03_Utf16Back.l0
      repeat' first
      | (with_reducible exact ih0 _ _ _ _ _ _ _)
      | (with_reducible exact orthoepylaw00_Runes.mono _ _)
      | (with_reducible exact orthoepyref07_Same.mono _ _ _)
      | (with_reducible exact utf16_Scalars.mono _ _)
      | (with_reducible exact LeO.refl _)
      | (with_reducible exact LeO.none _)
      | (with_reducible refine LeO.ite ?_ ?_)
      | (with_reducible refine LeO.bind ?_ (fun _ => ?_))
      | exact ih0 _ _ _ _ _ _ _
      | exact orthoepylaw00_Runes.mono _ _
      | exact orthoepyref07_Same.mono _ _ _
      | exact utf16_Scalars.mono _ _
      | exact LeO.none _
      | refine LeO.ite ?_ ?_
      | refine LeO.bind ?_ (fun _ => ?_)
theorem orthoepylaw03_Utf16Back.mono : ∀ a0 k, LeO (orthoepylaw03_Utf16Back.f k a0) (orthoepylaw03_Utf16Back.f (k + 1) a0) := by
  intro a0 k
  have ih0 := orthoepylaw03_Utf16Back.mono_l k
  unfold orthoepylaw03_Utf16Back.f
  repeat' first
      | (with_reducible exact ih0 _ _ _ _ _ _ _)
      | (with_reducible exact orthoepylaw00_Runes.mono _ _)
      | (with_reducible exact orthoepyref07_Same.mono _ _ _)
      | (with_reducible exact utf16_Scalars.mono _ _)
      | (with_reducible exact LeO.refl _)
      | (with_reducible exact LeO.none _)
      | (with_reducible refine LeO.ite ?_ ?_)
      | (with_reducible refine LeO.bind ?_ (fun _ => ?_))
      | exact ih0 _ _ _ _ _ _ _
      | exact orthoepylaw00_Runes.mono _ _
      | exact orthoepyref07_Same.mono _ _ _
      | exact utf16_Scalars.mono _ _
      | exact LeO.none _
      | refine LeO.ite ?_ ?_
      | refine LeO.bind ?_ (fun _ => ?_)
set_option maxHeartbeats 8000000 in
set_option maxRecDepth 100000 in
theorem orthoepylaw03_Utf16Back.calls (k : Nat) (A0 : Option Addr) (c0 : Nat) (l0 : List Int) (r : Bool) (w : World) (hr0 : Kd.C (Kd.int .i64) w A0 l0.length l0) (hc0 : l0.length ≤ c0) (h : orthoepylaw03_Utf16Back.f k l0 = some r) (hT_ : Aside0 (r = true)) :
    Calls Try.prog 4 #[.slice A0 l0.length c0] w fun e w' => e = .returned (.bool r) ∧ Below w.heap.size w w' := by
  have HR0 := Aside0.mk hr0
  have HC0 := Aside0.mk hc0
  clear hr0 hc0
  have HB := Aside0.mk (Below.refl w.heap.size w)
  have H : ((orthoepylaw00_Runes.f k l0).bind fun t242 => ((utf16_Units.f t242).bind fun t245 => ((utf16_Scalars.f k t245).bind fun bt248 => (orthoepylaw03_Utf16Back.l0 k t242 t245 bt248.1 bt248.2.1 bt248.2.2 0 0)))) = some r := h
  clear h
  replace H := Option.bind_eq_some_iff.mp H
  obtain ⟨t242, A20, H⟩ := H
  replace H : ((utf16_Units.f t242).bind fun t245 => ((utf16_Scalars.f k t245).bind fun bt248 => (orthoepylaw03_Utf16Back.l0 k t242 t245 bt248.1 bt248.2.1 bt248.2.2 0 0))) = some r := H
  have A2 := Aside0.mk A20
  clear A20
  replace H := Option.bind_eq_some_iff.mp H
  obtain ⟨t245, A30, H⟩ := H
  replace H : ((utf16_Scalars.f k t245).bind fun bt248 => (orthoepylaw03_Utf16Back.l0 k t242 t245 bt248.1 bt248.2.1 bt248.2.2 0 0)) = some r := H
  have A3 := Aside0.mk A30
  clear A30
  replace H := Option.bind_eq_some_iff.mp H
  obtain ⟨⟨t248, t249, t250⟩, A40, H⟩ := H
  replace H : (orthoepylaw03_Utf16Back.l0 k t242 t245 t248 t249 t250 0 0) = some r := H
  have A4 := Aside0.mk A40
  clear A40
  have H' := Aside0.mk H
  clear H
  go_enter Try.func4, Try.ntmps4
  go_wp2_with (first | ((with_reducible refine gate_callee (f := 17) rfl ?_); refine goesL_ (some 11) rfl rfl Try.func17 (by kernel_rfl) rfl #[.slice A0 l0.length c0] rfl (by (try simp only [List.map_toArray, List.map_cons, List.map_nil]); first | done | rfl | (simp only [List.length_drop, List.length_take]; rfl)) ?_; (with_reducible refine (orthoepylaw00_Runes.calls k _ _ l0 t242 _ ?side1 ?side2 A2.out).mono ?_); (case side1 => repeat (first | exact HR0.out | (with_reducible refine Kd.C_alloc ?_ _) | (with_reducible refine Kd.C_drewN ?_ _) | (with_reducible refine Kd.C_drew ?_))); (case side2 => exact HC0.out); rintro e w5 ⟨v243, rfl, ho0, hb⟩; refine ⟨_, rfl, ?_⟩; have n0_ := Aside0.mk (Kd.R_lower ho0 (below_size (by repeat (first | (with_reducible first | exact HB.out | apply below_alloc | apply pw_below_drewN | apply below_drew1) | exact HB.out)))); have n1_ := Aside0.mk (below_step (by repeat (first | (with_reducible first | exact HB.out | apply below_alloc | apply pw_below_drewN | apply below_drew1) | exact HB.out)) hb); clear HB; have HO244 := n0_; have HB := n1_; clear n0_ n1_; (try clear hb); (try clear hb2); (try clear hk); (try clear hi); (try clear ho0); obtain ⟨Ao6, co6, eo6⟩ := Kd.R_slice HO244.out; subst eo6) | ((with_reducible refine gate_callee (f := 12) rfl ?_); refine goesL_ (some 13) rfl rfl Try.func12 (by kernel_rfl) rfl #[.slice Ao6 t242.length co6] rfl (by (try simp only [List.map_toArray, List.map_cons, List.map_nil]); first | done | rfl | (simp only [List.length_drop, List.length_take]; rfl)) ?_; (with_reducible refine (utf16_Units.calls _ _ t242 t245 _ ?side1 ?side2 A3.out).mono ?_); (case side1 => repeat (first | exact (Kd.R_reads' HO244.out).2.2 | (with_reducible refine Kd.C_alloc ?_ _) | (with_reducible refine Kd.C_drewN ?_ _) | (with_reducible refine Kd.C_drew ?_))); (case side2 => exact (Kd.R_reads' HO244.out).2.1); rintro e w7 ⟨v246, rfl, ho0, hb⟩; refine ⟨_, rfl, ?_⟩; have n0_ := Aside0.mk (Kd.R_below (by (with_reducible repeat (first | apply Kd.R_alloc | apply Kd.R_drewN | apply Kd.R_drew)); exact HO244.out) hb); have n1_ := Aside0.mk (Kd.R_lower ho0 (below_size (by repeat (first | (with_reducible first | exact HB.out | apply below_alloc | apply pw_below_drewN | apply below_drew1) | exact HB.out)))); have n2_ := Aside0.mk (below_step (by repeat (first | (with_reducible first | exact HB.out | apply below_alloc | apply pw_below_drewN | apply below_drew1) | exact HB.out)) hb); clear HO244; clear HB; have HO244 := n0_; have HO247 := n1_; have HB := n2_; clear n0_ n1_ n2_; (try clear hb); (try clear hb2); (try clear hk); (try clear hi); (try clear ho0); obtain ⟨Ao8, co8, eo8⟩ := Kd.R_slice HO247.out; subst eo8) | ((with_reducible refine gate_callee (f := 9) rfl ?_); refine goesL_ (some 16) rfl rfl Try.func9 (by kernel_rfl) rfl #[.slice Ao8 t245.length co8] rfl (by (try simp only [List.map_toArray, List.map_cons, List.map_nil]); first | done | rfl | (simp only [List.length_drop, List.length_take]; rfl)) ?_; (with_reducible refine (utf16_Scalars.calls k _ _ t245 t248 t249 t250 _ ?side1 ?side2 A4.out).mono ?_); (case side1 => repeat (first | exact (Kd.R_reads' HO247.out).2.2 | (with_reducible refine Kd.C_alloc ?_ _) | (with_reducible refine Kd.C_drewN ?_ _) | (with_reducible refine Kd.C_drew ?_))); (case side2 => exact (Kd.R_reads' HO247.out).2.1); rintro e w9 ⟨v251, rfl, ho0, hb⟩; refine ⟨_, rfl, ?_⟩; have n0_ := Aside0.mk (Kd.R_elder' (by (with_reducible repeat (first | apply Kd.R_alloc | apply Kd.R_drewN | apply Kd.R_drew)); exact HO244.out) (Kd.R_base ho0) hb); have n1_ := Aside0.mk (Kd.R_below (by (with_reducible repeat (first | apply Kd.R_alloc | apply Kd.R_drewN | apply Kd.R_drew)); exact HO247.out) hb); have n2_ := Aside0.mk (Kd.R_lower (Kd.R_new' ho0 (Kd.R_lt (by (with_reducible repeat (first | apply Kd.R_alloc | apply Kd.R_drewN | apply Kd.R_drew)); exact HO244.out))) (below_size (by repeat (first | (with_reducible first | exact HB.out | apply below_alloc | apply pw_below_drewN | apply below_drew1) | exact HB.out)))); have n3_ := Aside0.mk (below_step (by repeat (first | (with_reducible first | exact HB.out | apply below_alloc | apply pw_below_drewN | apply below_drew1) | exact HB.out)) hb); clear HO244; clear HO247; clear HB; have HO244 := n0_; have HO247 := n1_; have HO252 := n2_; have HB := n3_; clear n0_ n1_ n2_ n3_; (try clear hb); (try clear hb2); (try clear hk); (try clear hi); (try clear ho0)))
  go_loopg [8, 9] k (fun kq v8 v9 w' => ∃ (x8_1 : Int) (x9_1 : Int), v8 = .int .i64 x8_1 ∧ v9 = .int .i64 x9_1 ∧ Aside0 (orthoepylaw03_Utf16Back.l0 kq t242 t245 t248 t249 t250 x8_1 x9_1 = some r) ∧ Aside0 (kq ≤ k) ∧ Aside0 (Kd.R (Kd.int .i32) 21 w' w.heap.size (fun k_ => some k_ ≠ (v251 : Value).ownBlock) (.slice Ao6 t242.length co6) t242) ∧ Aside0 (Kd.R (Kd.int .u16) 43 w' w.heap.size (fun _ => True) (.slice Ao8 t245.length co8) t245) ∧ Aside0 (Kd.R (Kd.int .i32) 21 w' w.heap.size (fun k_ => some k_ ≠ ((.slice Ao6 t242.length co6) : Value).ownBlock) v251 t248) ∧ Aside0 (Below w.heap.size w w'))
  case atStart => exact ⟨(0), (0), (by first | rfl | (simp; done) | (simp [*]; done)), (by first | rfl | (simp; done) | (simp [*]; done)), H', ⟨Nat.le_refl _⟩, ⟨by (with_reducible repeat (first | apply Kd.R_alloc | apply Kd.R_drewN | apply Kd.R_drew)); exact Kd.R_mono HO244.out (fun _ hk => hk.2)⟩, ⟨by (with_reducible repeat (first | apply Kd.R_alloc | apply Kd.R_drewN | apply Kd.R_drew)); exact HO247.out⟩, ⟨by (with_reducible repeat (first | apply Kd.R_alloc | apply Kd.R_drewN | apply Kd.R_drew)); exact Kd.R_mono HO252.out (fun _ hk => hk.2)⟩, ⟨by repeat (first | (with_reducible first | exact HB.out | apply below_alloc | apply pw_below_drewN | apply below_drew1) | exact HB.out)⟩⟩
  case round =>
    clear H'
    try clear c1
    try clear p2
    try clear c4
    try clear c9
    obtain ⟨x8_1, x9_1, rfl, rfl, HA, HK1, HO_3, HO_4, HO_5, HB⟩ := hrel
    cases gk with
    | zero => exact absurd HA.out (by simp [orthoepylaw03_Utf16Back.l0])
    | succ k1 =>
      have H := HA.out
      clear HA
      simp only [orthoepylaw03_Utf16Back.l0] at H
      by_cases c10 : x9_1 < (t242.length : Int)
      · rw [if_pos c10] at H
        have c10b0 : decide (x9_1 < (t242.length : Int)) = true := decide_eq_true c10
        clear c10
        by_cases c11 : 0 ≤ x9_1
        · rw [if_pos c11] at H
          have c11b0 : decide (0 ≤ x9_1) = true := decide_eq_true c11
          clear c11
          replace H := Option.bind_eq_some_iff.mp H
          obtain ⟨t254, A120, H⟩ := H
          replace H : (orthoepylaw03_Utf16Back.l0 k1 t242 t245 t248 t249 t250 (wrap64 (x8_1 + t254)) (wrap64 (x9_1 + 1))) = some r := H
          have A12 := Aside0.mk A120
          clear A120
          have H' := Aside0.mk H
          clear H
          have p253 : 0 ≤ (x9_1 : Int) := of_decide_eq_true (by first | (with_reducible assumption) | assumption)
          have q253 : x9_1 < (t242.length : Int) := of_decide_eq_true (by first | (with_reducible assumption) | assumption)
          obtain ⟨ad253, e253, hx253_0⟩ := Kd.at_int (Kd.R_reads' HO_3.out).2.2 x9_1 p253 q253
          cases e253
          replace p253 := eq_true p253
          replace q253 := eq_true q253
          go_wp2_with (first | ((with_reducible refine gate_callee (f := 18) rfl ?_); refine goesL_ (some 31) rfl rfl Try.func18 (by kernel_rfl) rfl #[.int .i32 (rd t242 x9_1)] rfl (by (try simp only [List.map_toArray, List.map_cons, List.map_nil]); first | done | rfl | (simp only [List.length_drop, List.length_take]; rfl)) ?_; (with_reducible refine (orthoepyref01_Units.calls (rd t242 x9_1) t254 _ A12.out).mono ?_); rintro e w' ⟨rfl, ⟨nd, rfl⟩⟩; refine ⟨_, rfl, ?_⟩))
          go_roundg k1
          case measure => have := HK1.out; omega
          case rel => exact ⟨(wrap64 (x8_1 + t254)), (wrap64 (x9_1 + 1)), (by first | rfl | (simp; done) | (simp [*]; done)), (by first | rfl | (simp; done) | (simp [*]; done)), H', ⟨by have := HK1.out; omega⟩, ⟨by (with_reducible repeat (first | apply Kd.R_alloc | apply Kd.R_drewN | apply Kd.R_drew)); exact HO_3.out⟩, ⟨by (with_reducible repeat (first | apply Kd.R_alloc | apply Kd.R_drewN | apply Kd.R_drew)); exact HO_4.out⟩, ⟨by (with_reducible repeat (first | apply Kd.R_alloc | apply Kd.R_drewN | apply Kd.R_drew)); exact HO_5.out⟩, ⟨by repeat (first | (with_reducible first | exact HB.out | apply below_alloc | apply pw_below_drewN | apply below_drew1) | exact HB.out)⟩⟩
        · rw [if_neg c11] at H
          exact absurd H (by simp)
      · rw [if_neg c10] at H
        have c10b0 : decide (x9_1 < (t242.length : Int)) = false := decide_eq_false c10
        clear c10
        by_cases c13 : t250 = true
        · subst c13
          have H1 : (if t249 = (t245.length : Int) then (if (t245.length : Int) = x8_1 then ((orthoepyref07_Same.f k1 t248 t242).bind fun t255 => (if t255 = true then ((orthoepylaw03_awake.f).bind fun t256 => (some t256)) else (some false))) else (some false)) else (some false)) = some r := by rw [if_pos rfl] at H; exact H
          clear H
          have H := H1
          clear H1
          by_cases c14 : t249 = (t245.length : Int)
          · rw [if_pos c14] at H
            have c14b0 : (t249 == (t245.length : Int)) = true := beq_iff_eq.mpr c14
            have c14b1 : (t249 != (t245.length : Int)) = false := bne_eq_false_iff_eq.mpr c14
            clear c14
            by_cases c15 : (t245.length : Int) = x8_1
            · rw [if_pos c15] at H
              have c15b0 : ((t245.length : Int) == x8_1) = true := beq_iff_eq.mpr c15
              have c15b1 : ((t245.length : Int) != x8_1) = false := bne_eq_false_iff_eq.mpr c15
              clear c15
              replace H := Option.bind_eq_some_iff.mp H
              obtain ⟨t255, A160, H⟩ := H
              replace H : (if t255 = true then ((orthoepylaw03_awake.f).bind fun t256 => (some t256)) else (some false)) = some r := H
              have A16 := Aside0.mk A160
              clear A160
              by_cases c17 : t255 = true
              · subst c17
                have H1 : ((orthoepylaw03_awake.f).bind fun t256 => (some t256)) = some r := by rw [if_pos rfl] at H; exact H
                clear H
                have H := H1
                clear H1
                replace H := Option.bind_eq_some_iff.mp H
                obtain ⟨t256, A180, H⟩ := H
                replace H : (some t256) = some r := H
                have A18 := Aside0.mk A180
                clear A180
                obtain rfl := Option.some.inj H
                obtain ⟨Ao19, co19, eo19⟩ := Kd.R_slice HO_5.out
                subst eo19
                go_wp2_with (first | (go_at_call 14; (with_reducible refine (orthoepyref07_Same.calls k1 _ _ t248 _ _ t242 true _ ?side1 ?side2 ?side3 ?side4 A16.out).mono ?_); (case side1 => repeat (first | exact (Kd.R_reads' HO_5.out).2.2 | (with_reducible refine Kd.C_alloc ?_ _) | (with_reducible refine Kd.C_drewN ?_ _) | (with_reducible refine Kd.C_drew ?_))); (case side2 => exact (Kd.R_reads' HO_5.out).2.1); (case side3 => repeat (first | exact (Kd.R_reads' HO_3.out).2.2 | (with_reducible refine Kd.C_alloc ?_ _) | (with_reducible refine Kd.C_drewN ?_ _) | (with_reducible refine Kd.C_drew ?_))); (case side4 => exact (Kd.R_reads' HO_3.out).2.1); rintro e w' ⟨rfl, ⟨nd, rfl⟩⟩) | (go_at_call 8; (with_reducible refine (orthoepylaw03_awake.calls  t256 _ A18.out).mono ?_); rintro e w20 ⟨rfl, hb⟩; have n0_ := Aside0.mk (Kd.R_below (by (with_reducible repeat (first | apply Kd.R_alloc | apply Kd.R_drewN | apply Kd.R_drew)); exact HO_3.out) hb); have n1_ := Aside0.mk (Kd.R_below (by (with_reducible repeat (first | apply Kd.R_alloc | apply Kd.R_drewN | apply Kd.R_drew)); exact HO_4.out) hb); have n2_ := Aside0.mk (Kd.R_below (by (with_reducible repeat (first | apply Kd.R_alloc | apply Kd.R_drewN | apply Kd.R_drew)); exact HO_5.out) hb); have n3_ := Aside0.mk (below_step (by repeat (first | (with_reducible first | exact HB.out | apply below_alloc | apply pw_below_drewN | apply below_drew1) | exact HB.out)) hb); clear HO_3; clear HO_4; clear HO_5; clear HB; have HO_3 := n0_; have HO_4 := n1_; have HO_5 := n2_; have HB := n3_; clear n0_ n1_ n2_ n3_; (try clear hb); (try clear hb2); (try clear hk); (try clear hi)))
                go_ret
                exact ⟨by first | rfl | (simp [errW_none, errW_some] <;> rfl) | (simp [*, errW_none, errW_some] <;> rfl), by repeat (first | (with_reducible first | exact HB.out | apply below_alloc | apply pw_below_drewN | apply below_drew1) | exact HB.out)⟩
              · replace c17 := Bool.eq_false_iff.mpr c17
                subst c17
                have H1 : (some false) = some r := by rw [if_neg (show ¬ (false = true) by decide)] at H; exact H
                clear H
                have H := H1
                clear H1
                obtain rfl := Option.some.inj H
                exact absurd hT_.out (by decide)
            · rw [if_neg c15] at H
              have c15b0 : ((t245.length : Int) == x8_1) = false := beq_eq_false_iff_ne.mpr c15
              have c15b1 : ((t245.length : Int) != x8_1) = true := bne_iff_ne.mpr c15
              obtain rfl := Option.some.inj H
              exact absurd hT_.out (by decide)
          · rw [if_neg c14] at H
            have c14b0 : (t249 == (t245.length : Int)) = false := beq_eq_false_iff_ne.mpr c14
            have c14b1 : (t249 != (t245.length : Int)) = true := bne_iff_ne.mpr c14
            obtain rfl := Option.some.inj H
            exact absurd hT_.out (by decide)
        · replace c13 := Bool.eq_false_iff.mpr c13
          subst c13
          have H1 : (some false) = some r := by rw [if_neg (show ¬ (false = true) by decide)] at H; exact H
          clear H
          have H := H1
          clear H1
          obtain rfl := Option.some.inj H
          exact absurd hT_.out (by decide)

/-- THE ONE PURE STATEMENT of orthoepylaw03_Utf16Back: yours. -/
def orthoepylaw03_Utf16Back.Pure : Prop := ∀ (l0 : List Int), l0.length ≤ maxLen → l0.length * 8 ≤ 140737488351232 → (∀ x ∈ l0, (Lit.int .i64 x).wf = true) → ∃ k, orthoepylaw03_Utf16Back.f k l0 = some true
theorem orthoepylaw03_Utf16Back.walk (P : orthoepylaw03_Utf16Back.Pure) (a0 : Option Addr) (len0 cap0 : Nat) (z0 : List Int) (w : World) (w0 : (a0 = none ∧ len0 = 0 ∧ cap0 = 0 ∧ z0 = []) ∨ ∃ x, a0 = some x ∧ len0 ≤ cap0 ∧ cap0 ≤ maxLen ∧ z0.length = cap0 ∧ (∀ i, i < z0.length → w.cell? (x.add i) = some (.int .i64 (z0.getD i 0))) ∧ ∀ n ∈ z0, (Lit.int .i64 n).wf = true) (y0 : len0 * 8 ≤ 140737488351232) :
    Calls Try.prog 4 #[.slice a0 len0 cap0] w fun e w' => e = .returned (.bool true) ∧ Below w.heap.size w w' := by
  obtain ⟨l0, rfl, hr0, hm0, hw0, hc0⟩ := ReadsInt.ofRowC w0
  obtain ⟨k, h⟩ := P l0 hm0 y0 hw0
  refine (orthoepylaw03_Utf16Back.calls k _ _ l0 true w (Kd.C_of_reads (d := (0 : Int)) (h1 := fun _ => rfl) hr0) hc0 h ⟨rfl⟩).mono ?_
  rintro e w' ⟨rfl, hd⟩
  exact ⟨rfl, hd⟩

end Go.Proofs.Ythgloaihgpcjjaa.PAll
