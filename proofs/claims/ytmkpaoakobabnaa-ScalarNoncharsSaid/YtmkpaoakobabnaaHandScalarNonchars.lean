/- The law ScalarNonchars: which scalars are noncharacters, for every number; no condition. The law's own walk, by hand, over the printed contracts of what it calls. -/
import Derived.Test.YtmkpaoakobabnaaPScalarNoncharsx1
import Derived.Deep.RegionWith

namespace Go.Proofs.Ytmkpaoakobabnaa.PScalarNonchars
open Go.RowKit Go.Proofs.YtmkpaoakobabnaaW.PrintWords Go.Proofs.YtmkpaoakobabnaaW.PrintLast Go.Proofs.YtmkpaoakobabnaaW.PrintMore
set_option linter.unusedVariables false
set_option linter.unusedSimpArgs false
theorem wf_i32 {n : Int} (h : (Lit.int .i32 n).wf = true) : -2147483648 ≤ n ∧ n ≤ 2147483647 := by
  simp [Lit.wf, IntKind.min, IntKind.max, IntKind.bits, IntKind.signed] at h
  omega
theorem wf_u16 {n : Int} (h : (Lit.int .u16 n).wf = true) : 0 ≤ n ∧ n ≤ 65535 := by
  simp [Lit.wf, IntKind.min, IntKind.max, IntKind.bits, IntKind.signed] at h
  omega
theorem wf_i64 {n : Int} (h : (Lit.int .i64 n).wf = true) : -9223372036854775808 ≤ n ∧ n ≤ 9223372036854775807 := by
  simp [Lit.wf, IntKind.min, IntKind.max, IntKind.bits, IntKind.signed] at h
  omega
theorem wrap_u16 (n : Int) : IntKind.u16.wrap n = n % 65536 := by
  simp [IntKind.wrap, IntKind.bits, IntKind.signed]
theorem and1023 (x : Int) (h0 : 0 ≤ x) (h1 : x < 2147483648) : Go.bits .and .i32 x 1023 = x % 1024 :=
  bits_mask .i32 31 (by decide) wraps_i32 10 (by decide) x h0 h1
theorem nat_and65534 (x : Nat) : x &&& 65534 = 2 * ((x / 2) % 32768) := by
  have h1 : (x &&& 65534) >>> 1 = (x >>> 1) &&& (65534 >>> 1) := Nat.shiftRight_and_distrib
  have h2 : (x &&& 65534) % 2 ^ 1 = (x % 2 ^ 1) &&& (65534 % 2 ^ 1) := Nat.and_mod_two_pow
  have h3 : (x / 2) &&& 32767 = (x / 2) % 32768 := Nat.and_two_pow_sub_one_eq_mod (x / 2) 15
  simp only [Nat.shiftRight_eq_div_pow, Nat.pow_one] at h1 h2
  have h4 : 65534 / 2 = 32767 := rfl
  rw [h4, h3] at h1
  have h5 : (65534 % 2 : Nat) = 0 := rfl
  rw [h5, Nat.and_zero] at h2
  omega
theorem and65534 (x : Int) (h0 : 0 ≤ x) (h1 : x < 2147483648) : Go.bits .and .i32 x 65534 = 2 * ((x / 2) % 32768) := by
  obtain ⟨a, rfl⟩ := Int.eq_ofNat_of_zero_le h0
  have := (bits_nat .i32 31 (by decide) wraps_i32 a 65534 (by omega) (by decide)).1
  rw [show ((65534 : Int)) = ((65534 : Nat) : Int) from rfl, this, nat_and65534]
  omega
def isScal (c : Int) : Bool := decide (0 ≤ c ∧ c ≤ 1114111 ∧ (c < 55296 ∨ c > 57343))
theorem is_val (c : Int) : scalar_Is.f c = some (isScal c) := by
  unfold scalar_Is.f isScal
  (repeat' split) <;> (congr 1; rw [Bool.eq_iff_iff]; simp only [decide_eq_true_eq, Bool.false_eq_true, true_iff, false_iff, iff_true, iff_false]; omega)
theorem units_val (c : Int) : scalar_Units.f c = some (if isScal c then (if c ≥ 65536 then 2 else 1) else 0) := by
  unfold scalar_Units.f
  rw [is_val]
  simp only [Option.bind_some]
  (repeat' split) <;> simp_all
def isNon (c : Int) : Bool := decide (c ≥ 64976 ∧ c ≤ 65007) || (isScal c && decide (c % 65536 ≥ 65534))
theorem non_val (c : Int) : scalar_Nonchar.f c = some (isNon c) := by
  have h : isScal c = true → ((Go.bits .and .i32 c 65534) == 65534) = decide (c % 65536 ≥ 65534) := by
    intro hs
    simp [isScal] at hs
    rw [and65534 c (by omega) (by omega), Bool.eq_iff_iff]
    simp
    omega
  unfold scalar_Nonchar.f isNon
  rw [is_val]
  simp only [Option.bind_some]
  cases hs : isScal c with
  | true => rw [h hs]; (repeat' split) <;> simp_all <;> omega
  | false => (repeat' split) <;> simp_all <;> omega
def splitV (c : Int) : Int × Int × Bool := if 65536 ≤ c ∧ c ≤ 1114111 then (55296 + (c - 65536) / 1024, 56320 + (c - 65536) % 1024, true) else (0, 0, false)
theorem split_val (c : Int) (h0 : -2147483648 ≤ c) (h1 : c ≤ 2147483647) : scalar_Split.f c = some (splitV c) := by
  unfold scalar_Split.f splitV
  rw [units_val]
  simp only [Option.bind_some]
  by_cases h : 65536 ≤ c ∧ c ≤ 1114111
  · have hs : isScal c = true := by simp [isScal]; omega
    rw [if_pos h, hs]
    simp only [if_true]
    rw [if_pos (show c ≥ 65536 by omega)]
    simp only [if_true]
    have e : wrap32 (c - 65536) = c - 65536 := by unfold wrap32; omega
    rw [e, and1023 _ (by omega) (by omega)]
    have e1 : wrap32 (55296 + (c - 65536) / 1024) = 55296 + (c - 65536) / 1024 := by unfold wrap32; omega
    have e2 : wrap32 (56320 + (c - 65536) % 1024) = 56320 + (c - 65536) % 1024 := by unfold wrap32; omega
    rw [e1, e2, wrap_u16, wrap_u16, Int.emod_eq_of_lt (by omega) (by omega), Int.emod_eq_of_lt (by omega) (by omega)]
  · rw [if_neg h, if_neg]
    by_cases hs : isScal c = true
    · rw [if_pos hs]; simp [isScal] at hs; rw [if_neg (by omega)]; decide
    · rw [if_neg hs]; decide
def isHigh (u : Int) : Bool := decide (55296 ≤ u ∧ u ≤ 56319)
def isLow (u : Int) : Bool := decide (56320 ≤ u ∧ u ≤ 57343)
theorem high_val (u : Int) : scalar_High.f u = some (isHigh u) := by unfold scalar_High.f isHigh; split <;> (congr 1; rw [Bool.eq_iff_iff]; simp; omega)
theorem low_val (u : Int) : scalar_Low.f u = some (isLow u) := by unfold scalar_Low.f isLow; split <;> (congr 1; rw [Bool.eq_iff_iff]; simp; omega)
def joinV (h l : Int) : Int × Bool := if isHigh h = true ∧ isLow l = true then (65536 + (h - 55296) * 1024 + (l - 56320), true) else (0, false)
theorem join_val (h l : Int) : scalar_Join.f h l = some (joinV h l) := by
  unfold scalar_Join.f joinV
  rw [high_val, low_val]
  simp only [Option.bind_some]
  by_cases h1 : isHigh h = true
  · by_cases h2 : isLow l = true
    · rw [if_pos h1, if_pos h2, if_pos ⟨h1, h2⟩]
      simp [isHigh] at h1
      simp [isLow] at h2
      rw [wrap_u16, wrap_u16]
      congr 2
      unfold wrap32
      omega
    · rw [if_pos h1, if_neg h2, if_neg (by simp [h2])]
  · rw [if_neg h1, if_neg (by simp [h1])]
theorem awake_true : orthoepylaw01_awake.f = some true := by decide +kernel
set_option maxHeartbeats 1000000 in
set_option maxRecDepth 100000 in
theorem nonchars_pos_a (a0 n : Int) (w : World) (hT : a0.tmod 1114112 = n) (h0 : 0 ≤ n) (h1 : n ≤ 1114111) (low : n % 65536 ≥ 65534) (d0 : 57344 ≤ n) (d9 : 64976 ≤ n)  (t1 : decide (n < 55296) = false) (t2 : decide (57344 ≤ n) = true) (A : Aside0 (scalar_Nonchar.f n = some true)) (B : Aside0 (scalar_Is.f n = some true)) (C : Aside0 (scalar_Is.f (-1 - n) = some false)) (D : Aside0 (scalar_Nonchar.f (1114112 + n) = some false)) (F : Aside0 (orthoepylaw01_awake.f = some true)) :
    Calls Try.prog 6 #[.int .i64 a0] w fun e w' => e = .returned (.bool true) ∧ Drawn0 w w' := by
  go_enter Try.func6, Try.ntmps6
  go_wp2_with (first | (go_at_call_of 13 (n); with_reducible refine (scalar_Nonchar.calls n true _ A.out).mono ?_; rintro e w' ⟨rfl, ⟨nd, rfl⟩⟩) | (go_at_call 13; refine (scalar_Nonchar.calls _ false _ ?hD).mono ?_; (case hD => exact D.out); rintro e w' ⟨rfl, ⟨nd, rfl⟩⟩) | (go_at_call_of 11 (n); with_reducible refine (scalar_Is.calls n true _ B.out).mono ?_; rintro e w' ⟨rfl, ⟨nd, rfl⟩⟩) | (go_at_call 11; refine (scalar_Is.calls _ false _ ?hC).mono ?_; (case hC => exact C.out); rintro e w' ⟨rfl, ⟨nd, rfl⟩⟩) | (go_at_call 21; with_reducible refine (orthoepylaw01_awake.calls true _ F.out).mono ?_; rintro e w' ⟨rfl, ⟨nd, rfl⟩⟩))
  go_ret
  exact ⟨rfl, by repeat (first | exact Drawn0.refl _ | apply Drawn0.step)⟩
set_option maxHeartbeats 1000000 in
set_option maxRecDepth 100000 in
theorem nonchars_pos_b (a0 n : Int) (w : World) (hT : a0.tmod 1114112 = n) (h0 : 0 ≤ n) (h1 : n ≤ 1114111) (low : n % 65536 < 65534) (d1 : 64976 ≤ n) (d2 : n < 65008) (t1 : decide (n < 55296) = false) (t2 : decide (57344 ≤ n) = true) (A : Aside0 (scalar_Nonchar.f n = some true)) (B : Aside0 (scalar_Is.f n = some true)) (C : Aside0 (scalar_Is.f (-1 - n) = some false)) (D : Aside0 (scalar_Nonchar.f (1114112 + n) = some false)) (F : Aside0 (orthoepylaw01_awake.f = some true)) :
    Calls Try.prog 6 #[.int .i64 a0] w fun e w' => e = .returned (.bool true) ∧ Drawn0 w w' := by
  go_enter Try.func6, Try.ntmps6
  go_wp2_with (first | (go_at_call_of 13 (n); with_reducible refine (scalar_Nonchar.calls n true _ A.out).mono ?_; rintro e w' ⟨rfl, ⟨nd, rfl⟩⟩) | (go_at_call 13; refine (scalar_Nonchar.calls _ false _ ?hD).mono ?_; (case hD => exact D.out); rintro e w' ⟨rfl, ⟨nd, rfl⟩⟩) | (go_at_call_of 11 (n); with_reducible refine (scalar_Is.calls n true _ B.out).mono ?_; rintro e w' ⟨rfl, ⟨nd, rfl⟩⟩) | (go_at_call 11; refine (scalar_Is.calls _ false _ ?hC).mono ?_; (case hC => exact C.out); rintro e w' ⟨rfl, ⟨nd, rfl⟩⟩) | (go_at_call 21; with_reducible refine (orthoepylaw01_awake.calls true _ F.out).mono ?_; rintro e w' ⟨rfl, ⟨nd, rfl⟩⟩))
  go_ret
  exact ⟨rfl, by repeat (first | exact Drawn0.refl _ | apply Drawn0.step)⟩
set_option maxHeartbeats 1000000 in
set_option maxRecDepth 100000 in
theorem nonchars_pos_c (a0 n : Int) (w : World) (hT : a0.tmod 1114112 = n) (h0 : 0 ≤ n) (h1 : n ≤ 1114111) (low : n % 65536 < 65534) (d1 : n < 55296) (t1 : decide (n < 55296) = true) (t2 : decide (57344 ≤ n) = false) (A : Aside0 (scalar_Nonchar.f n = some false)) (B : Aside0 (scalar_Is.f n = some true)) (C : Aside0 (scalar_Is.f (-1 - n) = some false)) (D : Aside0 (scalar_Nonchar.f (1114112 + n) = some false)) (F : Aside0 (orthoepylaw01_awake.f = some true)) :
    Calls Try.prog 6 #[.int .i64 a0] w fun e w' => e = .returned (.bool true) ∧ Drawn0 w w' := by
  go_enter Try.func6, Try.ntmps6
  go_wp2_with (first | (go_at_call_of 13 (n); with_reducible refine (scalar_Nonchar.calls n false _ A.out).mono ?_; rintro e w' ⟨rfl, ⟨nd, rfl⟩⟩) | (go_at_call 13; refine (scalar_Nonchar.calls _ false _ ?hD).mono ?_; (case hD => exact D.out); rintro e w' ⟨rfl, ⟨nd, rfl⟩⟩) | (go_at_call_of 11 (n); with_reducible refine (scalar_Is.calls n true _ B.out).mono ?_; rintro e w' ⟨rfl, ⟨nd, rfl⟩⟩) | (go_at_call 11; refine (scalar_Is.calls _ false _ ?hC).mono ?_; (case hC => exact C.out); rintro e w' ⟨rfl, ⟨nd, rfl⟩⟩) | (go_at_call 21; with_reducible refine (orthoepylaw01_awake.calls true _ F.out).mono ?_; rintro e w' ⟨rfl, ⟨nd, rfl⟩⟩))
  go_ret
  exact ⟨rfl, by repeat (first | exact Drawn0.refl _ | apply Drawn0.step)⟩
set_option maxHeartbeats 1000000 in
set_option maxRecDepth 100000 in
theorem nonchars_pos_d (a0 n : Int) (w : World) (hT : a0.tmod 1114112 = n) (h0 : 0 ≤ n) (h1 : n ≤ 1114111) (low : n % 65536 < 65534) (d1 : 55296 ≤ n) (d2 : n < 57344) (t1 : decide (n < 55296) = false) (t2 : decide (57344 ≤ n) = false) (A : Aside0 (scalar_Nonchar.f n = some false)) (B : Aside0 (scalar_Is.f n = some false)) (C : Aside0 (scalar_Is.f (-1 - n) = some false)) (D : Aside0 (scalar_Nonchar.f (1114112 + n) = some false)) (F : Aside0 (orthoepylaw01_awake.f = some true)) :
    Calls Try.prog 6 #[.int .i64 a0] w fun e w' => e = .returned (.bool true) ∧ Drawn0 w w' := by
  go_enter Try.func6, Try.ntmps6
  go_wp2_with (first | (go_at_call_of 13 (n); with_reducible refine (scalar_Nonchar.calls n false _ A.out).mono ?_; rintro e w' ⟨rfl, ⟨nd, rfl⟩⟩) | (go_at_call 13; refine (scalar_Nonchar.calls _ false _ ?hD).mono ?_; (case hD => exact D.out); rintro e w' ⟨rfl, ⟨nd, rfl⟩⟩) | (go_at_call_of 11 (n); with_reducible refine (scalar_Is.calls n false _ B.out).mono ?_; rintro e w' ⟨rfl, ⟨nd, rfl⟩⟩) | (go_at_call 11; refine (scalar_Is.calls _ false _ ?hC).mono ?_; (case hC => exact C.out); rintro e w' ⟨rfl, ⟨nd, rfl⟩⟩) | (go_at_call 21; with_reducible refine (orthoepylaw01_awake.calls true _ F.out).mono ?_; rintro e w' ⟨rfl, ⟨nd, rfl⟩⟩))
  go_ret
  exact ⟨rfl, by repeat (first | exact Drawn0.refl _ | apply Drawn0.step)⟩
set_option maxHeartbeats 1000000 in
set_option maxRecDepth 100000 in
theorem nonchars_pos_e (a0 n : Int) (w : World) (hT : a0.tmod 1114112 = n) (h0 : 0 ≤ n) (h1 : n ≤ 1114111) (low : n % 65536 < 65534) (d1 : 57344 ≤ n) (d2 : n < 64976) (t1 : decide (n < 55296) = false) (t2 : decide (57344 ≤ n) = true) (A : Aside0 (scalar_Nonchar.f n = some false)) (B : Aside0 (scalar_Is.f n = some true)) (C : Aside0 (scalar_Is.f (-1 - n) = some false)) (D : Aside0 (scalar_Nonchar.f (1114112 + n) = some false)) (F : Aside0 (orthoepylaw01_awake.f = some true)) :
    Calls Try.prog 6 #[.int .i64 a0] w fun e w' => e = .returned (.bool true) ∧ Drawn0 w w' := by
  go_enter Try.func6, Try.ntmps6
  go_wp2_with (first | (go_at_call_of 13 (n); with_reducible refine (scalar_Nonchar.calls n false _ A.out).mono ?_; rintro e w' ⟨rfl, ⟨nd, rfl⟩⟩) | (go_at_call 13; refine (scalar_Nonchar.calls _ false _ ?hD).mono ?_; (case hD => exact D.out); rintro e w' ⟨rfl, ⟨nd, rfl⟩⟩) | (go_at_call_of 11 (n); with_reducible refine (scalar_Is.calls n true _ B.out).mono ?_; rintro e w' ⟨rfl, ⟨nd, rfl⟩⟩) | (go_at_call 11; refine (scalar_Is.calls _ false _ ?hC).mono ?_; (case hC => exact C.out); rintro e w' ⟨rfl, ⟨nd, rfl⟩⟩) | (go_at_call 21; with_reducible refine (orthoepylaw01_awake.calls true _ F.out).mono ?_; rintro e w' ⟨rfl, ⟨nd, rfl⟩⟩))
  go_ret
  exact ⟨rfl, by repeat (first | exact Drawn0.refl _ | apply Drawn0.step)⟩
set_option maxHeartbeats 1000000 in
set_option maxRecDepth 100000 in
theorem nonchars_pos_f (a0 n : Int) (w : World) (hT : a0.tmod 1114112 = n) (h0 : 0 ≤ n) (h1 : n ≤ 1114111) (low : n % 65536 < 65534) (d1 : 65008 ≤ n) (t1 : decide (n < 55296) = false) (t2 : decide (57344 ≤ n) = true) (t3 : decide (n < 65008) = false) (t4 : decide (65534 ≤ n % 65536) = false) (A : Aside0 (scalar_Nonchar.f n = some false)) (B : Aside0 (scalar_Is.f n = some true)) (C : Aside0 (scalar_Is.f (-1 - n) = some false)) (D : Aside0 (scalar_Nonchar.f (1114112 + n) = some false)) (F : Aside0 (orthoepylaw01_awake.f = some true)) :
    Calls Try.prog 6 #[.int .i64 a0] w fun e w' => e = .returned (.bool true) ∧ Drawn0 w w' := by
  go_enter Try.func6, Try.ntmps6
  go_wp2_with (first | (go_at_call_of 13 (n); with_reducible refine (scalar_Nonchar.calls n false _ A.out).mono ?_; rintro e w' ⟨rfl, ⟨nd, rfl⟩⟩) | (go_at_call 13; refine (scalar_Nonchar.calls _ false _ ?hD).mono ?_; (case hD => exact D.out); rintro e w' ⟨rfl, ⟨nd, rfl⟩⟩) | (go_at_call_of 11 (n); with_reducible refine (scalar_Is.calls n true _ B.out).mono ?_; rintro e w' ⟨rfl, ⟨nd, rfl⟩⟩) | (go_at_call 11; refine (scalar_Is.calls _ false _ ?hC).mono ?_; (case hC => exact C.out); rintro e w' ⟨rfl, ⟨nd, rfl⟩⟩) | (go_at_call 21; with_reducible refine (orthoepylaw01_awake.calls true _ F.out).mono ?_; rintro e w' ⟨rfl, ⟨nd, rfl⟩⟩))
  go_ret
  exact ⟨rfl, by repeat (first | exact Drawn0.refl _ | apply Drawn0.step)⟩
set_option maxHeartbeats 1000000 in
set_option maxRecDepth 100000 in
theorem nonchars_neg_a (a0 n : Int) (w : World) (hT : a0.tmod 1114112 = -n) (h0 : 1 ≤ n) (h1 : n ≤ 1114111) (low : n % 65536 ≥ 65534) (d0 : 57344 ≤ n) (d9 : 64976 ≤ n)  (t1 : decide (n < 55296) = false) (t2 : decide (57344 ≤ n) = true) (A : Aside0 (scalar_Nonchar.f n = some true)) (B : Aside0 (scalar_Is.f n = some true)) (C : Aside0 (scalar_Is.f (-1 - n) = some false)) (D : Aside0 (scalar_Nonchar.f (1114112 + n) = some false)) (F : Aside0 (orthoepylaw01_awake.f = some true)) :
    Calls Try.prog 6 #[.int .i64 a0] w fun e w' => e = .returned (.bool true) ∧ Drawn0 w w' := by
  go_enter Try.func6, Try.ntmps6
  go_wp2_with (first | (go_at_call_of 13 (n); with_reducible refine (scalar_Nonchar.calls n true _ A.out).mono ?_; rintro e w' ⟨rfl, ⟨nd, rfl⟩⟩) | (go_at_call 13; refine (scalar_Nonchar.calls _ false _ ?hD).mono ?_; (case hD => exact D.out); rintro e w' ⟨rfl, ⟨nd, rfl⟩⟩) | (go_at_call_of 11 (n); with_reducible refine (scalar_Is.calls n true _ B.out).mono ?_; rintro e w' ⟨rfl, ⟨nd, rfl⟩⟩) | (go_at_call 11; refine (scalar_Is.calls _ false _ ?hC).mono ?_; (case hC => exact C.out); rintro e w' ⟨rfl, ⟨nd, rfl⟩⟩) | (go_at_call 21; with_reducible refine (orthoepylaw01_awake.calls true _ F.out).mono ?_; rintro e w' ⟨rfl, ⟨nd, rfl⟩⟩))
  go_ret
  exact ⟨rfl, by repeat (first | exact Drawn0.refl _ | apply Drawn0.step)⟩
set_option maxHeartbeats 1000000 in
set_option maxRecDepth 100000 in
theorem nonchars_neg_b (a0 n : Int) (w : World) (hT : a0.tmod 1114112 = -n) (h0 : 1 ≤ n) (h1 : n ≤ 1114111) (low : n % 65536 < 65534) (d1 : 64976 ≤ n) (d2 : n < 65008) (t1 : decide (n < 55296) = false) (t2 : decide (57344 ≤ n) = true) (A : Aside0 (scalar_Nonchar.f n = some true)) (B : Aside0 (scalar_Is.f n = some true)) (C : Aside0 (scalar_Is.f (-1 - n) = some false)) (D : Aside0 (scalar_Nonchar.f (1114112 + n) = some false)) (F : Aside0 (orthoepylaw01_awake.f = some true)) :
    Calls Try.prog 6 #[.int .i64 a0] w fun e w' => e = .returned (.bool true) ∧ Drawn0 w w' := by
  go_enter Try.func6, Try.ntmps6
  go_wp2_with (first | (go_at_call_of 13 (n); with_reducible refine (scalar_Nonchar.calls n true _ A.out).mono ?_; rintro e w' ⟨rfl, ⟨nd, rfl⟩⟩) | (go_at_call 13; refine (scalar_Nonchar.calls _ false _ ?hD).mono ?_; (case hD => exact D.out); rintro e w' ⟨rfl, ⟨nd, rfl⟩⟩) | (go_at_call_of 11 (n); with_reducible refine (scalar_Is.calls n true _ B.out).mono ?_; rintro e w' ⟨rfl, ⟨nd, rfl⟩⟩) | (go_at_call 11; refine (scalar_Is.calls _ false _ ?hC).mono ?_; (case hC => exact C.out); rintro e w' ⟨rfl, ⟨nd, rfl⟩⟩) | (go_at_call 21; with_reducible refine (orthoepylaw01_awake.calls true _ F.out).mono ?_; rintro e w' ⟨rfl, ⟨nd, rfl⟩⟩))
  go_ret
  exact ⟨rfl, by repeat (first | exact Drawn0.refl _ | apply Drawn0.step)⟩
set_option maxHeartbeats 1000000 in
set_option maxRecDepth 100000 in
theorem nonchars_neg_c (a0 n : Int) (w : World) (hT : a0.tmod 1114112 = -n) (h0 : 1 ≤ n) (h1 : n ≤ 1114111) (low : n % 65536 < 65534) (d1 : n < 55296) (t1 : decide (n < 55296) = true) (t2 : decide (57344 ≤ n) = false) (A : Aside0 (scalar_Nonchar.f n = some false)) (B : Aside0 (scalar_Is.f n = some true)) (C : Aside0 (scalar_Is.f (-1 - n) = some false)) (D : Aside0 (scalar_Nonchar.f (1114112 + n) = some false)) (F : Aside0 (orthoepylaw01_awake.f = some true)) :
    Calls Try.prog 6 #[.int .i64 a0] w fun e w' => e = .returned (.bool true) ∧ Drawn0 w w' := by
  go_enter Try.func6, Try.ntmps6
  go_wp2_with (first | (go_at_call_of 13 (n); with_reducible refine (scalar_Nonchar.calls n false _ A.out).mono ?_; rintro e w' ⟨rfl, ⟨nd, rfl⟩⟩) | (go_at_call 13; refine (scalar_Nonchar.calls _ false _ ?hD).mono ?_; (case hD => exact D.out); rintro e w' ⟨rfl, ⟨nd, rfl⟩⟩) | (go_at_call_of 11 (n); with_reducible refine (scalar_Is.calls n true _ B.out).mono ?_; rintro e w' ⟨rfl, ⟨nd, rfl⟩⟩) | (go_at_call 11; refine (scalar_Is.calls _ false _ ?hC).mono ?_; (case hC => exact C.out); rintro e w' ⟨rfl, ⟨nd, rfl⟩⟩) | (go_at_call 21; with_reducible refine (orthoepylaw01_awake.calls true _ F.out).mono ?_; rintro e w' ⟨rfl, ⟨nd, rfl⟩⟩))
  go_ret
  exact ⟨rfl, by repeat (first | exact Drawn0.refl _ | apply Drawn0.step)⟩
set_option maxHeartbeats 1000000 in
set_option maxRecDepth 100000 in
theorem nonchars_neg_d (a0 n : Int) (w : World) (hT : a0.tmod 1114112 = -n) (h0 : 1 ≤ n) (h1 : n ≤ 1114111) (low : n % 65536 < 65534) (d1 : 55296 ≤ n) (d2 : n < 57344) (t1 : decide (n < 55296) = false) (t2 : decide (57344 ≤ n) = false) (A : Aside0 (scalar_Nonchar.f n = some false)) (B : Aside0 (scalar_Is.f n = some false)) (C : Aside0 (scalar_Is.f (-1 - n) = some false)) (D : Aside0 (scalar_Nonchar.f (1114112 + n) = some false)) (F : Aside0 (orthoepylaw01_awake.f = some true)) :
    Calls Try.prog 6 #[.int .i64 a0] w fun e w' => e = .returned (.bool true) ∧ Drawn0 w w' := by
  go_enter Try.func6, Try.ntmps6
  go_wp2_with (first | (go_at_call_of 13 (n); with_reducible refine (scalar_Nonchar.calls n false _ A.out).mono ?_; rintro e w' ⟨rfl, ⟨nd, rfl⟩⟩) | (go_at_call 13; refine (scalar_Nonchar.calls _ false _ ?hD).mono ?_; (case hD => exact D.out); rintro e w' ⟨rfl, ⟨nd, rfl⟩⟩) | (go_at_call_of 11 (n); with_reducible refine (scalar_Is.calls n false _ B.out).mono ?_; rintro e w' ⟨rfl, ⟨nd, rfl⟩⟩) | (go_at_call 11; refine (scalar_Is.calls _ false _ ?hC).mono ?_; (case hC => exact C.out); rintro e w' ⟨rfl, ⟨nd, rfl⟩⟩) | (go_at_call 21; with_reducible refine (orthoepylaw01_awake.calls true _ F.out).mono ?_; rintro e w' ⟨rfl, ⟨nd, rfl⟩⟩))
  go_ret
  exact ⟨rfl, by repeat (first | exact Drawn0.refl _ | apply Drawn0.step)⟩
set_option maxHeartbeats 1000000 in
set_option maxRecDepth 100000 in
theorem nonchars_neg_e (a0 n : Int) (w : World) (hT : a0.tmod 1114112 = -n) (h0 : 1 ≤ n) (h1 : n ≤ 1114111) (low : n % 65536 < 65534) (d1 : 57344 ≤ n) (d2 : n < 64976) (t1 : decide (n < 55296) = false) (t2 : decide (57344 ≤ n) = true) (A : Aside0 (scalar_Nonchar.f n = some false)) (B : Aside0 (scalar_Is.f n = some true)) (C : Aside0 (scalar_Is.f (-1 - n) = some false)) (D : Aside0 (scalar_Nonchar.f (1114112 + n) = some false)) (F : Aside0 (orthoepylaw01_awake.f = some true)) :
    Calls Try.prog 6 #[.int .i64 a0] w fun e w' => e = .returned (.bool true) ∧ Drawn0 w w' := by
  go_enter Try.func6, Try.ntmps6
  go_wp2_with (first | (go_at_call_of 13 (n); with_reducible refine (scalar_Nonchar.calls n false _ A.out).mono ?_; rintro e w' ⟨rfl, ⟨nd, rfl⟩⟩) | (go_at_call 13; refine (scalar_Nonchar.calls _ false _ ?hD).mono ?_; (case hD => exact D.out); rintro e w' ⟨rfl, ⟨nd, rfl⟩⟩) | (go_at_call_of 11 (n); with_reducible refine (scalar_Is.calls n true _ B.out).mono ?_; rintro e w' ⟨rfl, ⟨nd, rfl⟩⟩) | (go_at_call 11; refine (scalar_Is.calls _ false _ ?hC).mono ?_; (case hC => exact C.out); rintro e w' ⟨rfl, ⟨nd, rfl⟩⟩) | (go_at_call 21; with_reducible refine (orthoepylaw01_awake.calls true _ F.out).mono ?_; rintro e w' ⟨rfl, ⟨nd, rfl⟩⟩))
  go_ret
  exact ⟨rfl, by repeat (first | exact Drawn0.refl _ | apply Drawn0.step)⟩
set_option maxHeartbeats 1000000 in
set_option maxRecDepth 100000 in
theorem nonchars_neg_f (a0 n : Int) (w : World) (hT : a0.tmod 1114112 = -n) (h0 : 1 ≤ n) (h1 : n ≤ 1114111) (low : n % 65536 < 65534) (d1 : 65008 ≤ n) (t1 : decide (n < 55296) = false) (t2 : decide (57344 ≤ n) = true) (t3 : decide (n < 65008) = false) (t4 : decide (65534 ≤ n % 65536) = false) (A : Aside0 (scalar_Nonchar.f n = some false)) (B : Aside0 (scalar_Is.f n = some true)) (C : Aside0 (scalar_Is.f (-1 - n) = some false)) (D : Aside0 (scalar_Nonchar.f (1114112 + n) = some false)) (F : Aside0 (orthoepylaw01_awake.f = some true)) :
    Calls Try.prog 6 #[.int .i64 a0] w fun e w' => e = .returned (.bool true) ∧ Drawn0 w w' := by
  go_enter Try.func6, Try.ntmps6
  go_wp2_with (first | (go_at_call_of 13 (n); with_reducible refine (scalar_Nonchar.calls n false _ A.out).mono ?_; rintro e w' ⟨rfl, ⟨nd, rfl⟩⟩) | (go_at_call 13; refine (scalar_Nonchar.calls _ false _ ?hD).mono ?_; (case hD => exact D.out); rintro e w' ⟨rfl, ⟨nd, rfl⟩⟩) | (go_at_call_of 11 (n); with_reducible refine (scalar_Is.calls n true _ B.out).mono ?_; rintro e w' ⟨rfl, ⟨nd, rfl⟩⟩) | (go_at_call 11; refine (scalar_Is.calls _ false _ ?hC).mono ?_; (case hC => exact C.out); rintro e w' ⟨rfl, ⟨nd, rfl⟩⟩) | (go_at_call 21; with_reducible refine (orthoepylaw01_awake.calls true _ F.out).mono ?_; rintro e w' ⟨rfl, ⟨nd, rfl⟩⟩))
  go_ret
  exact ⟨rfl, by repeat (first | exact Drawn0.refl _ | apply Drawn0.step)⟩
theorem nonchars_walk (a0 n : Int) (w : World) (hT : a0.tmod 1114112 = n ∨ a0.tmod 1114112 = -n ∧ 1 ≤ n) (h0 : 0 ≤ n) (h1 : n ≤ 1114111) :
    Calls Try.prog 6 #[.int .i64 a0] w fun e w' => e = .returned (.bool true) ∧ Drawn0 w w' := by
  have A := non_val n
  have B := is_val n
  have C : scalar_Is.f (-1 - n) = some false := by
    rw [is_val]
    congr 1
    simp only [isScal, decide_eq_false_iff_not]
    omega
  have D : scalar_Nonchar.f (1114112 + n) = some false := by
    rw [non_val]
    congr 1
    have hs : isScal (1114112 + n) = false := by simp only [isScal, decide_eq_false_iff_not]; omega
    simp only [isNon, hs, Bool.false_and, Bool.or_false, decide_eq_false_iff_not]
    omega
  have hs : isScal n = decide (n < 55296 ∨ 57344 ≤ n) := by
    rw [Bool.eq_iff_iff]
    simp only [isScal, decide_eq_true_eq]
    omega
  rw [hs] at B
  have hn : isNon n = decide (65534 ≤ n % 65536 ∨ 64976 ≤ n ∧ n < 65008) := by
    rw [Bool.eq_iff_iff]
    simp only [isNon, hs, Bool.or_eq_true, Bool.and_eq_true, decide_eq_true_eq]
    omega
  rw [hn] at A
  have F := awake_true
  by_cases low : 65534 ≤ n % 65536
  · have g : 57344 ≤ n := by omega
    rw [decide_eq_true (by omega)] at A B
    have t1 : decide (n < 55296) = false := decide_eq_false (by omega)
    have t2 : decide (57344 ≤ n) = true := decide_eq_true g
    rcases hT with hT | ⟨hT, h2⟩
    · exact nonchars_pos_a a0 n w hT h0 h1 low g (by omega) t1 t2 ⟨A⟩ ⟨B⟩ ⟨C⟩ ⟨D⟩ ⟨F⟩
    · exact nonchars_neg_a a0 n w hT h2 h1 low g (by omega) t1 t2 ⟨A⟩ ⟨B⟩ ⟨C⟩ ⟨D⟩ ⟨F⟩
  · have low' : n % 65536 < 65534 := by omega
    by_cases d : 64976 ≤ n ∧ n < 65008
    · rw [decide_eq_true (by omega)] at A B
      have t1 : decide (n < 55296) = false := decide_eq_false (by omega)
      have t2 : decide (57344 ≤ n) = true := decide_eq_true (by omega)
      rcases hT with hT | ⟨hT, h2⟩
      · exact nonchars_pos_b a0 n w hT h0 h1 low' d.1 d.2 t1 t2 ⟨A⟩ ⟨B⟩ ⟨C⟩ ⟨D⟩ ⟨F⟩
      · exact nonchars_neg_b a0 n w hT h2 h1 low' d.1 d.2 t1 t2 ⟨A⟩ ⟨B⟩ ⟨C⟩ ⟨D⟩ ⟨F⟩
    · rw [decide_eq_false (by omega)] at A
      by_cases c : n < 55296
      · rw [decide_eq_true (by omega)] at B
        have t1 : decide (n < 55296) = true := decide_eq_true c
        have t2 : decide (57344 ≤ n) = false := decide_eq_false (by omega)
        rcases hT with hT | ⟨hT, h2⟩
        · exact nonchars_pos_c a0 n w hT h0 h1 low' c t1 t2 ⟨A⟩ ⟨B⟩ ⟨C⟩ ⟨D⟩ ⟨F⟩
        · exact nonchars_neg_c a0 n w hT h2 h1 low' c t1 t2 ⟨A⟩ ⟨B⟩ ⟨C⟩ ⟨D⟩ ⟨F⟩
      · have t1 : decide (n < 55296) = false := decide_eq_false c
        by_cases e : n < 57344
        · rw [decide_eq_false (by omega)] at B
          have t2 : decide (57344 ≤ n) = false := decide_eq_false (by omega)
          rcases hT with hT | ⟨hT, h2⟩
          · exact nonchars_pos_d a0 n w hT h0 h1 low' (by omega) e t1 t2 ⟨A⟩ ⟨B⟩ ⟨C⟩ ⟨D⟩ ⟨F⟩
          · exact nonchars_neg_d a0 n w hT h2 h1 low' (by omega) e t1 t2 ⟨A⟩ ⟨B⟩ ⟨C⟩ ⟨D⟩ ⟨F⟩
        · rw [decide_eq_true (by omega)] at B
          have t2 : decide (57344 ≤ n) = true := decide_eq_true (by omega)
          by_cases g : n < 64976
          · rcases hT with hT | ⟨hT, h2⟩
            · exact nonchars_pos_e a0 n w hT h0 h1 low' (by omega) g t1 t2 ⟨A⟩ ⟨B⟩ ⟨C⟩ ⟨D⟩ ⟨F⟩
            · exact nonchars_neg_e a0 n w hT h2 h1 low' (by omega) g t1 t2 ⟨A⟩ ⟨B⟩ ⟨C⟩ ⟨D⟩ ⟨F⟩
          · have t3 : decide (n < 65008) = false := decide_eq_false (by omega)
            have t4 : decide (65534 ≤ n % 65536) = false := decide_eq_false (by omega)
            rcases hT with hT | ⟨hT, h2⟩
            · exact nonchars_pos_f a0 n w hT h0 h1 low' (by omega) t1 t2 t3 t4 ⟨A⟩ ⟨B⟩ ⟨C⟩ ⟨D⟩ ⟨F⟩
            · exact nonchars_neg_f a0 n w hT h2 h1 low' (by omega) t1 t2 t3 t4 ⟨A⟩ ⟨B⟩ ⟨C⟩ ⟨D⟩ ⟨F⟩
theorem orthoepylaw01_ScalarNonchars.walk (a0 : Int) (w : World) (w0 : (Lit.int .i64 a0).wf = true) :
    Calls Try.prog 6 #[.int .i64 a0] w fun e w' => e = .returned (.bool true) ∧ Below w.heap.size w w' := by
  have h3 := Int.lt_tmod_of_pos a0 (b := 1114112) (by decide)
  have h4 := Int.tmod_lt_of_pos a0 (b := 1114112) (by decide)
  by_cases h : a0.tmod 1114112 < 0
  · exact (nonchars_walk a0 (-(a0.tmod 1114112)) w (.inr ⟨by omega, by omega⟩) (by omega) (by omega)).mono fun e w' h => ⟨h.1, h.2.below⟩
  · exact (nonchars_walk a0 (a0.tmod 1114112) w (.inl rfl) (by omega) (by omega)).mono fun e w' h => ⟨h.1, h.2.below⟩
end Go.Proofs.Ytmkpaoakobabnaa.PScalarNonchars
