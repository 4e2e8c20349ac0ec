/- The law ScalarAll: for every rune and every two units, all that the layer scalar tells is what the reference tells; no condition. -/
import Derived.Test.YtmkpaoakobabnaaPScalarAllx2
namespace Go.Proofs.Ytmkpaoakobabnaa.Pure
open Go.RowKit Go.Proofs.Ytmkpaoakobabnaa.PScalarAll Go.Proofs.YtmkpaoakobabnaaW.PrintWords Go.Proofs.YtmkpaoakobabnaaW.PrintLast
set_option linter.unusedVariables false
set_option linter.unusedSimpArgs false

theorem wf_i32 {n : Int} (h : (Lit.int .i32 n).wf = true) : -2147483648 ≤ n ∧ n ≤ 2147483647 := by
  simp [Lit.wf, IntKind.min, IntKind.max, IntKind.bits, IntKind.signed] at h
  omega
theorem wf_u16 {n : Int} (h : (Lit.int .u16 n).wf = true) : 0 ≤ n ∧ n ≤ 65535 := by
  simp [Lit.wf, IntKind.min, IntKind.max, IntKind.bits, IntKind.signed] at h
  omega
theorem wf_i64 {n : Int} (h : (Lit.int .i64 n).wf = true) : -9223372036854775808 ≤ n ∧ n ≤ 9223372036854775807 := by
  simp [Lit.wf, IntKind.min, IntKind.max, IntKind.bits, IntKind.signed] at h
  omega
theorem wrap_u16 (n : Int) : IntKind.u16.wrap n = n % 65536 := by
  simp [IntKind.wrap, IntKind.bits, IntKind.signed]
theorem and1023 (x : Int) (h0 : 0 ≤ x) (h1 : x < 2147483648) : Go.bits .and .i32 x 1023 = x % 1024 :=
  bits_mask .i32 31 (by decide) wraps_i32 10 (by decide) x h0 h1
theorem nat_and65534 (x : Nat) : x &&& 65534 = 2 * ((x / 2) % 32768) := by
  have h1 : (x &&& 65534) >>> 1 = (x >>> 1) &&& (65534 >>> 1) := Nat.shiftRight_and_distrib
  have h2 : (x &&& 65534) % 2 ^ 1 = (x % 2 ^ 1) &&& (65534 % 2 ^ 1) := Nat.and_mod_two_pow
  have h3 : (x / 2) &&& 32767 = (x / 2) % 32768 := Nat.and_two_pow_sub_one_eq_mod (x / 2) 15
  simp only [Nat.shiftRight_eq_div_pow, Nat.pow_one] at h1 h2
  have h4 : 65534 / 2 = 32767 := rfl
  rw [h4, h3] at h1
  have h5 : (65534 % 2 : Nat) = 0 := rfl
  rw [h5, Nat.and_zero] at h2
  omega
theorem and65534 (x : Int) (h0 : 0 ≤ x) (h1 : x < 2147483648) : Go.bits .and .i32 x 65534 = 2 * ((x / 2) % 32768) := by
  obtain ⟨a, rfl⟩ := Int.eq_ofNat_of_zero_le h0
  have := (bits_nat .i32 31 (by decide) wraps_i32 a 65534 (by omega) (by decide)).1
  rw [show ((65534 : Int)) = ((65534 : Nat) : Int) from rfl, this, nat_and65534]
  omega

def isScal (c : Int) : Bool := decide (0 ≤ c ∧ c ≤ 1114111 ∧ (c < 55296 ∨ c > 57343))
theorem is_val (c : Int) : scalar_Is.f c = some (isScal c) := by
  unfold scalar_Is.f isScal
  (repeat' split) <;> (congr 1; rw [Bool.eq_iff_iff]; simp only [decide_eq_true_eq, Bool.false_eq_true, true_iff, false_iff, iff_true, iff_false]; omega)
theorem units_val (c : Int) : scalar_Units.f c = some (if isScal c then (if c ≥ 65536 then 2 else 1) else 0) := by
  unfold scalar_Units.f
  rw [is_val]
  simp only [Option.bind_some]
  (repeat' split) <;> simp_all
def isNon (c : Int) : Bool := decide (c ≥ 64976 ∧ c ≤ 65007) || (isScal c && decide (c % 65536 ≥ 65534))
theorem non_val (c : Int) : scalar_Nonchar.f c = some (isNon c) := by
  have h : isScal c = true → ((Go.bits .and .i32 c 65534) == 65534) = decide (c % 65536 ≥ 65534) := by
    intro hs
    simp [isScal] at hs
    rw [and65534 c (by omega) (by omega), Bool.eq_iff_iff]
    simp
    omega
  unfold scalar_Nonchar.f isNon
  rw [is_val]
  simp only [Option.bind_some]
  cases hs : isScal c with
  | true => rw [h hs]; (repeat' split) <;> simp_all <;> omega
  | false => (repeat' split) <;> simp_all <;> omega
def splitV (c : Int) : Int × Int × Bool := if 65536 ≤ c ∧ c ≤ 1114111 then (55296 + (c - 65536) / 1024, 56320 + (c - 65536) % 1024, true) else (0, 0, false)
theorem split_val (c : Int) (h0 : -2147483648 ≤ c) (h1 : c ≤ 2147483647) : scalar_Split.f c = some (splitV c) := by
  unfold scalar_Split.f splitV
  rw [units_val]
  simp only [Option.bind_some]
  by_cases h : 65536 ≤ c ∧ c ≤ 1114111
  · have hs : isScal c = true := by simp [isScal]; omega
    rw [if_pos h, hs]
    simp only [if_true]
    rw [if_pos (show c ≥ 65536 by omega)]
    simp only [if_true]
    have e : wrap32 (c - 65536) = c - 65536 := by unfold wrap32; omega
    rw [e, and1023 _ (by omega) (by omega)]
    have e1 : wrap32 (55296 + (c - 65536) / 1024) = 55296 + (c - 65536) / 1024 := by unfold wrap32; omega
    have e2 : wrap32 (56320 + (c - 65536) % 1024) = 56320 + (c - 65536) % 1024 := by unfold wrap32; omega
    rw [e1, e2, wrap_u16, wrap_u16, Int.emod_eq_of_lt (by omega) (by omega), Int.emod_eq_of_lt (by omega) (by omega)]
  · rw [if_neg h, if_neg]
    by_cases hs : isScal c = true
    · rw [if_pos hs]; simp [isScal] at hs; rw [if_neg (by omega)]; decide
    · rw [if_neg hs]; decide
def isHigh (u : Int) : Bool := decide (55296 ≤ u ∧ u ≤ 56319)
def isLow (u : Int) : Bool := decide (56320 ≤ u ∧ u ≤ 57343)
theorem high_val (u : Int) : scalar_High.f u = some (isHigh u) := by unfold scalar_High.f isHigh; split <;> (congr 1; rw [Bool.eq_iff_iff]; simp; omega)
theorem low_val (u : Int) : scalar_Low.f u = some (isLow u) := by unfold scalar_Low.f isLow; split <;> (congr 1; rw [Bool.eq_iff_iff]; simp; omega)
def joinV (h l : Int) : Int × Bool := if isHigh h = true ∧ isLow l = true then (65536 + (h - 55296) * 1024 + (l - 56320), true) else (0, false)
theorem join_val (h l : Int) : scalar_Join.f h l = some (joinV h l) := by
  unfold scalar_Join.f joinV
  rw [high_val, low_val]
  simp only [Option.bind_some]
  by_cases h1 : isHigh h = true
  · by_cases h2 : isLow l = true
    · rw [if_pos h1, if_pos h2, if_pos ⟨h1, h2⟩]
      simp [isHigh] at h1
      simp [isLow] at h2
      rw [wrap_u16, wrap_u16]
      congr 2
      unfold wrap32
      omega
    · rw [if_pos h1, if_neg h2, if_neg (by simp [h2])]
  · rw [if_neg h1, if_neg (by simp [h1])]

theorem ris_val (c : Int) : orthoepyref01_Is.f c = some (isScal c) := by
  unfold orthoepyref01_Is.f isScal
  (repeat' split) <;> (congr 1; rw [Bool.eq_iff_iff]; simp only [decide_eq_true_eq, Bool.false_eq_true, true_iff, false_iff, iff_true, iff_false]; omega)
theorem is_eq (c : Int) : scalar_Is.f c = orthoepyref01_Is.f c := by rw [is_val, ris_val]
theorem rnon_val (c : Int) : orthoepyref01_Nonchar.f c = some (isNon c) := by
  unfold orthoepyref01_Nonchar.f isNon
  rw [← is_eq, is_val]
  simp only [Option.bind_some]
  have h : isScal c = true → Int.tmod c 65536 = c % 65536 := by
    intro hs
    simp [isScal] at hs
    exact Int.tmod_eq_emod_of_nonneg (by omega)
  cases hs : isScal c with
  | true => rw [h hs]; (repeat' split) <;> simp_all <;> omega
  | false => (repeat' split) <;> simp_all <;> omega
theorem rsplit_val (c : Int) (h0 : -2147483648 ≤ c) (h1 : c ≤ 2147483647) : orthoepyref01_Split.f c = some (splitV c) := by
  unfold orthoepyref01_Split.f splitV
  by_cases h : 65536 ≤ c ∧ c ≤ 1114111
  · rw [if_pos h, if_neg (by omega), if_neg (by omega)]
    have e : wrap32 (c - 65536) = c - 65536 := by unfold wrap32; omega
    rw [e, Int.tdiv_eq_ediv_of_nonneg (by omega), Int.tmod_eq_emod_of_nonneg (by omega)]
    have e0 : wrap32 ((c - 65536) / 1024) = (c - 65536) / 1024 := by unfold wrap32; omega
    rw [e0]
    have e1 : wrap32 (55296 + (c - 65536) / 1024) = 55296 + (c - 65536) / 1024 := by unfold wrap32; omega
    have e2 : wrap32 (56320 + (c - 65536) % 1024) = 56320 + (c - 65536) % 1024 := by unfold wrap32; omega
    rw [e1, e2, wrap_u16, wrap_u16, Int.emod_eq_of_lt (by omega) (by omega), Int.emod_eq_of_lt (by omega) (by omega)]
  · rw [if_neg h]
    by_cases h' : c < 65536
    · rw [if_pos h']
    · rw [if_neg h', if_pos (by omega)]
theorem rhigh_val (u : Int) : orthoepyref01_High.f u = some (isHigh u) := by unfold orthoepyref01_High.f isHigh; split <;> (congr 1; rw [Bool.eq_iff_iff]; simp; omega)
theorem rlow_val (u : Int) : orthoepyref01_Low.f u = some (isLow u) := by unfold orthoepyref01_Low.f isLow; split <;> (congr 1; rw [Bool.eq_iff_iff]; simp; omega)
theorem rjoin_val (h l : Int) : orthoepyref01_Join.f h l = some (joinV h l) := by
  unfold orthoepyref01_Join.f joinV
  rw [rhigh_val, rlow_val]
  simp only [Option.bind_some]
  by_cases h1 : isHigh h = true
  · by_cases h2 : isLow l = true
    · rw [if_pos h1, if_pos h2, if_pos ⟨h1, h2⟩]
      simp [isHigh] at h1
      simp [isLow] at h2
      congr 2
      unfold wrap32
      omega
    · rw [if_pos h1, if_neg h2, if_neg (by simp [h2])]
  · rw [if_neg h1, if_neg (by simp [h1])]
theorem runits_val (c : Int) : orthoepyref01_Units.f c = some (if isScal c then (if c ≥ 65536 then 2 else 1) else 0) := by
  unfold orthoepyref01_Units.f
  rw [← is_eq, is_val]
  simp only [Option.bind_some]
  (repeat' split) <;> simp_all <;> omega

theorem awake_true : orthoepylaw01_awake.f = some true := by decide +kernel

theorem ScalarAll : orthoepylaw01_ScalarAll.Pure := by
  intro c u v hc hu hv
  have hc := wf_i32 hc
  unfold orthoepylaw01_ScalarAll.f
  rw [split_val c hc.1 hc.2, rsplit_val c hc.1 hc.2, join_val, rjoin_val, ← is_eq, is_val, non_val, rnon_val, units_val, runits_val, high_val, rhigh_val, low_val, rlow_val, awake_true]
  simp

end Go.Proofs.Ytmkpaoakobabnaa.Pure
