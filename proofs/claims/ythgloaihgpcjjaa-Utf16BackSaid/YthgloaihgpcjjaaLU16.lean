/- UTF-16 by hand: what the functions of layers 1, 3, their references and the order of units compute, in plain words. -/
import Derived.Test.YthgloaihgpcjjaaPAllx1
import Derived.Test.YthgloaihgpcjjaaPAllx2
import Derived.Test.YthgloaihgpcjjaaPAllx3
import Derived.Test.YthgloaihgpcjjaaPAllx4
namespace Go.Proofs.Ythgloaihgpcjjaa.Pure
open Go.RowKit Go.Proofs.Ythgloaihgpcjjaa.PAll Go.Proofs.YthgloaihgpcjjaaW.PrintWords Go.Proofs.YthgloaihgpcjjaaW.PrintLast Go.Proofs.YthgloaihgpcjjaaW.PrintMore
set_option linter.unusedVariables false
set_option linter.unusedSimpArgs false

/-! ### UTF-16, plainly -/
theorem wrap_u16 (n : Int) : IntKind.u16.wrap n = n % 65536 := by
  simp [IntKind.wrap, IntKind.bits, IntKind.signed]
theorem and1023 (x : Int) (h0 : 0 ≤ x) (h1 : x < 2147483648) : Go.bits .and .i32 x 1023 = x % 1024 :=
  bits_mask .i32 31 (by decide) wraps_i32 10 (by decide) x h0 h1
theorem w32 (x : Int) (h0 : -2147483648 ≤ x) (h1 : x ≤ 2147483647) : wrap32 x = x := by unfold wrap32; omega
def isScal (c : Int) : Bool := decide (0 ≤ c ∧ c ≤ 1114111 ∧ (c < 55296 ∨ c > 57343))
def unV (c : Int) : List Int := if isScal c = true then (if c < 65536 then [c] else [55296 + (c - 65536) / 1024, 56320 + (c - 65536) % 1024]) else []
theorem is_val (c : Int) : scalar_Is.f c = some (isScal c) := by
  unfold scalar_Is.f isScal
  (repeat' split) <;> (congr 1; rw [Bool.eq_iff_iff]; simp only [decide_eq_true_eq, Bool.false_eq_true, true_iff, false_iff, iff_true, iff_false]; omega)
theorem ris_val (c : Int) : orthoepyref01_Is.f c = some (isScal c) := by
  unfold orthoepyref01_Is.f isScal
  (repeat' split) <;> (congr 1; rw [Bool.eq_iff_iff]; simp only [decide_eq_true_eq, Bool.false_eq_true, true_iff, false_iff, iff_true, iff_false]; omega)
theorem split_val (c : Int) : scalar_Split.f c = some (if isScal c = true ∧ 65536 ≤ c then (55296 + (c - 65536) / 1024, 56320 + (c - 65536) % 1024, true) else (0, 0, false)) := by
  unfold scalar_Split.f scalar_Units.f
  rw [is_val, Option.bind_some]
  by_cases h : isScal c = true
  · rw [if_pos h]
    by_cases h2 : 65536 ≤ c
    · have h3 : 0 ≤ c ∧ c ≤ 1114111 := by
        unfold isScal at h
        simp only [decide_eq_true_eq] at h
        omega
      rw [if_pos h2, if_pos ⟨h, h2⟩]
      simp only [Option.bind_some, Int.reduceAdd, if_true]
      rw [w32 (c - 65536) (by omega) (by omega), and1023 _ (by omega) (by omega), w32 _ (by omega) (by omega), w32 _ (by omega) (by omega), wrap_u16, wrap_u16]
      congr 2
      · omega
      · congr 1
        omega
    · rw [if_neg h2, if_neg (fun hh => h2 hh.2)]
      simp
  · rw [if_neg h, if_neg (fun hh => h hh.1)]
    simp
theorem of_val (c : Int) (h1 : c ≤ 2147483647) : utf16_Units.of c = unV c := by
  unfold utf16_Units.of unV
  rw [split_val, is_val]
  by_cases h : isScal c = true
  · have h3 : 0 ≤ c ∧ c ≤ 1114111 := by
      unfold isScal at h
      simp only [decide_eq_true_eq] at h
      omega
    rw [h]
    by_cases h2 : 65536 ≤ c
    · simp [h2, show ¬ c < 65536 by omega]
    · simp [h2, show c < 65536 by omega, wrap_u16]
      omega
  · rw [show isScal c = false by simpa using h]
    simp
theorem units_val (l : List Int) (hl : l.length < 1000000000000) (h1 : ∀ c ∈ l, c ≤ 2147483647) : utf16_Units.f l = some (l.flatMap unV) := by
  unfold utf16_Units.f
  rw [if_pos ⟨fun c _ => by simp [split_val, is_val], hl⟩]
  congr 1
  induction l with
  | nil => rfl
  | cons c r ih =>
    simp only [List.flatMap_cons]
    rw [of_val c (h1 c (by simp)), ih (by simp at hl; omega) (fun d hd => h1 d (by simp [hd]))]

theorem rd_drop (xs : List Int) (i : Int) (x : Int) (r : List Int) (h0 : 0 ≤ i) (h : xs.drop i.toNat = x :: r) : rd xs i = x ∧ i.toNat < xs.length ∧ xs.drop (i + 1).toNat = r := by
  have hlt : i.toNat < xs.length := by
    have := congrArg List.length h
    simp at this
    omega
  refine ⟨?_, hlt, ?_⟩
  · have := congrArg (fun l => l[0]?) h
    simp at this
    simp [rd, List.getD_eq_getElem?_getD, this]
  · rw [show (i + 1).toNat = i.toNat + 1 by omega, ← List.drop_drop, h]
    rfl
def R32 (xs : List Int) : Prop := ∀ x ∈ xs, -2147483648 ≤ x ∧ x ≤ 2147483647
theorem unV_len (c : Int) : (unV c).length ≤ 2 := by
  unfold unV
  (repeat' split) <;> simp
theorem rsplit_val (c : Int) (h0 : -2147483648 ≤ c) (h1 : c ≤ 2147483647) : orthoepyref01_Split.f c = some (if 65536 ≤ c ∧ c ≤ 1114111 then (55296 + (c - 65536) / 1024, 56320 + (c - 65536) % 1024, true) else (0, 0, false)) := by
  unfold orthoepyref01_Split.f
  by_cases h2 : c < 65536
  · rw [if_pos h2, if_neg (by omega)]
  · rw [if_neg h2]
    by_cases h3 : c > 1114111
    · rw [if_pos h3, if_neg (by omega)]
    · rw [if_neg h3, if_pos (by omega), w32 (c - 65536) (by omega) (by omega), Int.tdiv_eq_ediv_of_nonneg (by omega), Int.tmod_eq_emod_of_nonneg (by omega), w32 ((c - 65536) / 1024) (by omega) (by omega), w32 _ (by omega) (by omega), w32 _ (by omega) (by omega), wrap_u16, wrap_u16]
      congr 2
      · omega
      · congr 1
        omega
theorem runits_l0 (rest : List Int) : ∀ (k : Nat) (x0 acc : List Int) (i : Int), 0 ≤ i → x0.drop i.toNat = rest → i ≤ x0.length → R32 x0 → x0.length < 1000000000000 → (acc.length : Int) ≤ 2 * i → rest.length < k →
    orthoepyref03_Units.l0 k x0 acc i = some (acc ++ rest.flatMap unV) := by
  induction rest with
  | nil =>
    intro k x0 acc i h0 hx hi hr hl ha hk
    obtain ⟨k, rfl⟩ : ∃ m, k = m + 1 := ⟨k - 1, by omega⟩
    have hlen : (x0.length : Int) = i := by
      have := congrArg List.length hx
      simp at this
      omega
    simp only [orthoepyref03_Units.l0]
    rw [if_neg (by omega)]
    simp
  | cons x r ih =>
    intro k x0 acc i h0 hx hi hr hl ha hk
    obtain ⟨k, rfl⟩ : ∃ m, k = m + 1 := ⟨k - 1, by omega⟩
    obtain ⟨hrd, hlt, hdrop⟩ := rd_drop x0 i x r h0 hx
    have hx32 := hr x (List.mem_of_mem_drop (by rw [hx]; simp))
    have ew : wrap64 (i + 1) = i + 1 := by unfold wrap64; omega
    have step : ∀ y : List Int, y.length ≤ 2 → orthoepyref03_Units.l0 k x0 (acc ++ y) (i + 1) = some (acc ++ y ++ r.flatMap unV) := fun y hy =>
      ih k x0 (acc ++ y) (i + 1) (by omega) hdrop (by omega) hr hl (by simp; omega) (by simp at hk; omega)
    simp only [orthoepyref03_Units.l0]
    rw [if_pos (by omega), if_pos (by omega), hrd, rsplit_val x hx32.1 hx32.2, ris_val, ew]
    simp only [Option.bind_some, List.flatMap_cons]
    by_cases h2 : 65536 ≤ x ∧ x ≤ 1114111
    · have hs : isScal x = true := by
        unfold isScal
        simp only [decide_eq_true_eq]
        omega
      have eu : unV x = [55296 + (x - 65536) / 1024, 56320 + (x - 65536) % 1024] := by
        unfold unV
        rw [if_pos hs, if_neg (by omega)]
      rw [if_pos h2]
      simp only [if_true]
      rw [if_pos (by simp; omega), step _ (by simp), eu, List.append_assoc]
    · rw [if_neg h2]
      simp only [Bool.false_eq_true, if_false]
      by_cases hs : isScal x = true
      · have hb : 0 ≤ x ∧ x < 65536 := by
          unfold isScal at hs
          simp only [decide_eq_true_eq] at hs
          omega
        have eu : unV x = [x] := by
          unfold unV
          rw [if_pos hs, if_pos hb.2]
        rw [if_pos hs, if_pos (by omega), wrap_u16, show x % 65536 = x by omega, step _ (by simp), eu, List.append_assoc]
      · have eu : unV x = [] := by
          unfold unV
          rw [if_neg hs]
        have := step [] (by simp)
        rw [List.append_nil] at this
        rw [if_neg hs, this, eu, List.nil_append]
theorem runits_val (k : Nat) (l : List Int) (hr : R32 l) (hl : l.length < 1000000000000) (hk : l.length < k) : orthoepyref03_Units.f k l = some (l.flatMap unV) := by
  unfold orthoepyref03_Units.f
  have := runits_l0 l k l [] 0 (by omega) rfl (by omega) hr hl (by simp) hk
  simpa using this

def U16 (xs : List Int) : Prop := ∀ x ∈ xs, 0 ≤ x ∧ x ≤ 65535
def hiS (u : Int) : Bool := decide (55296 ≤ u ∧ u < 56320)
def loS (u : Int) : Bool := decide (56320 ≤ u ∧ u ≤ 57343)
def joinV (u v : Int) : Int := 65536 + (u - 55296) * 1024 + (v - 56320)
/-- All scalars of units; the place behind, or where there is none. -/
def scV (acc : List Int) (at_ : Int) : List Int → List Int × Int × Bool
  | [] => (acc, at_, true)
  | [u] => if hiS u = true ∨ loS u = true then ([], at_, false) else (acc ++ [u], at_ + 1, true)
  | u :: v :: r => if hiS u = true ∧ loS v = true then scV (acc ++ [joinV u v]) (at_ + 2) r else if hiS u = true ∨ loS u = true then ([], at_, false) else scV (acc ++ [u]) (at_ + 1) (v :: r)
theorem high_val (u : Int) : scalar_High.f u = some (hiS u) := by
  unfold scalar_High.f hiS
  (repeat' split) <;> (congr 1; rw [Bool.eq_iff_iff]; simp only [decide_eq_true_eq, Bool.false_eq_true, true_iff, false_iff, iff_true, iff_false]; omega)
theorem low_val (u : Int) : scalar_Low.f u = some (loS u) := by
  unfold scalar_Low.f loS
  (repeat' split) <;> (congr 1; rw [Bool.eq_iff_iff]; simp only [decide_eq_true_eq, Bool.false_eq_true, true_iff, false_iff, iff_true, iff_false]; omega)
theorem rhigh_val (u : Int) : orthoepyref01_High.f u = some (hiS u) := by
  unfold orthoepyref01_High.f hiS
  (repeat' split) <;> (congr 1; rw [Bool.eq_iff_iff]; simp only [decide_eq_true_eq, Bool.false_eq_true, true_iff, false_iff, iff_true, iff_false]; omega)
theorem rlow_val (u : Int) : orthoepyref01_Low.f u = some (loS u) := by
  unfold orthoepyref01_Low.f loS
  (repeat' split) <;> (congr 1; rw [Bool.eq_iff_iff]; simp only [decide_eq_true_eq, Bool.false_eq_true, true_iff, false_iff, iff_true, iff_false]; omega)
theorem join_val (u v : Int) : scalar_Join.f u v = some (if hiS u = true ∧ loS v = true then (joinV u v, true) else (0, false)) := by
  unfold scalar_Join.f
  rw [high_val, Option.bind_some, low_val]
  by_cases h : hiS u = true
  · by_cases h2 : loS v = true
    · rw [if_pos h, Option.bind_some, if_pos h2, if_pos ⟨h, h2⟩]
      unfold hiS at h
      unfold loS at h2
      simp only [decide_eq_true_eq] at h h2
      rw [wrap_u16, wrap_u16, w32 ((u - 55296) % 65536) (by omega) (by omega), w32 ((u - 55296) % 65536 * 1024) (by omega) (by omega), w32 ((v - 56320) % 65536) (by omega) (by omega), w32 (65536 + _) (by omega) (by omega), w32 _ (by omega) (by omega)]
      unfold joinV
      congr 2
      omega
    · rw [if_pos h, Option.bind_some, if_neg h2, if_neg (fun hh => h2 hh.2)]
  · rw [if_neg h, if_neg (fun hh => h hh.1)]
theorem rjoin_val (u v : Int) : orthoepyref01_Join.f u v = some (if hiS u = true ∧ loS v = true then (joinV u v, true) else (0, false)) := by
  unfold orthoepyref01_Join.f
  rw [rhigh_val, Option.bind_some, rlow_val]
  by_cases h : hiS u = true
  · by_cases h2 : loS v = true
    · rw [if_pos h, Option.bind_some, if_pos h2, if_pos ⟨h, h2⟩]
      unfold hiS at h
      unfold loS at h2
      simp only [decide_eq_true_eq] at h h2
      rw [w32 u (by omega) (by omega), w32 v (by omega) (by omega), w32 (u - 55296) (by omega) (by omega), w32 ((u - 55296) * 1024) (by omega) (by omega), w32 (65536 + _) (by omega) (by omega), w32 (65536 + _ + _) (by omega) (by omega), w32 _ (by omega) (by omega)]
      unfold joinV
      congr 2
      omega
    · rw [if_pos h, Option.bind_some, if_neg h2, if_neg (fun hh => h2 hh.2)]
  · rw [if_neg h, if_neg (fun hh => h hh.1)]

theorem scal_l0 (d : Nat) : ∀ (k : Nat) (x0 acc rest : List Int) (i : Int), rest.length ≤ d → 0 ≤ i → x0.drop i.toNat = rest → i ≤ x0.length → U16 x0 → x0.length < 1000000000000 → (acc.length : Int) ≤ i → 2 * d + 2 ≤ k →
    utf16_Scalars.l0 k x0 acc i = some (scV acc i rest) := by
  induction d with
  | zero =>
    intro k x0 acc rest i hd h0 hx hi hr hl ha hk
    obtain ⟨k, rfl⟩ : ∃ m, k = m + 1 := ⟨k - 1, by omega⟩
    have hn : rest = [] := List.length_eq_zero_iff.mp (by omega)
    have hlen : (x0.length : Int) = i := by
      have := congrArg List.length hx
      simp [hn] at this
      omega
    simp only [utf16_Scalars.l0]
    rw [if_neg (by omega), hn, hlen]
    simp [scV]
  | succ d ih =>
    intro k x0 acc rest i hd h0 hx hi hr hl ha hk
    obtain ⟨k, rfl⟩ : ∃ m, k = m + 2 := ⟨k - 2, by omega⟩
    cases rest with
    | nil => exact ih _ x0 acc [] i (by simp) h0 hx hi hr hl ha (by omega)
    | cons u r =>
      obtain ⟨hrd, hlt, hdrop⟩ := rd_drop x0 i u r h0 hx
      have hu := hr u (List.mem_of_mem_drop (by rw [hx]; simp))
      have ew : wrap64 (i + 1) = i + 1 := by unfold wrap64; omega
      have one : (hiS u = true ∨ loS u = true → utf16_Scalars.j1 (k + 1) x0 acc i false = some ([], i, false)) ∧ (¬ (hiS u = true ∨ loS u = true) → utf16_Scalars.j1 (k + 1) x0 acc i false = some (scV (acc ++ [u]) (i + 1) r)) := by
        simp only [utf16_Scalars.j1]
        rw [if_neg (by decide), if_pos h0, if_pos (by omega), hrd, high_val, low_val, ew, w32 u (by omega) (by omega)]
        simp only [Option.bind_some]
        refine ⟨fun h => ?_, fun h => ?_⟩
        · by_cases h1 : hiS u = true
          · rw [if_pos h1]
          · rw [if_neg h1, if_pos (h.resolve_left h1)]
        · rw [if_neg (fun hh => h (.inl hh)), if_neg (fun hh => h (.inr hh)), if_pos (by omega)]
          exact ih k x0 (acc ++ [u]) r (i + 1) (by simp at hd; omega) (by omega) hdrop (by omega) hr hl (by simp; omega) (by omega)
      simp only [utf16_Scalars.l0]
      rw [if_pos (by omega), if_pos h0, hrd, high_val, ew, Option.bind_some]
      cases r with
      | nil =>
        have hlen : ¬ i + 1 < (x0.length : Int) := by
          have := congrArg List.length hdrop
          simp at this
          omega
        rw [if_neg hlen]
        simp only [scV]
        by_cases h : hiS u = true ∨ loS u = true
        · rw [if_pos h]
          split <;> exact one.1 h
        · rw [if_neg h]
          have := one.2 h
          simp only [scV] at this
          split <;> exact this
      | cons v r =>
        obtain ⟨hrd2, hlt2, hdrop2⟩ := rd_drop x0 (i + 1) v r (by omega) hdrop
        by_cases h1 : hiS u = true
        · rw [if_pos h1, if_pos (by omega), if_pos (by omega), hrd2, low_val, Option.bind_some]
          simp only [scV]
          by_cases h2 : loS v = true
          · rw [if_pos ⟨h1, h2⟩, h2]
            simp only [utf16_Scalars.j1]
            have ew2 : wrap64 (i + 1 + 1) = i + 2 := by unfold wrap64; omega
            rw [if_pos trivial, if_pos h0, if_pos (by omega), ew, if_pos (by omega), if_pos (by omega), hrd, hrd2, join_val, if_pos ⟨h1, h2⟩, Option.bind_some, if_pos (by omega), ew2]
            exact ih k x0 (acc ++ [joinV u v]) r (i + 2) (by simp at hd; omega) (by omega) (by rw [show i + 2 = i + 1 + 1 by omega]; exact hdrop2) (by omega) hr hl (by simp; omega) (by omega)
          · rw [if_neg (fun hh => h2 hh.2), if_pos (.inl h1), show loS v = false by simpa using h2]
            exact one.1 (.inl h1)
        · rw [if_neg h1]
          simp only [scV]
          rw [if_neg (fun hh => h1 hh.1)]
          by_cases h2 : hiS u = true ∨ loS u = true
          · rw [if_pos h2]
            exact one.1 h2
          · rw [if_neg h2]
            exact one.2 h2
theorem scal_val (k : Nat) (xs : List Int) (hr : U16 xs) (hl : xs.length < 1000000000000) (hk : 2 * xs.length + 2 ≤ k) : utf16_Scalars.f k xs = some (scV [] 0 xs) := by
  unfold utf16_Scalars.f
  rw [if_pos (by omega), if_pos (by omega)]
  exact scal_l0 xs.length k xs [] xs 0 (Nat.le_refl _) (by omega) rfl (by omega) hr hl (by simp) hk

theorem rscal_l0 (d : Nat) : ∀ (k : Nat) (x0 acc rest : List Int) (i : Int), rest.length ≤ d → 0 ≤ i → x0.drop i.toNat = rest → i ≤ x0.length → U16 x0 → x0.length < 1000000000000 → (acc.length : Int) ≤ i → 2 * d + 2 ≤ k →
    orthoepyref03_Scalars.l0 k x0 acc i = some (scV acc i rest) := by
  induction d with
  | zero =>
    intro k x0 acc rest i hd h0 hx hi hr hl ha hk
    obtain ⟨k, rfl⟩ : ∃ m, k = m + 1 := ⟨k - 1, by omega⟩
    have hn : rest = [] := List.length_eq_zero_iff.mp (by omega)
    have hlen : (x0.length : Int) = i := by
      have := congrArg List.length hx
      simp [hn] at this
      omega
    simp only [orthoepyref03_Scalars.l0]
    rw [if_neg (by omega), hn, hlen]
    simp [scV]
  | succ d ih =>
    intro k x0 acc rest i hd h0 hx hi hr hl ha hk
    obtain ⟨k, rfl⟩ : ∃ m, k = m + 2 := ⟨k - 2, by omega⟩
    cases rest with
    | nil => exact ih _ x0 acc [] i (by simp) h0 hx hi hr hl ha (by omega)
    | cons u r =>
      obtain ⟨hrd, hlt, hdrop⟩ := rd_drop x0 i u r h0 hx
      have hu := hr u (List.mem_of_mem_drop (by rw [hx]; simp))
      have ew : wrap64 (i + 1) = i + 1 := by unfold wrap64; omega
      have one : (hiS u = true ∨ loS u = true → orthoepyref03_Scalars.j1 (k + 1) x0 acc i = some ([], i, false)) ∧ (¬ (hiS u = true ∨ loS u = true) → orthoepyref03_Scalars.j1 (k + 1) x0 acc i = some (scV (acc ++ [u]) (i + 1) r)) := by
        simp only [orthoepyref03_Scalars.j1]
        rw [if_pos h0, if_pos (by omega), hrd, rhigh_val, rlow_val, ew, w32 u (by omega) (by omega)]
        simp only [Option.bind_some]
        refine ⟨fun h => ?_, fun h => ?_⟩
        · by_cases h1 : hiS u = true
          · rw [if_pos h1]
          · rw [if_neg h1, if_pos (h.resolve_left h1)]
        · rw [if_neg (fun hh => h (.inl hh)), if_neg (fun hh => h (.inr hh)), if_pos (by omega)]
          exact ih k x0 (acc ++ [u]) r (i + 1) (by simp at hd; omega) (by omega) hdrop (by omega) hr hl (by simp; omega) (by omega)
      simp only [orthoepyref03_Scalars.l0]
      rw [if_pos (by omega), ew]
      cases r with
      | nil =>
        have hlen : ¬ i + 1 < (x0.length : Int) := by
          have := congrArg List.length hdrop
          simp at this
          omega
        rw [if_neg hlen]
        simp only [scV]
        by_cases h : hiS u = true ∨ loS u = true
        · rw [if_pos h]
          exact one.1 h
        · rw [if_neg h]
          have := one.2 h
          simp only [scV] at this
          exact this
      | cons v r =>
        obtain ⟨hrd2, hlt2, hdrop2⟩ := rd_drop x0 (i + 1) v r (by omega) hdrop
        rw [if_pos (by omega), if_pos h0, if_pos (by omega), hrd, hrd2, rjoin_val, Option.bind_some]
        simp only [scV]
        by_cases h : hiS u = true ∧ loS v = true
        · have ew2 : wrap64 (i + 1 + 1) = i + 2 := by unfold wrap64; omega
          rw [if_pos h, if_pos h]
          simp only [if_true]
          rw [if_pos (by omega), ew2]
          exact ih (k + 1) x0 (acc ++ [joinV u v]) r (i + 2) (by simp at hd; omega) (by omega) (by rw [show i + 2 = i + 1 + 1 by omega]; exact hdrop2) (by omega) hr hl (by simp; omega) (by omega)
        · rw [if_neg h, if_neg h]
          simp only [Bool.false_eq_true, if_false]
          by_cases h2 : hiS u = true ∨ loS u = true
          · rw [if_pos h2]
            exact one.1 h2
          · rw [if_neg h2]
            exact one.2 h2
theorem rscal_val (k : Nat) (xs : List Int) (hr : U16 xs) (hl : xs.length < 1000000000000) (hk : 2 * xs.length + 2 ≤ k) : orthoepyref03_Scalars.f k xs = some (scV [] 0 xs) := by
  unfold orthoepyref03_Scalars.f
  exact rscal_l0 xs.length k xs [] xs 0 (Nat.le_refl _) (by omega) rfl (by omega) hr hl (by simp) hk

theorem lsame_l (xs : List Int) (d : Nat) : ∀ (k : Nat) (i : Int), 0 ≤ i → (xs.length : Int) - i = d → d < k → xs.length < 1000000000000 → orthoepylaw03_same.l0 k xs xs i = some true := by
  induction d with
  | zero =>
    intro k i h0 hd hk hl
    obtain ⟨k, rfl⟩ : ∃ m, k = m + 1 := ⟨k - 1, by omega⟩
    simp only [orthoepylaw03_same.l0]
    rw [if_neg (by omega)]
  | succ d ih =>
    intro k i h0 hd hk hl
    obtain ⟨k, rfl⟩ : ∃ m, k = m + 1 := ⟨k - 1, by omega⟩
    simp only [orthoepylaw03_same.l0]
    have ew : wrap64 (i + 1) = i + 1 := by unfold wrap64; omega
    rw [if_pos (by omega), if_pos h0, if_pos (by omega), ew]
    simp only [if_true]
    exact ih k (i + 1) (by omega) (by omega) (by omega) hl
theorem lsame_val (k : Nat) (xs : List Int) (hl : xs.length < 1000000000000) (hk : xs.length < k) : orthoepylaw03_same.f k xs xs = some true := by
  unfold orthoepylaw03_same.f
  rw [if_pos rfl]
  exact lsame_l xs xs.length k 0 (by omega) (by omega) hk hl
/-- The order of units. -/
def cmpV : List Int → List Int → Int
  | [], [] => 0
  | [], _ :: _ => -1
  | _ :: _, [] => 1
  | a :: r, b :: s => if a < b then -1 else if a > b then 1 else cmpV r s
theorem cell_cmp (a b : Int) : cmp_Compare_uint16.f a b = some (if a < b then -1 else if a > b then 1 else 0) := by
  unfold cmp_Compare_uint16.f cmp_isNaN_uint16.f
  simp only [bne_self_eq_false, Option.bind_some, Bool.false_eq_true, if_false]
  (repeat' split) <;> rfl
theorem drop_nil {xs : List Int} {i : Int} (h0 : 0 ≤ i) (hi : i ≤ xs.length) (h : xs.drop i.toNat = []) : (xs.length : Int) = i := by
  have := congrArg List.length h
  simp at this
  omega
theorem cmp_l0 (p : List Int) : ∀ (k : Nat) (x0 x1 q : List Int) (i : Int), 0 ≤ i → x0.drop i.toNat = p → x1.drop i.toNat = q → i ≤ x0.length → i ≤ x1.length → x0.length < 1000000000000 → p.length < k →
    slices_Compare_uint16_uint16.l0 k x0 x1 x0 (x0.length : Int) i = some (cmpV p q) := by
  induction p with
  | nil =>
    intro k x0 x1 q i h0 hp hq hi hj hl hk
    obtain ⟨k, rfl⟩ : ∃ m, k = m + 1 := ⟨k - 1, by omega⟩
    have e0 := drop_nil h0 hi hp
    simp only [slices_Compare_uint16_uint16.l0]
    rw [if_neg (by omega)]
    cases q with
    | nil =>
      have e1 := drop_nil h0 hj hq
      rw [if_neg (by omega)]
      rfl
    | cons b s =>
      obtain ⟨_, hlt, _⟩ := rd_drop x1 i b s h0 hq
      rw [if_pos (by omega)]
      rfl
  | cons a r ih =>
    intro k x0 x1 q i h0 hp hq hi hj hl hk
    obtain ⟨k, rfl⟩ : ∃ m, k = m + 1 := ⟨k - 1, by omega⟩
    obtain ⟨hra, hlt, hdrop⟩ := rd_drop x0 i a r h0 hp
    have ew : wrap64 (i + 1) = i + 1 := by unfold wrap64; omega
    simp only [slices_Compare_uint16_uint16.l0]
    rw [if_pos (by omega), if_pos h0, if_pos (by omega)]
    cases q with
    | nil =>
      have e1 := drop_nil h0 hj hq
      rw [if_pos (by omega)]
      rfl
    | cons b s =>
      obtain ⟨hrb, hlt1, hdrop1⟩ := rd_drop x1 i b s h0 hq
      rw [if_neg (by omega), if_pos (by omega), hra, hrb, cell_cmp, Option.bind_some]
      simp only [cmpV]
      by_cases h1 : a < b
      · rw [if_pos h1, if_pos h1, if_neg (by decide)]
      · rw [if_neg h1, if_neg h1]
        by_cases h2 : a > b
        · rw [if_pos h2, if_pos h2, if_neg (by decide)]
        · rw [if_neg h2, if_neg h2, if_pos rfl, ew]
          exact ih k x0 x1 s (i + 1) (by omega) hdrop hdrop1 (by omega) (by omega) hl (by simp at hk; omega)
theorem rcmp_l0 (p : List Int) : ∀ (k : Nat) (x0 x1 q : List Int) (i : Int), 0 ≤ i → x0.drop i.toNat = p → x1.drop i.toNat = q → i ≤ x0.length → i ≤ x1.length → x0.length < 1000000000000 → 2 * p.length + 1 < k →
    orthoepyref03_Compare.l0 k x0 x1 i = some (cmpV p q) := by
  induction p with
  | nil =>
    intro k x0 x1 q i h0 hp hq hi hj hl hk
    obtain ⟨k, rfl⟩ : ∃ m, k = m + 2 := ⟨k - 2, by omega⟩
    have e0 := drop_nil h0 hi hp
    simp only [orthoepyref03_Compare.l0, orthoepyref03_Compare.j1]
    rw [if_neg (by omega), if_neg (by decide)]
    cases q with
    | nil =>
      have e1 := drop_nil h0 hj hq
      rw [if_neg (by omega), if_neg (by omega)]
      rfl
    | cons b s =>
      obtain ⟨_, hlt, _⟩ := rd_drop x1 i b s h0 hq
      rw [if_pos (by omega)]
      rfl
  | cons a r ih =>
    intro k x0 x1 q i h0 hp hq hi hj hl hk
    obtain ⟨k, rfl⟩ : ∃ m, k = m + 2 := ⟨k - 2, by omega⟩
    obtain ⟨hra, hlt, hdrop⟩ := rd_drop x0 i a r h0 hp
    have ew : wrap64 (i + 1) = i + 1 := by unfold wrap64; omega
    simp only [orthoepyref03_Compare.l0]
    rw [if_pos (by omega)]
    cases q with
    | nil =>
      have e1 := drop_nil h0 hj hq
      rw [decide_eq_false (by omega)]
      simp only [orthoepyref03_Compare.j1]
      rw [if_neg (by decide), if_neg (by omega), if_pos (by omega)]
      rfl
    | cons b s =>
      obtain ⟨hrb, hlt1, hdrop1⟩ := rd_drop x1 i b s h0 hq
      rw [decide_eq_true (by omega)]
      simp only [orthoepyref03_Compare.j1]
      rw [if_pos trivial, if_pos h0, if_pos (by omega), if_pos (by omega), hra, hrb, ew]
      simp only [cmpV]
      by_cases h1 : a < b
      · rw [if_pos h1, if_pos h1]
      · rw [if_neg h1, if_neg h1]
        by_cases h2 : a > b
        · rw [if_pos h2, if_pos h2]
        · rw [if_neg h2, if_neg h2]
          exact ih k x0 x1 s (i + 1) (by omega) hdrop hdrop1 (by omega) (by omega) hl (by simp at hk; omega)
theorem flat_len (l : List Int) : (l.flatMap unV).length ≤ 2 * l.length := by
  induction l with
  | nil => simp
  | cons c r ih =>
    have := unV_len c
    simp only [List.flatMap_cons, List.length_append, List.length_cons]
    omega
theorem compare_val (k : Nat) (l m : List Int) (hl : l.length < 100000000000) (hm : m.length < 100000000000) (h1 : ∀ c ∈ l, c ≤ 2147483647) (h2 : ∀ c ∈ m, c ≤ 2147483647) (hk : 2 * l.length < k) :
    utf16_Compare.f k l m = some (cmpV (l.flatMap unV) (m.flatMap unV)) := by
  unfold utf16_Compare.f slices_Compare_uint16_uint16.f
  have := flat_len l
  rw [units_val l (by omega) h1, Option.bind_some, units_val m (by omega) h2, Option.bind_some, cmp_l0 _ k _ _ _ 0 (by omega) rfl rfl (by omega) (by omega) (by omega) (by rw [show (0 : Int).toNat = 0 from rfl, List.drop_zero]; omega)]
  simp
theorem rcompare_val (k : Nat) (l m : List Int) (hl : l.length < 100000000000) (hm : m.length < 100000000000) (h1 : R32 l) (h2 : R32 m) (hk : 4 * l.length + m.length + 2 < k) :
    orthoepyref03_Compare.f k l m = some (cmpV (l.flatMap unV) (m.flatMap unV)) := by
  unfold orthoepyref03_Compare.f
  have := flat_len l
  rw [runits_val k l h1 (by omega) (by omega), Option.bind_some, runits_val k m h2 (by omega) (by omega), Option.bind_some, rcmp_l0 _ k _ _ _ 0 (by omega) rfl rfl (by omega) (by omega) (by omega) (by rw [show (0 : Int).toNat = 0 from rfl, List.drop_zero]; omega)]
  simp

end Go.Proofs.Ythgloaihgpcjjaa.Pure
