/- UTF-16, plainly. -/
import Derived.Test.YtajinnlaajhoeaaPAllx1
import Derived.Test.YtajinnlaajhoeaaPAllx2
import Derived.Test.YtajinnlaajhoeaaPAllx3
import Derived.Test.YtajinnlaajhoeaaPAllx4
import Derived.Test.YtajinnlaajhoeaaPAllx5
import Derived.Test.YtajinnlaajhoeaaPAllx6
import Derived.Test.YtajinnlaajhoeaaPAllx7
import Derived.Test.YtajinnlaajhoeaaLUtf
import Derived.Test.YtajinnlaajhoeaaLRef
namespace Go.Proofs.Ytajinnlaajhoeaa.Pure
open Go.RowKit Go.Proofs.Ytajinnlaajhoeaa.PAll Go.Proofs.YtajinnlaajhoeaaW.PrintWords Go.Proofs.YtajinnlaajhoeaaW.PrintLast Go.Proofs.YtajinnlaajhoeaaW.PrintMore
set_option linter.unusedVariables false
set_option linter.unusedSimpArgs false

/-! ### UTF-16, plainly -/
theorem wrap_u16 (n : Int) : IntKind.u16.wrap n = n % 65536 := by
  simp [IntKind.wrap, IntKind.bits, IntKind.signed]
theorem and1023 (x : Int) (h0 : 0 ≤ x) (h1 : x < 2147483648) : Go.bits .and .i32 x 1023 = x % 1024 :=
  bits_mask .i32 31 (by decide) wraps_i32 10 (by decide) x h0 h1
theorem w32 (x : Int) (h0 : -2147483648 ≤ x) (h1 : x ≤ 2147483647) : wrap32 x = x := by unfold wrap32; omega
def unV (c : Int) : List Int := if isScal c = true then (if c < 65536 then [c] else [55296 + (c - 65536) / 1024, 56320 + (c - 65536) % 1024]) else []
theorem split_val (c : Int) : scalar_Split.f c = some (if isScal c = true ∧ 65536 ≤ c then (55296 + (c - 65536) / 1024, 56320 + (c - 65536) % 1024, true) else (0, 0, false)) := by
  unfold scalar_Split.f scalar_Units.f
  rw [is_val, Option.bind_some]
  by_cases h : isScal c = true
  · rw [if_pos h]
    by_cases h2 : 65536 ≤ c
    · have h3 : 0 ≤ c ∧ c ≤ 1114111 := by
        unfold isScal at h
        simp only [decide_eq_true_eq] at h
        omega
      rw [if_pos h2, if_pos ⟨h, h2⟩]
      simp only [Option.bind_some, Int.reduceAdd, if_true]
      rw [w32 (c - 65536) (by omega) (by omega), and1023 _ (by omega) (by omega), w32 _ (by omega) (by omega), w32 _ (by omega) (by omega), wrap_u16, wrap_u16]
      congr 2
      · omega
      · congr 1
        omega
    · rw [if_neg h2, if_neg (fun hh => h2 hh.2)]
      simp
  · rw [if_neg h, if_neg (fun hh => h hh.1)]
    simp
theorem uof_val (c : Int) (h1 : c ≤ 2147483647) : utf16_Units.of c = unV c := by
  unfold utf16_Units.of unV
  rw [split_val, is_val]
  by_cases h : isScal c = true
  · have h3 : 0 ≤ c ∧ c ≤ 1114111 := by
      unfold isScal at h
      simp only [decide_eq_true_eq] at h
      omega
    rw [h]
    by_cases h2 : 65536 ≤ c
    · simp [h2, show ¬ c < 65536 by omega]
    · simp [h2, show c < 65536 by omega, wrap_u16]
      omega
  · rw [show isScal c = false by simpa using h]
    simp
theorem units_val (l : List Int) (hl : l.length < 1000000000000) (h1 : ∀ c ∈ l, c ≤ 2147483647) : utf16_Units.f l = some (l.flatMap unV) := by
  unfold utf16_Units.f
  rw [if_pos ⟨fun c _ => by simp [split_val, is_val], hl⟩]
  congr 1
  induction l with
  | nil => rfl
  | cons c r ih =>
    simp only [List.flatMap_cons]
    rw [uof_val c (h1 c (by simp)), ih (by simp at hl; omega) (fun d hd => h1 d (by simp [hd]))]

theorem unV_len (c : Int) : (unV c).length ≤ 2 := by
  unfold unV
  (repeat' split) <;> simp
theorem rsplit_val (c : Int) (h0 : -2147483648 ≤ c) (h1 : c ≤ 2147483647) : orthoepyref01_Split.f c = some (if 65536 ≤ c ∧ c ≤ 1114111 then (55296 + (c - 65536) / 1024, 56320 + (c - 65536) % 1024, true) else (0, 0, false)) := by
  unfold orthoepyref01_Split.f
  by_cases h2 : c < 65536
  · rw [if_pos h2, if_neg (by omega)]
  · rw [if_neg h2]
    by_cases h3 : c > 1114111
    · rw [if_pos h3, if_neg (by omega)]
    · rw [if_neg h3, if_pos (by omega), w32 (c - 65536) (by omega) (by omega), Int.tdiv_eq_ediv_of_nonneg (by omega), Int.tmod_eq_emod_of_nonneg (by omega), w32 ((c - 65536) / 1024) (by omega) (by omega), w32 _ (by omega) (by omega), w32 _ (by omega) (by omega), wrap_u16, wrap_u16]
      congr 2
      · omega
      · congr 1
        omega
theorem runits_l0 (rest : List Int) : ∀ (k : Nat) (x0 acc : List Int) (i : Int), 0 ≤ i → x0.drop i.toNat = rest → i ≤ x0.length → R32 x0 → x0.length < 1000000000000 → (acc.length : Int) ≤ 2 * i → rest.length < k →
    orthoepyref03_Units.l0 k x0 acc i = some (acc ++ rest.flatMap unV) := by
  induction rest with
  | nil =>
    intro k x0 acc i h0 hx hi hr hl ha hk
    obtain ⟨k, rfl⟩ : ∃ m, k = m + 1 := ⟨k - 1, by omega⟩
    have hlen : (x0.length : Int) = i := by
      have := congrArg List.length hx
      simp at this
      omega
    simp only [orthoepyref03_Units.l0]
    rw [if_neg (by omega)]
    simp
  | cons x r ih =>
    intro k x0 acc i h0 hx hi hr hl ha hk
    obtain ⟨k, rfl⟩ : ∃ m, k = m + 1 := ⟨k - 1, by omega⟩
    obtain ⟨hrd, hlt, hdrop⟩ := rd_drop x0 i x r h0 hx
    have hx32 := hr x (List.mem_of_mem_drop (by rw [hx]; simp))
    have ew : wrap64 (i + 1) = i + 1 := by unfold wrap64; omega
    have step : ∀ y : List Int, y.length ≤ 2 → orthoepyref03_Units.l0 k x0 (acc ++ y) (i + 1) = some (acc ++ y ++ r.flatMap unV) := fun y hy =>
      ih k x0 (acc ++ y) (i + 1) (by omega) hdrop (by omega) hr hl (by simp; omega) (by simp at hk; omega)
    simp only [orthoepyref03_Units.l0]
    rw [if_pos (by omega), if_pos (by omega), hrd, rsplit_val x hx32.1 hx32.2, ris_val, ew]
    simp only [Option.bind_some, List.flatMap_cons]
    by_cases h2 : 65536 ≤ x ∧ x ≤ 1114111
    · have hs : isScal x = true := by
        unfold isScal
        simp only [decide_eq_true_eq]
        omega
      have eu : unV x = [55296 + (x - 65536) / 1024, 56320 + (x - 65536) % 1024] := by
        unfold unV
        rw [if_pos hs, if_neg (by omega)]
      rw [if_pos h2]
      simp only [if_true]
      rw [if_pos (by simp; omega), step _ (by simp), eu, List.append_assoc]
    · rw [if_neg h2]
      simp only [Bool.false_eq_true, if_false]
      by_cases hs : isScal x = true
      · have hb : 0 ≤ x ∧ x < 65536 := by
          unfold isScal at hs
          simp only [decide_eq_true_eq] at hs
          omega
        have eu : unV x = [x] := by
          unfold unV
          rw [if_pos hs, if_pos hb.2]
        rw [if_pos hs, if_pos (by omega), wrap_u16, show x % 65536 = x by omega, step _ (by simp), eu, List.append_assoc]
      · have eu : unV x = [] := by
          unfold unV
          rw [if_neg hs]
        have := step [] (by simp)
        rw [List.append_nil] at this
        rw [if_neg hs, this, eu, List.nil_append]
theorem runits_val (k : Nat) (l : List Int) (hr : R32 l) (hl : l.length < 1000000000000) (hk : l.length < k) : orthoepyref03_Units.f k l = some (l.flatMap unV) := by
  unfold orthoepyref03_Units.f
  have := runits_l0 l k l [] 0 (by omega) rfl (by omega) hr hl (by simp) hk
  simpa using this

def U16 (xs : List Int) : Prop := ∀ x ∈ xs, 0 ≤ x ∧ x ≤ 65535
def hiS (u : Int) : Bool := decide (55296 ≤ u ∧ u < 56320)
def loS (u : Int) : Bool := decide (56320 ≤ u ∧ u ≤ 57343)
def joinV (u v : Int) : Int := 65536 + (u - 55296) * 1024 + (v - 56320)
/-- All scalars of units; the place behind, or where there is none. -/
def scV (acc : List Int) (at_ : Int) : List Int → List Int × Int × Bool
  | [] => (acc, at_, true)
  | [u] => if hiS u = true ∨ loS u = true then ([], at_, false) else (acc ++ [u], at_ + 1, true)
  | u :: v :: r => if hiS u = true ∧ loS v = true then scV (acc ++ [joinV u v]) (at_ + 2) r else if hiS u = true ∨ loS u = true then ([], at_, false) else scV (acc ++ [u]) (at_ + 1) (v :: r)

/-- The order of units. -/
def cmpV : List Int → List Int → Int
  | [], [] => 0
  | [], _ :: _ => -1
  | _ :: _, [] => 1
  | a :: r, b :: s => if a < b then -1 else if a > b then 1 else cmpV r s
theorem cell_cmp (a b : Int) : cmp_Compare_uint16.f a b = some (if a < b then -1 else if a > b then 1 else 0) := by
  unfold cmp_Compare_uint16.f cmp_isNaN_uint16.f
  simp only [bne_self_eq_false, Option.bind_some, Bool.false_eq_true, if_false]
  (repeat' split) <;> rfl
theorem drop_nil {xs : List Int} {i : Int} (h0 : 0 ≤ i) (hi : i ≤ xs.length) (h : xs.drop i.toNat = []) : (xs.length : Int) = i := by
  have := congrArg List.length h
  simp at this
  omega
theorem cmp_l0 (p : List Int) : ∀ (k : Nat) (x0 x1 q : List Int) (i : Int), 0 ≤ i → x0.drop i.toNat = p → x1.drop i.toNat = q → i ≤ x0.length → i ≤ x1.length → x0.length < 1000000000000 → p.length < k →
    slices_Compare_uint16_uint16.l0 k x0 x1 x0 (x0.length : Int) i = some (cmpV p q) := by
  induction p with
  | nil =>
    intro k x0 x1 q i h0 hp hq hi hj hl hk
    obtain ⟨k, rfl⟩ : ∃ m, k = m + 1 := ⟨k - 1, by omega⟩
    have e0 := drop_nil h0 hi hp
    simp only [slices_Compare_uint16_uint16.l0]
    rw [if_neg (by omega)]
    cases q with
    | nil =>
      have e1 := drop_nil h0 hj hq
      rw [if_neg (by omega)]
      rfl
    | cons b s =>
      obtain ⟨_, hlt, _⟩ := rd_drop x1 i b s h0 hq
      rw [if_pos (by omega)]
      rfl
  | cons a r ih =>
    intro k x0 x1 q i h0 hp hq hi hj hl hk
    obtain ⟨k, rfl⟩ : ∃ m, k = m + 1 := ⟨k - 1, by omega⟩
    obtain ⟨hra, hlt, hdrop⟩ := rd_drop x0 i a r h0 hp
    have ew : wrap64 (i + 1) = i + 1 := by unfold wrap64; omega
    simp only [slices_Compare_uint16_uint16.l0]
    rw [if_pos (by omega), if_pos h0, if_pos (by omega)]
    cases q with
    | nil =>
      have e1 := drop_nil h0 hj hq
      rw [if_pos (by omega)]
      rfl
    | cons b s =>
      obtain ⟨hrb, hlt1, hdrop1⟩ := rd_drop x1 i b s h0 hq
      rw [if_neg (by omega), if_pos (by omega), hra, hrb, cell_cmp, Option.bind_some]
      simp only [cmpV]
      by_cases h1 : a < b
      · rw [if_pos h1, if_pos h1, if_neg (by decide)]
      · rw [if_neg h1, if_neg h1]
        by_cases h2 : a > b
        · rw [if_pos h2, if_pos h2, if_neg (by decide)]
        · rw [if_neg h2, if_neg h2, if_pos rfl, ew]
          exact ih k x0 x1 s (i + 1) (by omega) hdrop hdrop1 (by omega) (by omega) hl (by simp at hk; omega)
theorem rcmp_l0 (p : List Int) : ∀ (k : Nat) (x0 x1 q : List Int) (i : Int), 0 ≤ i → x0.drop i.toNat = p → x1.drop i.toNat = q → i ≤ x0.length → i ≤ x1.length → x0.length < 1000000000000 → 2 * p.length + 1 < k →
    orthoepyref03_Compare.l0 k x0 x1 i = some (cmpV p q) := by
  induction p with
  | nil =>
    intro k x0 x1 q i h0 hp hq hi hj hl hk
    obtain ⟨k, rfl⟩ : ∃ m, k = m + 2 := ⟨k - 2, by omega⟩
    have e0 := drop_nil h0 hi hp
    simp only [orthoepyref03_Compare.l0, orthoepyref03_Compare.j1]
    rw [if_neg (by omega), if_neg (by decide)]
    cases q with
    | nil =>
      have e1 := drop_nil h0 hj hq
      rw [if_neg (by omega), if_neg (by omega)]
      rfl
    | cons b s =>
      obtain ⟨_, hlt, _⟩ := rd_drop x1 i b s h0 hq
      rw [if_pos (by omega)]
      rfl
  | cons a r ih =>
    intro k x0 x1 q i h0 hp hq hi hj hl hk
    obtain ⟨k, rfl⟩ : ∃ m, k = m + 2 := ⟨k - 2, by omega⟩
    obtain ⟨hra, hlt, hdrop⟩ := rd_drop x0 i a r h0 hp
    have ew : wrap64 (i + 1) = i + 1 := by unfold wrap64; omega
    simp only [orthoepyref03_Compare.l0]
    rw [if_pos (by omega)]
    cases q with
    | nil =>
      have e1 := drop_nil h0 hj hq
      rw [decide_eq_false (by omega)]
      simp only [orthoepyref03_Compare.j1]
      rw [if_neg (by decide), if_neg (by omega), if_pos (by omega)]
      rfl
    | cons b s =>
      obtain ⟨hrb, hlt1, hdrop1⟩ := rd_drop x1 i b s h0 hq
      rw [decide_eq_true (by omega)]
      simp only [orthoepyref03_Compare.j1]
      rw [if_pos trivial, if_pos h0, if_pos (by omega), if_pos (by omega), hra, hrb, ew]
      simp only [cmpV]
      by_cases h1 : a < b
      · rw [if_pos h1, if_pos h1]
      · rw [if_neg h1, if_neg h1]
        by_cases h2 : a > b
        · rw [if_pos h2, if_pos h2]
        · rw [if_neg h2, if_neg h2]
          exact ih k x0 x1 s (i + 1) (by omega) hdrop hdrop1 (by omega) (by omega) hl (by simp at hk; omega)
theorem flat_len (l : List Int) : (l.flatMap unV).length ≤ 2 * l.length := by
  induction l with
  | nil => simp
  | cons c r ih =>
    have := unV_len c
    simp only [List.flatMap_cons, List.length_append, List.length_cons]
    omega
theorem compare_val (k : Nat) (l m : List Int) (hl : l.length < 100000000000) (hm : m.length < 100000000000) (h1 : ∀ c ∈ l, c ≤ 2147483647) (h2 : ∀ c ∈ m, c ≤ 2147483647) (hk : 2 * l.length < k) :
    utf16_Compare.f k l m = some (cmpV (l.flatMap unV) (m.flatMap unV)) := by
  unfold utf16_Compare.f slices_Compare_uint16_uint16.f
  have := flat_len l
  rw [units_val l (by omega) h1, Option.bind_some, units_val m (by omega) h2, Option.bind_some, cmp_l0 _ k _ _ _ 0 (by omega) rfl rfl (by omega) (by omega) (by omega) (by rw [show (0 : Int).toNat = 0 from rfl, List.drop_zero]; omega)]
  simp
theorem rcompare_val (k : Nat) (l m : List Int) (hl : l.length < 100000000000) (hm : m.length < 100000000000) (h1 : R32 l) (h2 : R32 m) (hk : 4 * l.length + m.length + 2 < k) :
    orthoepyref03_Compare.f k l m = some (cmpV (l.flatMap unV) (m.flatMap unV)) := by
  unfold orthoepyref03_Compare.f
  have := flat_len l
  rw [runits_val k l h1 (by omega) (by omega), Option.bind_some, runits_val k m h2 (by omega) (by omega), Option.bind_some, rcmp_l0 _ k _ _ _ 0 (by omega) rfl rfl (by omega) (by omega) (by omega) (by rw [show (0 : Int).toNat = 0 from rfl, List.drop_zero]; omega)]
  simp

/-! ### Units told again; the order -/
theorem scV_nosur (acc : List Int) (at_ u : Int) (r : List Int) (h1 : hiS u = false) (h2 : loS u = false) : scV acc at_ (u :: r) = scV (acc ++ [u]) (at_ + 1) r := by
  cases r with
  | nil => simp [scV, h1, h2]
  | cons v r => simp [scV, h1, h2]
theorem scV_unit (acc : List Int) (at_ c : Int) (r : List Int) (hc : isScal c = true) : scV acc at_ (unV c ++ r) = scV (acc ++ [c]) (at_ + (unV c).length) r := by
  have hb : 0 ≤ c ∧ c ≤ 1114111 ∧ (c < 55296 ∨ c > 57343) := by
    unfold isScal at hc
    simpa only [decide_eq_true_eq] using hc
  unfold unV
  rw [if_pos hc]
  by_cases h : c < 65536
  · rw [if_pos h]
    have h1 : hiS c = false := by
      unfold hiS
      exact decide_eq_false (by omega)
    have h2 : loS c = false := by
      unfold loS
      exact decide_eq_false (by omega)
    simpa using scV_nosur acc at_ c r h1 h2
  · rw [if_neg h]
    have h1 : hiS (55296 + (c - 65536) / 1024) = true := by
      unfold hiS
      exact decide_eq_true (by omega)
    have h2 : loS (56320 + (c - 65536) % 1024) = true := by
      unfold loS
      exact decide_eq_true (by omega)
    have h3 : joinV (55296 + (c - 65536) / 1024) (56320 + (c - 65536) % 1024) = c := by
      unfold joinV
      omega
    simp [scV, h1, h2, h3]
theorem scV_units (l : List Int) : ∀ (acc : List Int) (at_ : Int) (r : List Int), (∀ c ∈ l, isScal c = true) → scV acc at_ (l.flatMap unV ++ r) = scV (acc ++ l) (at_ + (l.flatMap unV).length) r := by
  induction l with
  | nil => intro acc at_ r _; simp
  | cons c l ih =>
    intro acc at_ r h
    rw [List.flatMap_cons, List.append_assoc, scV_unit _ _ _ _ (h c (by simp)), ih _ _ _ (fun d hd => h d (by simp [hd]))]
    rw [List.append_assoc, List.length_append]
    simp only [List.singleton_append]
    congr 1
    omega
theorem scV_all (l : List Int) (h : ∀ c ∈ l, isScal c = true) : scV [] 0 (l.flatMap unV) = (l, ((l.flatMap unV).length : Int), true) := by
  have := scV_units l [] 0 [] h
  simpa [scV] using this
theorem units_inj (l m : List Int) (hl : ∀ c ∈ l, isScal c = true) (hm : ∀ c ∈ m, isScal c = true) (h : l.flatMap unV = m.flatMap unV) : l = m := by
  have h1 := scV_all l hl
  rw [h, scV_all m hm] at h1
  exact (congrArg (·.1) h1).symm
theorem units_u16 (l : List Int) : U16 (l.flatMap unV) := by
  intro x hx
  obtain ⟨c, _, hc⟩ := List.mem_flatMap.1 hx
  unfold unV at hc
  split at hc
  · rename_i hs
    unfold isScal at hs
    simp only [decide_eq_true_eq] at hs
    split at hc
    · simp at hc; omega
    · simp at hc; omega
  · cases hc
theorem cmpV_range : ∀ (p q : List Int), cmpV p q = -1 ∨ cmpV p q = 0 ∨ cmpV p q = 1
  | [], [] => by simp [cmpV]
  | [], _ :: _ => by simp [cmpV]
  | _ :: _, [] => by simp [cmpV]
  | a :: r, b :: s => by
    simp only [cmpV]
    split
    · simp
    · split
      · simp
      · exact cmpV_range r s
theorem cmpV_self : ∀ p : List Int, cmpV p p = 0
  | [] => rfl
  | a :: r => by simp [cmpV, cmpV_self r]
theorem cmpV_eq : ∀ (p q : List Int), cmpV p q = 0 → p = q
  | [], [], _ => rfl
  | [], _ :: _, h => by simp [cmpV] at h
  | _ :: _, [], h => by simp [cmpV] at h
  | a :: r, b :: s, h => by
    simp only [cmpV] at h
    split at h
    · cases h
    · split at h
      · cases h
      · rw [cmpV_eq r s h]
        congr 1
        omega
theorem cmpV_neg : ∀ (p q : List Int), cmpV p q = -(cmpV q p)
  | [], [] => rfl
  | [], _ :: _ => rfl
  | _ :: _, [] => rfl
  | a :: r, b :: s => by
    simp only [cmpV]
    by_cases h1 : a < b
    · rw [if_pos h1, if_neg (by omega), if_pos (by omega)]
    · rw [if_neg h1]
      by_cases h2 : a > b
      · rw [if_pos h2, if_pos (by omega)]
        rfl
      · rw [if_neg h2, if_neg (by omega), if_neg (by omega)]
        exact cmpV_neg r s
theorem cmpV_trans : ∀ (p q t : List Int), cmpV p q ≤ 0 → cmpV q t ≤ 0 → cmpV p t ≤ 0
  | [], q, t, _, _ => by cases t <;> simp [cmpV]
  | a :: r, [], t, h, _ => by simp [cmpV] at h
  | a :: r, b :: s, [], _, h => by simp [cmpV] at h
  | a :: r, b :: s, c :: t, h, h' => by
    simp only [cmpV] at h h' ⊢
    by_cases h1 : a < b
    · by_cases h3 : b > c
      · rw [if_neg (by omega), if_pos h3] at h'
        omega
      · rw [if_pos (by omega)]
        omega
    · rw [if_neg h1] at h
      by_cases h2 : a > b
      · rw [if_pos h2] at h
        omega
      · rw [if_neg h2] at h
        by_cases h3 : b < c
        · rw [if_pos (by omega)]
          omega
        · rw [if_neg h3] at h'
          by_cases h4 : b > c
          · rw [if_pos h4] at h'
            omega
          · rw [if_neg h4] at h'
            rw [if_neg (by omega), if_neg (by omega)]
            exact cmpV_trans r s t h h'
theorem cmpV_more : ∀ (p q : List Int), q ≠ [] → cmpV p (p ++ q) = -1
  | [], [], h => absurd rfl h
  | [], _ :: _, _ => rfl
  | a :: r, q, h => by simp [cmpV, cmpV_more r q h]
theorem unV_ne (c : Int) (h : isScal c = true) : unV c ≠ [] := by
  unfold unV
  rw [if_pos h]
  split <;> simp
theorem scal_le {l : List Int} (h : ∀ c ∈ l, isScal c = true) : ∀ c ∈ l, c ≤ 2147483647 := by
  intro c hc
  have := h c hc
  unfold isScal at this
  simp only [decide_eq_true_eq] at this
  omega
theorem scal_r32 {l : List Int} (h : ∀ c ∈ l, isScal c = true) : R32 l := by
  intro c hc
  have := h c hc
  unfold isScal at this
  simp only [decide_eq_true_eq] at this
  omega

end Go.Proofs.Ytajinnlaajhoeaa.Pure
