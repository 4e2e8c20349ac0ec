/- UTF-8, plainly. -/
import Derived.Test.YtajinnlaajhoeaaPAllx1
import Derived.Test.YtajinnlaajhoeaaPAllx2
import Derived.Test.YtajinnlaajhoeaaPAllx3
import Derived.Test.YtajinnlaajhoeaaPAllx4
import Derived.Test.YtajinnlaajhoeaaPAllx5
import Derived.Test.YtajinnlaajhoeaaPAllx6
import Derived.Test.YtajinnlaajhoeaaPAllx7
namespace Go.Proofs.Ytajinnlaajhoeaa.Pure
open Go.RowKit Go.Proofs.Ytajinnlaajhoeaa.PAll Go.Proofs.YtajinnlaajhoeaaW.PrintWords Go.Proofs.YtajinnlaajhoeaaW.PrintLast Go.Proofs.YtajinnlaajhoeaaW.PrintMore
set_option linter.unusedVariables false
set_option linter.unusedSimpArgs false

/-! ### UTF-8, plainly -/
def Byt (xs : List Int) : Prop := ∀ x ∈ xs, 0 ≤ x ∧ x ≤ 255
def szV (x : Int) : Int := if x < 128 then 1 else if x < 194 then 0 else if x < 224 then 2 else if x < 240 then 3 else if x < 245 then 4 else 0
def secV (f x : Int) : Bool := decide (128 ≤ x ∧ x ≤ 191 ∧ (f = 224 → 160 ≤ x) ∧ (f = 237 → x ≤ 159) ∧ (f = 240 → 144 ≤ x) ∧ (f = 244 → x ≤ 143))
def tailV (x : Int) : Bool := decide (128 ≤ x ∧ x ≤ 191)
/-- 2: whole; 1: begun; 0: neither. -/
def howV : List Int → Int
  | [] => 0
  | [f] => if szV f = 1 then 2 else if szV f = 0 then 0 else 1
  | [f, x] => if szV f < 2 ∨ secV f x = false then 0 else if szV f = 2 then 2 else 1
  | [f, x, y] => if szV f < 3 ∨ secV f x = false ∨ tailV y = false then 0 else if szV f = 3 then 2 else 1
  | [f, x, y, z] => if szV f < 4 ∨ secV f x = false ∨ tailV y = false ∨ tailV z = false then 0 else 2
  | _ => 0
def baseV (f : Int) : Int := if f < 128 then 0 else if f < 224 then 192 else if f < 240 then 224 else 240
/-- What begun or whole bytes tell. -/
def ofV : List Int → Int
  | [] => 0
  | [f] => f - baseV f
  | [f, x] => (f - baseV f) * 64 + (x - 128)
  | [f, x, y] => ((f - baseV f) * 64 + (x - 128)) * 64 + (y - 128)
  | [f, x, y, z] => (((f - baseV f) * 64 + (x - 128)) * 64 + (y - 128)) * 64 + (z - 128)
  | _ => 0
theorem szV_range (x : Int) : szV x = 0 ∨ szV x = 1 ∨ szV x = 2 ∨ szV x = 3 ∨ szV x = 4 := by
  unfold szV
  (repeat' split) <;> simp
theorem howV_range (b : List Int) : howV b = 0 ∨ howV b = 1 ∨ howV b = 2 := by
  match b with
  | [] => simp [howV]
  | [f] => simp only [howV]; (repeat' split) <;> simp
  | [f, x] => simp only [howV]; (repeat' split) <;> simp
  | [f, x, y] => simp only [howV]; (repeat' split) <;> simp
  | [f, x, y, z] => simp only [howV]; (repeat' split) <;> simp
  | _ :: _ :: _ :: _ :: _ :: _ => simp [howV]
theorem howV_one_len {b : List Int} (h : howV b = 1) : b.length = 1 ∨ b.length = 2 ∨ b.length = 3 := by
  match b with
  | [] => simp [howV] at h
  | [f] => simp
  | [f, x] => simp
  | [f, x, y] => simp
  | [f, x, y, z] => simp only [howV] at h; split at h <;> simp at h
  | _ :: _ :: _ :: _ :: _ :: _ => simp [howV] at h
/-- Bytes begun, more behind: the first scalar, how many bytes, is there one. -/
def scanV (pre : List Int) : List Int → Int × Int × Bool
  | [] => (0, (pre.length : Int), false)
  | x :: r => if howV (pre ++ [x]) = 2 then (ofV (pre ++ [x]), (pre.length : Int) + 1, true) else if howV (pre ++ [x]) = 1 then scanV (pre ++ [x]) r else (0, (pre.length : Int), false)
/-- All scalars; the place behind, or where it is none. -/
def allV (pre : List Int) (acc : List Int) (at_ : Int) : List Int → List Int × Int × Bool
  | [] => if pre = [] then (acc, at_, true) else ([], at_, false)
  | x :: r => if howV (pre ++ [x]) = 2 then allV [] (acc ++ [ofV (pre ++ [x])]) (at_ + 1) r else if howV (pre ++ [x]) = 1 then allV (pre ++ [x]) acc (at_ + 1) r else ([], at_, false)
theorem scanV_ge (r : List Int) : ∀ pre : List Int, (pre.length : Int) ≤ (scanV pre r).2.1 ∧ (scanV pre r).2.1 ≤ pre.length + r.length ∧ ((scanV pre r).2.2 = true → (pre.length : Int) < (scanV pre r).2.1) := by
  induction r with
  | nil => intro pre; simp [scanV]
  | cons y r ih =>
    intro pre
    simp only [scanV]
    split
    · simp; omega
    · split
      · have := ih (pre ++ [y]); simp at this ⊢; omega
      · simp; omega
theorem allV_scan (rest : List Int) : ∀ (pre acc : List Int) (at_ c n : Int) (b : Bool), scanV pre rest = (c, n, b) → allV pre acc at_ rest =
    if b = true then allV [] (acc ++ [c]) (at_ - pre.length + n) (rest.drop (n - pre.length).toNat)
    else if rest = [] ∧ pre = [] then (acc, at_, true) else ([], at_ - pre.length + n, false) := by
  induction rest with
  | nil =>
    intro pre acc at_ c n b hs
    simp only [scanV, Prod.mk.injEq] at hs
    obtain ⟨rfl, rfl, rfl⟩ := hs
    simp only [allV, Bool.false_eq_true, if_false]
    by_cases h : pre = []
    · simp [h]
    · simp only [h, if_false, and_false]
      rw [show at_ - (pre.length : Int) + pre.length = at_ by omega]
  | cons x r ih =>
    intro pre acc at_ c n b hs
    simp only [scanV] at hs
    simp only [allV]
    by_cases h2 : howV (pre ++ [x]) = 2
    · rw [if_pos h2] at hs ⊢
      simp only [Prod.mk.injEq] at hs
      obtain ⟨rfl, rfl, rfl⟩ := hs
      rw [if_pos rfl, show ((pre.length : Int) + 1 - pre.length).toNat = 1 by omega, show at_ - (pre.length : Int) + ((pre.length : Int) + 1) = at_ + 1 by omega]
      rfl
    · rw [if_neg h2] at hs ⊢
      by_cases h1 : howV (pre ++ [x]) = 1
      · rw [if_pos h1] at hs ⊢
        have hl : ((pre ++ [x]).length : Int) = pre.length + 1 := by simp
        have hn := (scanV_ge r (pre ++ [x])).1
        rw [hs, hl] at hn
        simp only at hn
        rw [ih (pre ++ [x]) acc (at_ + 1) c n b hs, hl]
        cases b with
        | true =>
          rw [if_pos rfl, if_pos rfl, show at_ + 1 - ((pre.length : Int) + 1) + n = at_ - pre.length + n by omega, show (n - (pre.length : Int)).toNat = (n - ((pre.length : Int) + 1)).toNat + 1 by omega]
          rfl
        | false =>
          rw [if_neg (show ¬ (false = true) by decide), if_neg (show ¬ (false = true) by decide), if_neg (show ¬ (r = [] ∧ pre ++ [x] = []) by simp), if_neg (show ¬ (x :: r = [] ∧ pre = []) by simp), show at_ + 1 - ((pre.length : Int) + 1) + n = at_ - pre.length + n by omega]
      · rw [if_neg h1] at hs ⊢
        simp only [Prod.mk.injEq] at hs
        obtain ⟨rfl, rfl, rfl⟩ := hs
        rw [if_neg (by decide), if_neg (by simp), show at_ - (pre.length : Int) + pre.length = at_ by omega]

/-! ### The reader's Push, plainly -/
theorem tail_bits (x : Int) (h0 : 0 ≤ x) (h1 : x ≤ 255) : (Go.bits .andNot .u8 x 63 != 128) = !(tailV x) := by
  have h : ∀ j : Fin 256, (Go.bits .andNot .u8 (j.1 : Int) 63 != 128) = !(tailV (j.1 : Int)) := by decide +kernel
  obtain ⟨n, rfl⟩ := Int.eq_ofNat_of_zero_le h0
  exact h ⟨n, by omega⟩
theorem and_u8_63 (x : Int) (h0 : 0 ≤ x) (h1 : x ≤ 255) : Go.bits .and .u8 x 63 = x % 64 := u8_and63 x h0 (by omega)
theorem lows_val (i : Int) (h0 : 0 ≤ i) (h1 : i < 21) : bt (⟨#[160, 128, 128, 128, 128, 128, 128, 128, 128, 128, 128, 128, 128, 128, 128, 128, 144, 128, 128, 128, 128]⟩ : ByteArray) i = if i = 0 then 160 else if i = 16 then 144 else 128 := by
  have h : ∀ j : Fin 21, bt (⟨#[160, 128, 128, 128, 128, 128, 128, 128, 128, 128, 128, 128, 128, 128, 128, 128, 144, 128, 128, 128, 128]⟩ : ByteArray) (j.1 : Int) = if (j.1 : Int) = 0 then 160 else if (j.1 : Int) = 16 then 144 else 128 := by decide +kernel
  obtain ⟨n, rfl⟩ := Int.eq_ofNat_of_zero_le h0
  exact h ⟨n, by omega⟩
theorem highs_val (i : Int) (h0 : 0 ≤ i) (h1 : i < 21) : bt (⟨#[191, 191, 191, 191, 191, 191, 191, 191, 191, 191, 191, 191, 191, 159, 191, 191, 191, 191, 191, 191, 143]⟩ : ByteArray) i = if i = 13 then 159 else if i = 20 then 143 else 191 := by
  have h : ∀ j : Fin 21, bt (⟨#[191, 191, 191, 191, 191, 191, 191, 191, 191, 191, 191, 191, 191, 159, 191, 191, 191, 191, 191, 191, 143]⟩ : ByteArray) (j.1 : Int) = if (j.1 : Int) = 13 then 159 else if (j.1 : Int) = 20 then 143 else 191 := by decide +kernel
  obtain ⟨n, rfl⟩ := Int.eq_ofNat_of_zero_le h0
  exact h ⟨n, by omega⟩
theorem second_val (f x : Int) (h0 : 0 ≤ f) (h1 : f ≤ 244) : utf8_second.f f x = some (secV f x) := by
  unfold utf8_second.f secV
  by_cases c : f < 224
  · rw [if_pos c]
    by_cases d : x ≥ 128
    · rw [if_pos d]
      congr 1
      rw [Bool.eq_iff_iff]
      simp only [decide_eq_true_eq]
      omega
    · rw [if_neg d]
      congr 1
      symm
      simp only [decide_eq_false_iff_not]
      omega
  · have e : (f - 224) % 256 = f - 224 := by omega
    rw [if_neg c, e, if_pos (show 0 ≤ f - 224 by omega), if_pos (show f - 224 < 21 by omega), lows_val _ (by omega) (by omega), highs_val _ (by omega) (by omega)]
    by_cases d : x ≥ (if f - 224 = 0 then 160 else if f - 224 = 16 then 144 else 128)
    · rw [if_pos d]
      congr 1
      rw [Bool.eq_iff_iff]
      simp only [decide_eq_true_eq]
      split at d
      · split <;> omega
      · split at d <;> ((repeat' split) <;> omega)
    · rw [if_neg d]
      congr 1
      symm
      simp only [decide_eq_false_iff_not]
      split at d
      · omega
      · split at d <;> omega
theorem size_val (x : Int) (h0 : 0 ≤ x) (h1 : x ≤ 255) : utf8_size.f x = some (szV x) := by
  unfold utf8_size.f
  rw [if_pos ⟨h0, h1⟩]
  rfl
/-- A reader that has begun these bytes. -/
def StV (pre : List Int) (f c n need : Int) : Prop := n = pre.length ∧ ∀ a r, pre = a :: r → f = a ∧ need = szV a ∧ c = ofV pre
theorem howV_one_sz {a : Int} {r : List Int} (h : howV (a :: r) = 1) : (r.length : Int) + 1 < szV a ∧ szV a ≤ 4 := by
  have hz := szV_range a
  match r with
  | [] => simp only [howV] at h; simp; split at h <;> (try split at h) <;> omega
  | [x] => simp only [howV] at h; simp; split at h <;> (try split at h) <;> omega
  | [x, y] => simp only [howV] at h; simp; split at h <;> (try split at h) <;> omega
  | [x, y, z] => simp only [howV] at h; split at h <;> omega
  | _ :: _ :: _ :: _ :: _ => simp [howV] at h
theorem szV_bounds (a : Int) : (szV a = 1 → a < 128) ∧ (szV a = 2 → 194 ≤ a ∧ a < 224) ∧ (szV a = 3 → 224 ≤ a ∧ a < 240) ∧ (szV a = 4 → 240 ≤ a ∧ a < 245) := by
  unfold szV
  (repeat' split) <;> omega
theorem ofV_bound {a : Int} {r : List Int} (hb : Byt (a :: r)) (h : howV (a :: r) = 1) : 0 ≤ ofV (a :: r) ∧ ofV (a :: r) < 2097152 ∧ (r.length = 0 → ofV (a :: r) < 64) ∧ (r.length = 1 → ofV (a :: r) < 4096) := by
  have ha := hb a (by simp)
  have hz := szV_bounds a
  have hs := howV_one_sz h
  have hbase : 0 ≤ a - baseV a ∧ a - baseV a < 64 := by
    unfold baseV
    have hz := szV_range a
    have h5 : szV a = 2 ∨ szV a = 3 ∨ szV a = 4 := by
      have : 1 < szV a := by have : (0 : Int) ≤ r.length := by omega
                             omega
      omega
    (repeat' split) <;> omega
  match r with
  | [] => simp only [ofV]; simp; omega
  | [x] =>
    simp only [howV] at h
    have hx : secV a x = true := by
      cases hx : secV a x
      · simp [hx] at h
      · rfl
    simp only [secV, decide_eq_true_eq] at hx
    simp only [ofV]
    simp
    omega
  | [x, y] =>
    simp only [howV] at h
    have hx : secV a x = true := by
      cases hx : secV a x
      · simp [hx] at h
      · rfl
    have hy : tailV y = true := by
      cases hy : tailV y
      · simp [hy] at h
      · rfl
    simp only [secV, decide_eq_true_eq] at hx
    simp only [tailV, decide_eq_true_eq] at hy
    have h3 : a - baseV a < 16 := by
      have hlen : szV a = 4 := by
        have := hs.1
        simp at this
        omega
      have := hz.2.2.2 hlen
      unfold baseV
      (repeat' split) <;> omega
    simp only [ofV]
    simp
    omega
  | [x, y, z] => have := hs.1; simp at this; omega
  | _ :: _ :: _ :: _ :: _ => simp [howV] at h
theorem secV_tail {f x : Int} (h : secV f x = true) : tailV x = true := by
  simp only [secV, decide_eq_true_eq] at h
  simp only [tailV, decide_eq_true_eq]
  omega
theorem tail_mod {x : Int} (h : tailV x = true) : x % 64 = x - 128 := by
  simp only [tailV, decide_eq_true_eq] at h
  omega
theorem shr_mask (x : Int) (h0 : 0 ≤ x) (h1 : x ≤ 255) (hz : szV x = 2 ∨ szV x = 3 ∨ szV x = 4) : Go.bits .and .i32 (wrap32 x) (shr .i32 127 (szV x)) = x - baseV x := by
  have e : wrap32 x = x := by unfold wrap32; omega
  have hb := szV_bounds x
  rw [e]
  have m5 : Go.bits .and .i32 x 31 = x % 32 := bits_mask .i32 31 (by decide) wraps_i32 5 (by decide) x h0 (by omega)
  have m4 : Go.bits .and .i32 x 15 = x % 16 := bits_mask .i32 31 (by decide) wraps_i32 4 (by decide) x h0 (by omega)
  have m3 : Go.bits .and .i32 x 7 = x % 8 := bits_mask .i32 31 (by decide) wraps_i32 3 (by decide) x h0 (by omega)
  rcases hz with hz | hz | hz
  · have := hb.2.1 hz
    rw [hz, show shr .i32 127 2 = 31 from rfl, m5]
    unfold baseV
    (repeat' split) <;> omega
  · have := hb.2.2.1 hz
    rw [hz, show shr .i32 127 3 = 15 from rfl, m4]
    unfold baseV
    (repeat' split) <;> omega
  · have := hb.2.2.2 hz
    rw [hz, show shr .i32 127 4 = 7 from rfl, m3]
    unfold baseV
    (repeat' split) <;> omega
theorem or_step (c x : Int) (hc0 : 0 ≤ c) (hc1 : c < 2097152) (hx : tailV x = true) : Go.bits .or .i32 (wrap32 (c * 64)) (wrap32 (Go.bits .and .u8 x 63)) = c * 64 + (x - 128) := by
  have hx' := hx
  simp only [tailV, decide_eq_true_eq] at hx'
  rw [and_u8_63 x (by omega) (by omega), tail_mod hx]
  have e1 : wrap32 (c * 64) = c * 64 := by unfold wrap32; omega
  have e2 : wrap32 (x - 128) = x - 128 := by unfold wrap32; omega
  rw [e1, e2]
  exact i32_or6 _ _ (by omega) (by omega) (by omega) (by omega) (by omega)
theorem push_first (k : Nat) (f c need x : Int) (h0 : 0 ≤ x) (h1 : x ≤ 255) :
    utf8_Reader_Push.f (k + 5) f c 0 need x = if szV x = 1 then some (x, 2, f, c, 0, need) else if szV x = 0 then some (0, 3, f, c, 0, need) else some (0, 1, x, x - baseV x, 1, szV x) := by
  have hr := szV_range x
  have hsz := size_val x h0 h1
  have ew : wrap32 x = x := by unfold wrap32; omega
  unfold utf8_Reader_Push.f
  simp only [hsz, Option.bind_some, if_true, utf8_Reader_Push.j0, utf8_Reader_Push.j1]
  by_cases c1 : szV x = 1
  · simp [c1, ew]
  · by_cases c0 : szV x = 0
    · simp [c0]
    · have hm := shr_mask x h0 h1 (by omega)
      rw [ew] at hm
      have hp : 0 ≤ szV x := by omega
      simp [c1, c0, hp, ew, hm]
theorem push_more (k : Nat) (a : Int) (r : List Int) (x : Int) (hb : Byt (a :: r)) (hw : howV (a :: r) = 1) (h0 : 0 ≤ x) (h1 : x ≤ 255) :
    utf8_Reader_Push.f (k + 5) a (ofV (a :: r)) ((r.length : Int) + 1) (szV a) x =
      if (r = [] ∧ secV a x = false) ∨ tailV x = false then some (0, 3, a, ofV (a :: r), (r.length : Int) + 1, szV a)
      else if (r.length : Int) + 2 < szV a then some (0, 1, a, ofV (a :: r) * 64 + (x - 128), (r.length : Int) + 2, szV a)
      else some (ofV (a :: r) * 64 + (x - 128), 2, a, ofV (a :: r) * 64 + (x - 128), 0, szV a) := by
  have ha := hb a (by simp)
  have hs := howV_one_sz hw
  have hz := szV_bounds a
  have hr := szV_range a
  have ho := ofV_bound hb hw
  have ha4 : a ≤ 244 := by
    have : (0 : Int) ≤ r.length := by omega
    rcases hr with hr | hr | hr | hr | hr <;> omega
  have hlen : (0 : Int) ≤ r.length := by omega
  have hne : ¬ ((r.length : Int) + 1 = 0) := by omega
  have hsec := second_val a x ha.1 ha4
  have htb := tail_bits x h0 h1
  have ew : wrap64 ((r.length : Int) + 1 + 1) = (r.length : Int) + 2 := by unfold wrap64; omega
  unfold utf8_Reader_Push.f
  rw [if_neg hne]
  simp only [utf8_Reader_Push.j0, Bool.false_eq_true, if_false, hne, utf8_Reader_Push.j1]
  have j3 : ∀ (q : Nat) (b : Bool), utf8_Reader_Push.j3 (q + 1) x b a (ofV (a :: r)) ((r.length : Int) + 1) (szV a) = if b = true then some (0, 3, a, ofV (a :: r), (r.length : Int) + 1, szV a) else
      if (r.length : Int) + 2 < szV a then some (0, 1, a, Go.bits .or .i32 (wrap32 (ofV (a :: r) * 64)) (wrap32 (Go.bits .and .u8 x 63)), (r.length : Int) + 2, szV a)
      else some (Go.bits .or .i32 (wrap32 (ofV (a :: r) * 64)) (wrap32 (Go.bits .and .u8 x 63)), 2, a, Go.bits .or .i32 (wrap32 (ofV (a :: r) * 64)) (wrap32 (Go.bits .and .u8 x 63)), 0, szV a) := by
    intro q b
    simp only [utf8_Reader_Push.j3, ew]
  have j2 : ∀ (q : Nat) (b : Bool), utf8_Reader_Push.j2 (q + 2) x b a (ofV (a :: r)) ((r.length : Int) + 1) (szV a) = if (b = true ∨ tailV x = false) then some (0, 3, a, ofV (a :: r), (r.length : Int) + 1, szV a) else
      if (r.length : Int) + 2 < szV a then some (0, 1, a, ofV (a :: r) * 64 + (x - 128), (r.length : Int) + 2, szV a)
      else some (ofV (a :: r) * 64 + (x - 128), 2, a, ofV (a :: r) * 64 + (x - 128), 0, szV a) := by
    intro q b
    simp only [utf8_Reader_Push.j2, j3, htb]
    cases b with
    | true => simp
    | false =>
      cases ht : tailV x with
      | false => simp
      | true => simp [or_step _ x ho.1 ho.2.1 ht]
  by_cases hn : r = []
  · subst hn
    simp only [List.length_nil]
    have e1 : ((0 : Nat) : Int) + 1 = 1 := rfl
    have := j2 (k + 1) (!(secV a x))
    simp only [List.length_nil] at this
    simp only [hsec, Option.bind_some]
    rw [if_pos (by rfl), this]
    cases secV a x <;> simp
  · have h1' : ¬ ((r.length : Int) + 1 = 1) := by
      have : r.length ≠ 0 := by simpa using hn
      omega
    rw [if_neg h1', j2 (k + 1) false]
    simp [hn]

/-! ### One byte more -/
theorem how_more (a : Int) (r : List Int) (x : Int) (hw : howV (a :: r) = 1) :
    howV (a :: r ++ [x]) = (if (r = [] ∧ secV a x = false) ∨ tailV x = false then 0 else if (r.length : Int) + 2 < szV a then 1 else 2) ∧ ofV (a :: r ++ [x]) = ofV (a :: r) * 64 + (x - 128) := by
  have hs := howV_one_sz hw
  have hst : secV a x = true → tailV x = true := secV_tail
  match r with
  | [] =>
    simp only [List.length_nil] at hs
    refine ⟨?_, rfl⟩
    show howV [a, x] = _
    simp only [howV]
    cases hx : secV a x with
    | false => simp
    | true =>
      rw [hst hx]
      simp
      (repeat' split) <;> omega
  | [b] =>
    simp only [List.length_cons, List.length_nil] at hs
    simp only [howV] at hw
    have hb : secV a b = true := by
      cases hb : secV a b
      · simp [hb] at hw
      · rfl
    refine ⟨?_, rfl⟩
    show howV [a, b, x] = _
    simp only [howV, hb]
    cases ht : tailV x with
    | false => simp
    | true =>
      simp
      (repeat' split) <;> omega
  | [b, c] =>
    simp only [List.length_cons, List.length_nil] at hs
    simp only [howV] at hw
    have hb : secV a b = true := by
      cases hb : secV a b
      · simp [hb] at hw
      · rfl
    have hc : tailV c = true := by
      cases hc : tailV c
      · simp [hc] at hw
      · rfl
    refine ⟨?_, rfl⟩
    show howV [a, b, c, x] = _
    simp only [howV, hb, hc]
    cases ht : tailV x with
    | false => simp
    | true =>
      simp
      (repeat' split) <;> omega
  | [b, c, d] => simp only [List.length_cons, List.length_nil] at hs; omega
  | _ :: _ :: _ :: _ :: _ => simp [howV] at hw
theorem how_first (x : Int) (h0 : 0 ≤ x) : howV [x] = (if szV x = 1 then 2 else if szV x = 0 then 0 else 1) ∧ (szV x = 1 → ofV [x] = x) ∧ ofV [x] = x - baseV x := by
  refine ⟨rfl, fun h => ?_, rfl⟩
  have := (szV_bounds x).1 h
  simp only [ofV, baseV]
  rw [if_pos this]
  omega
theorem push_val (k : Nat) (pre : List Int) (f c n need x : Int) (hp : pre = [] ∨ howV pre = 1) (hb : Byt pre) (hs : StV pre f c n need) (h0 : 0 ≤ x) (h1 : x ≤ 255) :
    ∃ f' c' n' need', utf8_Reader_Push.f (k + 5) f c n need x = some (if howV (pre ++ [x]) = 2 then ofV (pre ++ [x]) else 0, if howV (pre ++ [x]) = 2 then 2 else if howV (pre ++ [x]) = 1 then 1 else 3, f', c', n', need') ∧
      (howV (pre ++ [x]) = 2 → StV [] f' c' n' need') ∧ (howV (pre ++ [x]) = 1 → StV (pre ++ [x]) f' c' n' need') ∧ (howV (pre ++ [x]) = 0 → f' = f ∧ c' = c ∧ n' = n ∧ need' = need) := by
  match pre, hp with
  | [], _ =>
    obtain ⟨hn, _⟩ := hs
    simp only [List.length_nil] at hn
    obtain rfl : n = 0 := hn
    obtain ⟨e1, e2, e3⟩ := how_first x h0
    simp only [List.nil_append]
    simp only [push_first k f c need x h0 h1, e1]
    by_cases c1 : szV x = 1
    · simp only [c1, if_true]
      exact ⟨f, c, 0, need, by rw [e2 c1], fun _ => ⟨rfl, fun _ _ h => by cases h⟩, (fun h => by cases h), (fun h => by cases h)⟩
    · by_cases c0 : szV x = 0
      · simp only [c1, c0, if_true, if_false]
        exact ⟨f, c, 0, need, by simp, fun h => by simp at h, fun h => by simp at h, fun _ => ⟨rfl, rfl, rfl, rfl⟩⟩
      · simp only [c1, c0, if_false]
        exact ⟨x, x - baseV x, 1, szV x, by simp, fun h => by simp at h, fun _ => ⟨rfl, fun a r h => by injection h with h1 h2; subst h1; exact ⟨rfl, rfl, rfl⟩⟩, fun h => by simp at h⟩
  | a :: r, hp =>
    have hw : howV (a :: r) = 1 := hp.resolve_left (by simp)
    obtain ⟨hn, hs⟩ := hs
    obtain ⟨rfl, rfl, rfl⟩ := hs a r rfl
    obtain ⟨e1, e2⟩ := how_more f r x hw
    have hn' : n = (r.length : Int) + 1 := by simpa using hn
    subst hn'
    simp only [push_more k f r x hb hw h0 h1, e1, e2]
    by_cases c0 : (r = [] ∧ secV f x = false) ∨ tailV x = false
    · simp only [c0, if_true]
      exact ⟨f, ofV (f :: r), (r.length : Int) + 1, szV f, by simp, fun h => by simp at h, fun h => by simp at h, fun _ => ⟨rfl, rfl, rfl, rfl⟩⟩
    · simp only [c0, if_false]
      by_cases c1 : (r.length : Int) + 2 < szV f
      · simp only [c1, if_true]
        exact ⟨f, ofV (f :: r) * 64 + (x - 128), (r.length : Int) + 2, szV f, by simp, fun h => by simp at h, fun _ => ⟨by simp; omega, fun a q h => by
          simp only [List.cons_append] at h
          injection h with h1 h2
          subst h1
          subst h2
          exact ⟨rfl, rfl, e2.symm⟩⟩, fun h => by simp at h⟩
      · simp only [c1, if_false]
        exact ⟨f, ofV (f :: r) * 64 + (x - 128), 0, szV f, by simp, fun _ => ⟨rfl, fun _ _ h => by cases h⟩, fun h => by simp at h, fun h => by simp at h⟩
theorem push_none (k : Nat) : True := trivial
theorem rd_mid (pre : List Int) (x : Int) (r : List Int) (i : Int) (hi : i = pre.length) : rd (pre ++ x :: r) i = x := by
  subst hi
  simp [rd]
theorem byt_append {xs ys : List Int} : Byt (xs ++ ys) ↔ Byt xs ∧ Byt ys := by
  unfold Byt
  constructor
  · intro h
    exact ⟨fun x hx => h x (List.mem_append_left _ hx), fun x hx => h x (List.mem_append_right _ hx)⟩
  · rintro ⟨h1, h2⟩ x hx
    rcases List.mem_append.1 hx with hx | hx
    · exact h1 x hx
    · exact h2 x hx
theorem how_cases {b : List Int} : (howV b = 2 ∧ howV b ≠ 1 ∧ howV b ≠ 0) ∨ (howV b = 1 ∧ howV b ≠ 2 ∧ howV b ≠ 0) ∨ (howV b = 0 ∧ howV b ≠ 2 ∧ howV b ≠ 1) := by
  have := howV_range b
  omega
/-! ### First, All -/
theorem rd_drop (xs : List Int) (i : Int) (x : Int) (r : List Int) (h0 : 0 ≤ i) (h : xs.drop i.toNat = x :: r) : rd xs i = x ∧ i.toNat < xs.length ∧ xs.drop (i + 1).toNat = r := by
  have hlt : i.toNat < xs.length := by
    have := congrArg List.length h
    simp at this
    omega
  refine ⟨?_, hlt, ?_⟩
  · have := congrArg (fun l => l[0]?) h
    simp at this
    simp [rd, List.getD_eq_getElem?_getD, this]
  · rw [show (i + 1).toNat = i.toNat + 1 by omega, ← List.drop_drop, h]
    rfl
theorem byt_drop {xs : List Int} (h : Byt xs) (n : Nat) : Byt (xs.drop n) := fun x hx => h x (List.mem_of_mem_drop hx)
theorem all_l0 (rest : List Int) : ∀ (k : Nat) (x0 pre acc : List Int) (i f c n need : Int), 0 ≤ i → x0.drop i.toNat = rest → i ≤ x0.length → Byt x0 → x0.length < 1000000000000 → Byt pre → (pre = [] ∨ howV pre = 1) → StV pre f c n need → (acc.length : Int) ≤ i → rest.length + 6 < k →
    utf8_All.l0 k x0 acc x0 (x0.length : Int) i f c n need = some (allV pre acc i rest) := by
  induction rest with
  | nil =>
    intro k x0 pre acc i f c n need h0 hx hi hb hl hbp hp hs ha hk
    obtain ⟨k, rfl⟩ : ∃ m, k = m + 1 := ⟨k - 1, by omega⟩
    have hlen : (x0.length : Int) = i := by
      have := congrArg List.length hx
      simp at this
      omega
    simp only [utf8_All.l0, allV]
    rw [if_neg (by omega)]
    unfold utf8_Reader_Left.f
    simp only [Option.bind_some]
    obtain ⟨hn, _⟩ := hs
    by_cases hpe : pre = []
    · subst hpe
      simp only [List.length_nil] at hn
      rw [if_neg (by omega), if_pos rfl, hlen]
    · have : pre.length ≠ 0 := by simpa using hpe
      rw [if_pos (by omega), if_neg hpe, hlen]
  | cons x r ih =>
    intro k x0 pre acc i f c n need h0 hx hi hb hl hbp hp hs ha hk
    obtain ⟨k, rfl⟩ : ∃ m, k = m + 1 := ⟨k - 1, by omega⟩
    obtain ⟨k', rfl⟩ : ∃ m, k = m + 5 := ⟨k - 5, by simp at hk; omega⟩
    obtain ⟨hrd, hlt, hdrop⟩ := rd_drop x0 i x r h0 hx
    have hx0 : 0 ≤ x ∧ x ≤ 255 := hb x (List.mem_of_mem_drop (by rw [hx]; simp))
    obtain ⟨f', c', n', need', hpush, h2, h1, _⟩ := push_val k' pre f c n need x hp hbp hs hx0.1 hx0.2
    have ew : wrap64 (i + 1) = i + 1 := by unfold wrap64; omega
    simp only [utf8_All.l0]
    rw [if_pos (by omega), if_pos (by omega), if_pos (by omega), hrd, hpush]
    simp only [Option.bind_some, allV]
    rcases how_cases (b := pre ++ [x]) with ⟨q2, q1, q0⟩ | ⟨q1, q2, q0⟩ | ⟨q0, q2, q1⟩
    · simp only [q2, if_true]
      rw [if_pos (by omega), ew]
      exact ih (k' + 5) x0 [] _ (i + 1) f' c' n' need' (by omega) hdrop (by omega) hb hl (fun _ h => by cases h) (.inl rfl) (h2 q2) (by simp; omega) (by simp at hk ⊢; omega)
    · simp only [q1, if_true, if_false]
      simp only [Int.reduceEq, if_false, ew]
      exact ih (k' + 5) x0 (pre ++ [x]) acc (i + 1) f' c' n' need' (by omega) hdrop (by omega) hb hl (byt_append.2 ⟨hbp, fun y hy => by simp at hy; rw [hy]; exact hx0⟩) (.inr q1) (h1 q1) (by omega) (by simp at hk ⊢; omega)
    · simp only [q0]
      simp
theorem all_val (k : Nat) (xs : List Int) (hb : Byt xs) (hl : xs.length < 1000000000000) (hk : xs.length + 6 < k) : utf8_All.f k xs = some (allV [] [] 0 xs) := by
  unfold utf8_All.f utf8_New.f
  simp only [Option.bind_some]
  rw [if_pos (by omega), if_pos (by omega)]
  exact all_l0 xs k xs [] [] 0 0 0 0 0 (by omega) rfl (by omega) hb hl (fun _ h => by cases h) (.inl rfl) ⟨rfl, fun _ _ h => by cases h⟩ (by simp) hk

/-! ### Scalars as bytes -/
def isScal (c : Int) : Bool := decide (0 ≤ c ∧ c ≤ 1114111 ∧ (c < 55296 ∨ c > 57343))
def encV (c : Int) : List Int :=
  if isScal c = true then (if c < 128 then [c] else if c < 2048 then [192 + c / 64, 128 + c % 64] else if c < 65536 then [224 + c / 4096, 128 + c / 64 % 64, 128 + c % 64]
    else [240 + c / 262144, 128 + c / 4096 % 64, 128 + c / 64 % 64, 128 + c % 64]) else []
theorem is_val (c : Int) : scalar_Is.f c = some (isScal c) := by
  unfold scalar_Is.f isScal
  (repeat' split) <;> (congr 1; rw [Bool.eq_iff_iff]; simp only [decide_eq_true_eq, Bool.false_eq_true, true_iff, false_iff, iff_true, iff_false]; omega)
theorem ris_val (c : Int) : orthoepyref01_Is.f c = some (isScal c) := by
  unfold orthoepyref01_Is.f isScal
  (repeat' split) <;> (congr 1; rw [Bool.eq_iff_iff]; simp only [decide_eq_true_eq, Bool.false_eq_true, true_iff, false_iff, iff_true, iff_false]; omega)
theorem or_i32 (a y : Int) (i : Nat) (hi : i ≤ 31) (ha : 0 ≤ a) (ha1 : a < 2147483648) (hm : a % 2 ^ i = 0) (h0 : 0 ≤ y) (h1 : y < 2 ^ i) (h2 : y < 2147483648) : Go.bits .or .i32 a y = a + y :=
  bits_join .i32 31 (by decide) wraps_i32 i a y ha hm ha1 h0 h1 h2
theorem and63 (x : Int) (h0 : 0 ≤ x) (h1 : x < 2147483648) : Go.bits .and .i32 x 63 = x % 64 := bits_mask .i32 31 (by decide) wraps_i32 6 (by decide) x h0 h1
theorem encV_byt (c : Int) : Byt (encV c) ∧ (encV c).length ≤ 4 := by
  unfold encV
  cases hs : isScal c with
  | false => simp [Byt]
  | true =>
    simp only [isScal, decide_eq_true_eq] at hs
    simp only [if_true]
    (repeat' split) <;> (refine ⟨?_, by simp⟩; intro x hx; simp only [List.mem_cons, List.not_mem_nil, or_false] at hx; omega)
theorem sz_of (a : Int) : (0 ≤ a ∧ a < 128 → szV a = 1) ∧ (194 ≤ a ∧ a < 224 → szV a = 2) ∧ (224 ≤ a ∧ a < 240 → szV a = 3) ∧ (240 ≤ a ∧ a < 245 → szV a = 4) := by
  unfold szV
  (repeat' split) <;> omega
theorem base_of (a : Int) : (0 ≤ a ∧ a < 128 → baseV a = 0) ∧ (194 ≤ a ∧ a < 224 → baseV a = 192) ∧ (224 ≤ a ∧ a < 240 → baseV a = 224) ∧ (240 ≤ a → baseV a = 240) := by
  unfold baseV
  (repeat' split) <;> omega
theorem allV_enc (c : Int) (hs : isScal c = true) (acc r : List Int) (at_ : Int) : allV [] acc at_ (encV c ++ r) = allV [] (acc ++ [c]) (at_ + (encV c).length) r := by
  have hs' := hs
  simp only [isScal, decide_eq_true_eq] at hs'
  unfold encV
  rw [if_pos hs]
  by_cases c1 : c < 128
  · have e := (sz_of c).1 ⟨by omega, c1⟩
    have b := (base_of c).1 ⟨by omega, c1⟩
    rw [if_pos c1]
    simp [allV, howV, e, ofV, b]
  · rw [if_neg c1]
    by_cases c2 : c < 2048
    · have e := (sz_of (192 + c / 64)).2.1 (by omega)
      have b := (base_of (192 + c / 64)).2.1 (by omega)
      have s : secV (192 + c / 64) (128 + c % 64) = true := by simp only [secV, decide_eq_true_eq]; omega
      have o : (192 + c / 64 - 192) * 64 + (128 + c % 64 - 128) = c := by omega
      rw [if_pos c2]
      simp [allV, howV, e, s, ofV, b]
      rw [show (192 + c / 64 - 192) * 64 + (128 + c % 64 - 128) = c by omega, show at_ + 1 + 1 = at_ + 2 by omega]
    · rw [if_neg c2]
      by_cases c3 : c < 65536
      · have e := (sz_of (224 + c / 4096)).2.2.1 (by omega)
        have b := (base_of (224 + c / 4096)).2.2.1 (by omega)
        have s : secV (224 + c / 4096) (128 + c / 64 % 64) = true := by simp only [secV, decide_eq_true_eq]; omega
        have t : tailV (128 + c % 64) = true := by simp only [tailV, decide_eq_true_eq]; omega
        rw [if_pos c3]
        simp [allV, howV, e, s, t, ofV, b]
        rw [show ((224 + c / 4096 - 224) * 64 + (128 + c / 64 % 64 - 128)) * 64 + (128 + c % 64 - 128) = c by omega, show at_ + 1 + 1 + 1 = at_ + 3 by omega]
      · have e := (sz_of (240 + c / 262144)).2.2.2 (by omega)
        have b := (base_of (240 + c / 262144)).2.2.2 (by omega)
        have s : secV (240 + c / 262144) (128 + c / 4096 % 64) = true := by simp only [secV, decide_eq_true_eq]; omega
        have t : tailV (128 + c / 64 % 64) = true := by simp only [tailV, decide_eq_true_eq]; omega
        have t' : tailV (128 + c % 64) = true := by simp only [tailV, decide_eq_true_eq]; omega
        rw [if_neg c3]
        simp [allV, howV, e, s, t, t', ofV, b]
        rw [show (((240 + c / 262144 - 240) * 64 + (128 + c / 4096 % 64 - 128)) * 64 + (128 + c / 64 % 64 - 128)) * 64 + (128 + c % 64 - 128) = c by omega, show at_ + 1 + 1 + 1 + 1 = at_ + 4 by omega]
def textV (l : List Int) : List Int := l.flatMap encV
theorem textV_cons (c : Int) (l : List Int) : textV (c :: l) = encV c ++ textV l := by simp [textV]
theorem textV_snoc (l : List Int) (c : Int) : textV (l ++ [c]) = textV l ++ encV c := by simp [textV]
theorem textV_len (l : List Int) : (textV l).length ≤ 4 * l.length := by
  induction l with
  | nil => simp [textV]
  | cons c l ih => rw [textV_cons]; have := (encV_byt c).2; simp; omega
theorem textV_byt (l : List Int) : Byt (textV l) := by
  intro x hx
  obtain ⟨c, _, hc⟩ := List.mem_flatMap.1 hx
  exact (encV_byt c).1 x hc
theorem allV_text (l : List Int) (h : ∀ c ∈ l, isScal c = true) : ∀ (acc : List Int) (at_ : Int), allV [] acc at_ (textV l) = (acc ++ l, at_ + (textV l).length, true) := by
  induction l with
  | nil => intro acc at_; simp [textV, allV]
  | cons c l ih =>
    intro acc at_
    rw [textV_cons, allV_enc c (h c (by simp)), ih (fun c hc => h c (by simp [hc]))]
    simp
    omega

end Go.Proofs.Ytajinnlaajhoeaa.Pure
