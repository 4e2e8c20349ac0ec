/- Of whatever texts: which is less, in which order all are, is as the document has it; no condition. -/
import Derived.Test.YtajinnlaajhoeaaPTwox1
import Derived.Test.YtajinnlaajhoeaaPTwox2
namespace Go.Proofs.Ytajinnlaajhoeaa.Pure
open Go.RowKit Go.Proofs.Ytajinnlaajhoeaa.PTwo Go.Proofs.YtajinnlaajhoeaaW.PrintWords Go.Proofs.YtajinnlaajhoeaaW.PrintLast Go.Proofs.YtajinnlaajhoeaaW.PrintMore
set_option linter.unusedVariables false
set_option linter.unusedSimpArgs false

/-! ### What the printed functions tell, plainly -/
def rightV (l : List ByteArray) : Bool := decide (l.length ≤ 40) && l.all (fun s => decide (s.size ≤ 60) && okS s)
theorem rdOf_drop {xs : List ByteArray} {i : Int} {x : ByteArray} {r : List ByteArray} (h0 : 0 ≤ i) (h : xs.drop i.toNat = x :: r) : rdOf ByteArray.empty xs i = x ∧ i.toNat < xs.length ∧ xs.drop (i + 1).toNat = r := by
  have hlt : i.toNat < xs.length := by
    have := congrArg List.length h
    simp at this
    omega
  refine ⟨?_, hlt, ?_⟩
  · have := congrArg (fun l => l[0]?) h
    simp at this
    simp [rdOf, List.getD_eq_getElem?_getD, this]
  · rw [show (i + 1).toNat = i.toNat + 1 by omega, ← List.drop_drop, h]
    rfl
theorem right_l0 (rest : List ByteArray) : ∀ (k : Nat) (x0 : List ByteArray) (i : Int), 0 ≤ i → x0.drop i.toNat = rest → i ≤ x0.length → x0.length ≤ 40 → rest.length < k →
    orthoepylaw21_right.l0 k x0 i = some (rest.all (fun s => decide (s.size ≤ 60) && okS s)) := by
  induction rest with
  | nil =>
    intro k x0 i h0 hx hi hl hk
    obtain ⟨k, rfl⟩ : ∃ m, k = m + 1 := ⟨k - 1, by omega⟩
    have hlen : (x0.length : Int) = i := by
      have := congrArg List.length hx
      simp at this
      omega
    simp only [orthoepylaw21_right.l0]
    rw [if_neg (by omega)]
    rfl
  | cons x r ih =>
    intro k x0 i h0 hx hi hl hk
    obtain ⟨k, rfl⟩ : ∃ m, k = m + 1 := ⟨k - 1, by omega⟩
    obtain ⟨hrd, hlt, hdrop⟩ := rdOf_drop h0 hx
    have ew : wrap64 (i + 1) = i + 1 := by unfold wrap64; omega
    simp only [orthoepylaw21_right.l0, List.all_cons]
    rw [if_pos (by omega), if_pos h0, hrd, ew]
    by_cases h1 : (x.size : Int) > 60
    · rw [if_pos h1, decide_eq_false (by omega)]
      rfl
    · rw [if_neg h1, decide_eq_true (by omega)]
      unfold orthoepyref22_Right.f
      rw [if_pos (by omega), Option.bind_some]
      cases okS x with
      | true =>
        rw [if_pos rfl, ih k x0 (i + 1) (by omega) hdrop (by omega) hl (by simp at hk; omega)]
        simp
      | false => simp
theorem right_val (k : Nat) (l : List ByteArray) (hk : 41 < k) : orthoepylaw21_right.f k l = some (rightV l) := by
  unfold orthoepylaw21_right.f rightV
  by_cases h : (l.length : Int) > 40
  · rw [if_pos h, decide_eq_false (by omega)]
    rfl
  · rw [if_neg h, decide_eq_true (by omega), right_l0 l k l 0 (by omega) rfl (by omega) (by omega) (by omega)]
    rfl
theorem right_yes {l : List ByteArray} (h : rightV l = true) : l.length ≤ 40 ∧ ∀ s ∈ l, s.size ≤ 60 ∧ okS s = true := by
  unfold rightV at h
  simp only [Bool.and_eq_true, decide_eq_true_eq, List.all_eq_true] at h
  exact h
theorem less_f {a b : ByteArray} (ha : a.size ≤ 1000000) (hb : b.size ≤ 1000000) : order_Less.f a b = some (lessS a b) := by
  unfold order_Less.f
  rw [if_pos ⟨ha, hb⟩]
theorem rless_f {a b : ByteArray} (ha : a.size ≤ 1000000) (hb : b.size ≤ 1000000) : orthoepyref21_Less.f a b = some (lessS a b) := by
  unfold orthoepyref21_Less.f
  rw [if_pos ⟨ha, hb⟩]
theorem sort_f {l : List ByteArray} (hl : l.length ≤ 1000) (hs : ∀ s ∈ l, s.size ≤ 1000000) : order_Sort.f l = some (rsortP l) := by
  unfold order_Sort.f
  rw [if_pos ⟨hl, hs⟩]
theorem rsort_f {l : List ByteArray} (hl : l.length ≤ 1000) (hs : ∀ s ∈ l, s.size ≤ 1000000) : orthoepyref21_Sort.f l = some (rsortP l) := by
  unfold orthoepyref21_Sort.f
  rw [if_pos ⟨hl, hs⟩]
theorem merge_f {l : List ByteArray} {ps qs : List Int} (h1 : ps.length ≤ 1000) (h2 : qs.length ≤ 1000) (hs : ∀ s ∈ l, s.size ≤ 1000000) (hp : ∀ p ∈ ps, 0 ≤ p ∧ p < l.length) (hq : ∀ p ∈ qs, 0 ≤ p ∧ p < l.length) : order_Merge.f l ps qs = some (mrgP l ps qs) := by
  unfold order_Merge.f
  rw [if_pos ⟨h1, h2, hs, hp, hq⟩]
theorem same_f {a b : List Int} (h : a.length ≤ 1000000) : orthoepylaw21_same.f a b = some (decide (a = b)) := by
  unfold orthoepylaw21_same.f
  rw [if_pos h]
theorem rdOf_mem {ss : List ByteArray} {p : Int} (h : 0 ≤ p ∧ p < ss.length) : rdOf ByteArray.empty ss p ∈ ss := by
  unfold rdOf
  rw [List.getD_eq_getElem?_getD, List.getElem?_eq_getElem (show p.toNat < ss.length by omega)]
  exact List.getElem_mem _
theorem rsortP_len (ss : List ByteArray) : (rsortP ss).length = ss.length := rsortL_len ss ss.length
theorem rsortP_mem {ss : List ByteArray} {p : Int} (h : p ∈ rsortP ss) : 0 ≤ p ∧ p < ss.length := rsortL_mem ss ss.length h
/-! ### The document's Merge -/
theorem rmerge_l0 (ss : List ByteArray) (hsz : ∀ s ∈ ss, s.size ≤ 1000000) (n : Nat) : ∀ (k : Nat) (x1 x2 acc p q : List Int) (i j : Int), p.length + q.length < n → 0 ≤ i → 0 ≤ j → x1.drop i.toNat = p → x2.drop j.toNat = q → i ≤ x1.length → j ≤ x2.length → x1.length ≤ 1000 → x2.length ≤ 1000 → (acc.length : Int) ≤ i + j →
    (∀ y ∈ x1, 0 ≤ y ∧ y < ss.length) → (∀ y ∈ x2, 0 ≤ y ∧ y < ss.length) → 2 * n ≤ k → orthoepyref21_Merge.l0 k ss x1 x2 acc i j = some (acc ++ mrgF (beforeP ss) n p q) := by
  induction n with
  | zero => intro k x1 x2 acc p q i j h; omega
  | succ n ih =>
    intro k x1 x2 acc p q i j hn h0 h1 hp hq hi hj hl1 hl2 ha hm1 hm2 hk
    obtain ⟨k, rfl⟩ : ∃ m, k = m + 2 := ⟨k - 2, by omega⟩
    simp only [orthoepyref21_Merge.l0]
    have ewi : wrap64 (i + 1) = i + 1 := by unfold wrap64; omega
    have ewj : wrap64 (j + 1) = j + 1 := by unfold wrap64; omega
    cases p with
    | nil =>
      have e0 := drop_nil h0 hi hp
      rw [if_neg (by omega)]
      cases q with
      | nil =>
        have e1 := drop_nil h1 hj hq
        rw [decide_eq_false (by omega)]
        simp only [orthoepyref21_Merge.j1]
        rw [if_neg (by decide)]
        simp [mrgF]
      | cons y q =>
        obtain ⟨hr, hlt, hdrop⟩ := rd_drop x2 j y q h1 hq
        rw [decide_eq_true (by omega)]
        simp only [orthoepyref21_Merge.j1]
        rw [if_pos trivial, if_pos (by omega), if_pos h1, if_pos (by omega), if_pos (by omega), hr, ewj]
        rw [ih k x1 x2 (acc ++ [y]) [] q i (j + 1) (by simp at hn ⊢; omega) h0 (by omega) hp hdrop hi (by omega) hl1 hl2 (by simp; omega) hm1 hm2 (by omega)]
        cases n with
        | zero => simp at hn
        | succ n => simp [mrgF]
    | cons x p =>
      obtain ⟨hrx, hltx, hdropx⟩ := rd_drop x1 i x p h0 hp
      rw [if_pos (by omega)]
      simp only [orthoepyref21_Merge.j1]
      rw [if_pos trivial, if_neg (by omega)]
      cases q with
      | nil =>
        have e1 := drop_nil h1 hj hq
        rw [if_neg (by omega), if_pos h0, if_pos (by omega), if_pos (by omega), hrx, ewi]
        rw [ih k x1 x2 (acc ++ [x]) p [] (i + 1) j (by simp at hn ⊢; omega) (by omega) h1 hdropx hq (by omega) hj hl1 hl2 (by simp; omega) hm1 hm2 (by omega)]
        cases n with
        | zero => simp at hn
        | succ n =>
          cases p with
          | nil => simp [mrgF]
          | cons z p => simp [mrgF]
      | cons y q =>
        obtain ⟨hry, hlty, hdropy⟩ := rd_drop x2 j y q h1 hq
        have hxm := hm1 x (List.mem_of_mem_drop (by rw [hp]; simp))
        have hym := hm2 y (List.mem_of_mem_drop (by rw [hq]; simp))
        rw [if_pos (by omega), if_pos h1, hrx, hry, if_pos hym.1, if_pos hym.2, if_pos h0, if_pos (by omega), if_pos hxm.1, if_pos hxm.2]
        rw [rless_f (hsz _ (rdOf_mem hym)) (hsz _ (rdOf_mem hxm)), Option.bind_some, ewi, ewj]
        rw [show lessS (rdOf ByteArray.empty ss y) (rdOf ByteArray.empty ss x) = beforeP ss y x from rfl]
        cases hb : beforeP ss y x with
        | true =>
          rw [if_pos rfl, if_pos (by omega), ih k x1 x2 (acc ++ [y]) (x :: p) q i (j + 1) (by simp at hn ⊢; omega) h0 (by omega) hp hdropy hi (by omega) hl1 hl2 (by simp; omega) hm1 hm2 (by omega)]
          simp only [mrgF]
          rw [if_pos hb]
          simp
        | false =>
          rw [if_neg (by decide), if_pos (by omega), ih k x1 x2 (acc ++ [x]) p (y :: q) (i + 1) j (by simp at hn ⊢; omega) (by omega) h1 hdropx hq (by omega) hj hl1 hl2 (by simp; omega) hm1 hm2 (by omega)]
          simp only [mrgF]
          rw [if_neg (by rw [hb]; decide)]
          simp
theorem rmerge_f (k : Nat) {ss : List ByteArray} {ps qs : List Int} (h1 : ps.length ≤ 1000) (h2 : qs.length ≤ 1000) (hs : ∀ s ∈ ss, s.size ≤ 1000000) (hp : ∀ p ∈ ps, 0 ≤ p ∧ p < ss.length) (hq : ∀ p ∈ qs, 0 ≤ p ∧ p < ss.length) (hk : 5000 ≤ k) : orthoepyref21_Merge.f k ss ps qs = some (mrgP ss ps qs) := by
  unfold orthoepyref21_Merge.f
  rw [rmerge_l0 ss hs (ps.length + qs.length + 1) k ps qs [] ps qs 0 0 (by omega) (by omega) (by omega) rfl rfl (by omega) (by omega) h1 h2 (by simp) hp hq (by omega)]
  rfl

theorem pair_right {a b : ByteArray} (h : rightV [a, b] = true) : (a.size ≤ 60 ∧ okS a = true) ∧ (b.size ≤ 60 ∧ okS b = true) := by
  have := (right_yes h).2
  exact ⟨this a (by simp), this b (by simp)⟩
theorem orderall_f (k : Nat) (hk : 100 ≤ k) (l : List ByteArray) (a b : ByteArray) : orthoepylaw21_OrderAll.f k l a b = some true := by
  obtain ⟨k, rfl⟩ : ∃ m, k = m + 1 := ⟨k - 1, by omega⟩
  unfold orthoepylaw21_OrderAll.f
  rw [right_val (k + 1) l (by omega), Option.bind_some, right_val (k + 1) [a, b] (by omega)]
  have ja : orthoepylaw21_OrderAll.j0 (k + 1) l a b true = some true := by
    simp only [orthoepylaw21_OrderAll.j0]
    rw [if_pos trivial]
    rfl
  cases h1 : rightV l with
  | false => rw [if_neg (by decide)]; exact ja
  | true =>
    rw [if_pos rfl, Option.bind_some]
    cases h2 : rightV [a, b] with
    | false => exact ja
    | true =>
      obtain ⟨⟨ha, _⟩, ⟨hb, _⟩⟩ := pair_right h2
      obtain ⟨hl, hs⟩ := right_yes h1
      have hs2 : ∀ s ∈ l, s.size ≤ 1000000 := fun s h => by have := (hs s h).1; omega
      simp only [orthoepylaw21_OrderAll.j0, Bool.not_true]
      rw [if_neg (by decide), less_f (by omega) (by omega), rless_f (by omega) (by omega), less_f (by omega) (by omega), rless_f (by omega) (by omega)]
      simp only [Option.bind_some, beq_self_eq_true, if_true]
      rw [sort_f (by omega) hs2, rsort_f (by omega) hs2, Option.bind_some, Option.bind_some, same_f (by rw [rsortP_len]; omega), Option.bind_some, decide_eq_true rfl]
      rfl
theorem OrderAll_walk (A0 : Option Addr) (c0 : Nat) (l0 : List ByteArray) (a1 a2 : ByteArray) (w : World) (hr0 : Kd.C Kd.string w A0 l0.length l0) (hc0 : l0.length ≤ c0) :
    Calls Try.prog 3 #[.slice A0 l0.length c0, .string a1, .string a2] w fun e w' => e = .returned (.bool true) ∧ Below w.heap.size w w' := by
  obtain ⟨k, hk⟩ := fuel_ex 100
  exact orthoepylaw21_OrderAll.calls k A0 c0 l0 a1 a2 true w hr0 hc0 (orderall_f k (by omega) l0 a1 a2) ⟨rfl⟩

end Go.Proofs.Ytajinnlaajhoeaa.Pure
