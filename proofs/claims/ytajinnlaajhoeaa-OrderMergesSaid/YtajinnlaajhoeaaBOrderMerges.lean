/- Of any two rows of places that are in order: merged they are as the document has it; no condition. -/
import Derived.Test.YtajinnlaajhoeaaPThrx1
import Derived.Test.YtajinnlaajhoeaaPThrx2
import Derived.Test.YtajinnlaajhoeaaPThrx3
import Derived.Test.YtajinnlaajhoeaaPThrx4
namespace Go.Proofs.Ytajinnlaajhoeaa.Pure
open Go.RowKit Go.Proofs.Ytajinnlaajhoeaa.PThr Go.Proofs.YtajinnlaajhoeaaW.PrintWords Go.Proofs.YtajinnlaajhoeaaW.PrintLast Go.Proofs.YtajinnlaajhoeaaW.PrintMore
set_option linter.unusedVariables false
set_option linter.unusedSimpArgs false

/-! ### What the printed functions tell, plainly -/
def rightV (l : List ByteArray) : Bool := decide (l.length ≤ 40) && l.all (fun s => decide (s.size ≤ 60) && okS s)
theorem rdOf_drop {xs : List ByteArray} {i : Int} {x : ByteArray} {r : List ByteArray} (h0 : 0 ≤ i) (h : xs.drop i.toNat = x :: r) : rdOf ByteArray.empty xs i = x ∧ i.toNat < xs.length ∧ xs.drop (i + 1).toNat = r := by
  have hlt : i.toNat < xs.length := by
    have := congrArg List.length h
    simp at this
    omega
  refine ⟨?_, hlt, ?_⟩
  · have := congrArg (fun l => l[0]?) h
    simp at this
    simp [rdOf, List.getD_eq_getElem?_getD, this]
  · rw [show (i + 1).toNat = i.toNat + 1 by omega, ← List.drop_drop, h]
    rfl
theorem right_l0 (rest : List ByteArray) : ∀ (k : Nat) (x0 : List ByteArray) (i : Int), 0 ≤ i → x0.drop i.toNat = rest → i ≤ x0.length → x0.length ≤ 40 → rest.length < k →
    orthoepylaw21_right.l0 k x0 i = some (rest.all (fun s => decide (s.size ≤ 60) && okS s)) := by
  induction rest with
  | nil =>
    intro k x0 i h0 hx hi hl hk
    obtain ⟨k, rfl⟩ : ∃ m, k = m + 1 := ⟨k - 1, by omega⟩
    have hlen : (x0.length : Int) = i := by
      have := congrArg List.length hx
      simp at this
      omega
    simp only [orthoepylaw21_right.l0]
    rw [if_neg (by omega)]
    rfl
  | cons x r ih =>
    intro k x0 i h0 hx hi hl hk
    obtain ⟨k, rfl⟩ : ∃ m, k = m + 1 := ⟨k - 1, by omega⟩
    obtain ⟨hrd, hlt, hdrop⟩ := rdOf_drop h0 hx
    have ew : wrap64 (i + 1) = i + 1 := by unfold wrap64; omega
    simp only [orthoepylaw21_right.l0, List.all_cons]
    rw [if_pos (by omega), if_pos h0, hrd, ew]
    by_cases h1 : (x.size : Int) > 60
    · rw [if_pos h1, decide_eq_false (by omega)]
      rfl
    · rw [if_neg h1, decide_eq_true (by omega)]
      unfold orthoepyref22_Right.f
      rw [if_pos (by omega), Option.bind_some]
      cases okS x with
      | true =>
        rw [if_pos rfl, ih k x0 (i + 1) (by omega) hdrop (by omega) hl (by simp at hk; omega)]
        simp
      | false => simp
theorem right_val (k : Nat) (l : List ByteArray) (hk : 41 < k) : orthoepylaw21_right.f k l = some (rightV l) := by
  unfold orthoepylaw21_right.f rightV
  by_cases h : (l.length : Int) > 40
  · rw [if_pos h, decide_eq_false (by omega)]
    rfl
  · rw [if_neg h, decide_eq_true (by omega), right_l0 l k l 0 (by omega) rfl (by omega) (by omega) (by omega)]
    rfl
theorem right_yes {l : List ByteArray} (h : rightV l = true) : l.length ≤ 40 ∧ ∀ s ∈ l, s.size ≤ 60 ∧ okS s = true := by
  unfold rightV at h
  simp only [Bool.and_eq_true, decide_eq_true_eq, List.all_eq_true] at h
  exact h
theorem less_f {a b : ByteArray} (ha : a.size ≤ 1000000) (hb : b.size ≤ 1000000) : order_Less.f a b = some (lessS a b) := by
  unfold order_Less.f
  rw [if_pos ⟨ha, hb⟩]
theorem rless_f {a b : ByteArray} (ha : a.size ≤ 1000000) (hb : b.size ≤ 1000000) : orthoepyref21_Less.f a b = some (lessS a b) := by
  unfold orthoepyref21_Less.f
  rw [if_pos ⟨ha, hb⟩]
theorem sort_f {l : List ByteArray} (hl : l.length ≤ 1000) (hs : ∀ s ∈ l, s.size ≤ 1000000) : order_Sort.f l = some (rsortP l) := by
  unfold order_Sort.f
  rw [if_pos ⟨hl, hs⟩]
theorem merge_f {l : List ByteArray} {ps qs : List Int} (h1 : ps.length ≤ 1000) (h2 : qs.length ≤ 1000) (hs : ∀ s ∈ l, s.size ≤ 1000000) (hp : ∀ p ∈ ps, 0 ≤ p ∧ p < l.length) (hq : ∀ p ∈ qs, 0 ≤ p ∧ p < l.length) : order_Merge.f l ps qs = some (mrgP l ps qs) := by
  unfold order_Merge.f
  rw [if_pos ⟨h1, h2, hs, hp, hq⟩]
theorem same_f {a b : List Int} (h : a.length ≤ 1000000) : orthoepylaw21_same.f a b = some (decide (a = b)) := by
  unfold orthoepylaw21_same.f
  rw [if_pos h]
theorem rdOf_mem {ss : List ByteArray} {p : Int} (h : 0 ≤ p ∧ p < ss.length) : rdOf ByteArray.empty ss p ∈ ss := by
  unfold rdOf
  rw [List.getD_eq_getElem?_getD, List.getElem?_eq_getElem (show p.toNat < ss.length by omega)]
  exact List.getElem_mem _
theorem rsortP_len (ss : List ByteArray) : (rsortP ss).length = ss.length := rsortL_len ss ss.length
theorem rsortP_mem {ss : List ByteArray} {p : Int} (h : p ∈ rsortP ss) : 0 ≤ p ∧ p < ss.length := rsortL_mem ss ss.length h

/-! ### The document's Merge -/
theorem rmerge_l0 (ss : List ByteArray) (hsz : ∀ s ∈ ss, s.size ≤ 1000000) (n : Nat) : ∀ (k : Nat) (x1 x2 acc p q : List Int) (i j : Int), p.length + q.length < n → 0 ≤ i → 0 ≤ j → x1.drop i.toNat = p → x2.drop j.toNat = q → i ≤ x1.length → j ≤ x2.length → x1.length ≤ 1000 → x2.length ≤ 1000 → (acc.length : Int) ≤ i + j →
    (∀ y ∈ x1, 0 ≤ y ∧ y < ss.length) → (∀ y ∈ x2, 0 ≤ y ∧ y < ss.length) → 2 * n ≤ k → orthoepyref21_Merge.l0 k ss x1 x2 acc i j = some (acc ++ mrgF (beforeP ss) n p q) := by
  induction n with
  | zero => intro k x1 x2 acc p q i j h; omega
  | succ n ih =>
    intro k x1 x2 acc p q i j hn h0 h1 hp hq hi hj hl1 hl2 ha hm1 hm2 hk
    obtain ⟨k, rfl⟩ : ∃ m, k = m + 2 := ⟨k - 2, by omega⟩
    simp only [orthoepyref21_Merge.l0]
    have ewi : wrap64 (i + 1) = i + 1 := by unfold wrap64; omega
    have ewj : wrap64 (j + 1) = j + 1 := by unfold wrap64; omega
    cases p with
    | nil =>
      have e0 := drop_nil h0 hi hp
      rw [if_neg (by omega)]
      cases q with
      | nil =>
        have e1 := drop_nil h1 hj hq
        rw [decide_eq_false (by omega)]
        simp only [orthoepyref21_Merge.j1]
        rw [if_neg (by decide)]
        simp [mrgF]
      | cons y q =>
        obtain ⟨hr, hlt, hdrop⟩ := rd_drop x2 j y q h1 hq
        rw [decide_eq_true (by omega)]
        simp only [orthoepyref21_Merge.j1]
        rw [if_pos trivial, if_pos (by omega), if_pos h1, if_pos (by omega), if_pos (by omega), hr, ewj]
        rw [ih k x1 x2 (acc ++ [y]) [] q i (j + 1) (by simp at hn ⊢; omega) h0 (by omega) hp hdrop hi (by omega) hl1 hl2 (by simp; omega) hm1 hm2 (by omega)]
        cases n with
        | zero => simp at hn
        | succ n => simp [mrgF]
    | cons x p =>
      obtain ⟨hrx, hltx, hdropx⟩ := rd_drop x1 i x p h0 hp
      rw [if_pos (by omega)]
      simp only [orthoepyref21_Merge.j1]
      rw [if_pos trivial, if_neg (by omega)]
      cases q with
      | nil =>
        have e1 := drop_nil h1 hj hq
        rw [if_neg (by omega), if_pos h0, if_pos (by omega), if_pos (by omega), hrx, ewi]
        rw [ih k x1 x2 (acc ++ [x]) p [] (i + 1) j (by simp at hn ⊢; omega) (by omega) h1 hdropx hq (by omega) hj hl1 hl2 (by simp; omega) hm1 hm2 (by omega)]
        cases n with
        | zero => simp at hn
        | succ n =>
          cases p with
          | nil => simp [mrgF]
          | cons z p => simp [mrgF]
      | cons y q =>
        obtain ⟨hry, hlty, hdropy⟩ := rd_drop x2 j y q h1 hq
        have hxm := hm1 x (List.mem_of_mem_drop (by rw [hp]; simp))
        have hym := hm2 y (List.mem_of_mem_drop (by rw [hq]; simp))
        rw [if_pos (by omega), if_pos h1, hrx, hry, if_pos hym.1, if_pos hym.2, if_pos h0, if_pos (by omega), if_pos hxm.1, if_pos hxm.2]
        rw [rless_f (hsz _ (rdOf_mem hym)) (hsz _ (rdOf_mem hxm)), Option.bind_some, ewi, ewj]
        rw [show lessS (rdOf ByteArray.empty ss y) (rdOf ByteArray.empty ss x) = beforeP ss y x from rfl]
        cases hb : beforeP ss y x with
        | true =>
          rw [if_pos rfl, if_pos (by omega), ih k x1 x2 (acc ++ [y]) (x :: p) q i (j + 1) (by simp at hn ⊢; omega) h0 (by omega) hp hdropy hi (by omega) hl1 hl2 (by simp; omega) hm1 hm2 (by omega)]
          simp only [mrgF]
          rw [if_pos hb]
          simp
        | false =>
          rw [if_neg (by decide), if_pos (by omega), ih k x1 x2 (acc ++ [x]) p (y :: q) (i + 1) j (by simp at hn ⊢; omega) (by omega) h1 hdropx hq (by omega) hj hl1 hl2 (by simp; omega) hm1 hm2 (by omega)]
          simp only [mrgF]
          rw [if_neg (by rw [hb]; decide)]
          simp
theorem rmerge_f (k : Nat) {ss : List ByteArray} {ps qs : List Int} (h1 : ps.length ≤ 1000) (h2 : qs.length ≤ 1000) (hs : ∀ s ∈ ss, s.size ≤ 1000000) (hp : ∀ p ∈ ps, 0 ≤ p ∧ p < ss.length) (hq : ∀ p ∈ qs, 0 ≤ p ∧ p < ss.length) (hk : 5000 ≤ k) : orthoepyref21_Merge.f k ss ps qs = some (mrgP ss ps qs) := by
  unfold orthoepyref21_Merge.f
  rw [rmerge_l0 ss hs (ps.length + qs.length + 1) k ps qs [] ps qs 0 0 (by omega) (by omega) (by omega) rfl rfl (by omega) (by omega) h1 h2 (by simp) hp hq (by omega)]
  rfl

theorem wrap_small {x : Int} (h0 : -9223372036854775808 ≤ x) (h1 : x ≤ 9223372036854775807) : wrap64 x = x := by unfold wrap64; omega
/-! ### A place put into a row in order -/
theorem put_fin (row : List Int) (at_ : Int) (c : Nat) (hc : c ≤ row.length) (hl : row.length ≤ 1000) (X : Int) (hX : X = (c : Int)) :
    (if 0 ≤ X then (if X ≤ (row.length : Int) then (if ([] : List Int).length + (row.take (X : Int).toNat).length < 17592186044416 then ((some (([] : List Int) ++ (row.take (X : Int).toNat) : List Int)).bind fun y211 => ((some (([at_] : List Int) : List Int)).bind fun y214 => (if y211.length + y214.length < 17592186044416 then ((some (y211 ++ y214 : List Int)).bind fun y217 => (if y217.length + (row.drop (X : Int).toNat).length < 17592186044416 then (some (y217 ++ (row.drop (X : Int).toNat))) else (none))) else (none)))) else (none)) else (none)) else (none)) =
    some ((([] : List Int) ++ row.take c ++ [at_]) ++ row.drop c) := by
  subst hX
  have h1 : (row.take c).length ≤ 1000 := by rw [List.length_take]; omega
  have h2 : (row.drop c).length ≤ 1000 := by rw [List.length_drop]; omega
  rw [Int.toNat_natCast, if_pos (by omega), if_pos (by omega), if_pos (by simp only [List.length_nil]; omega), Option.bind_some, Option.bind_some, if_pos (by simp only [List.nil_append, List.length_singleton]; omega), Option.bind_some, if_pos (by simp only [List.nil_append, List.length_append, List.length_singleton]; omega)]
theorem put_l0 (l : List ByteArray) (hs : ∀ s ∈ l, s.size ≤ 1000000) (row : List Int) (at_ : Int) (ha : 0 ≤ at_ ∧ at_ < l.length) (hr : ∀ p ∈ row, 0 ≤ p ∧ p < l.length) (hl : row.length ≤ 1000) : ∀ (n k : Nat), n ≤ row.length → n < k →
    orthoepylaw21_put.l0 k l row at_ (n : Int) = some ((([] : List Int) ++ row.take (cutV (beforeP l at_) row n) ++ [at_]) ++ row.drop (cutV (beforeP l at_) row n))
  | 0, k, hn, hk => by
    obtain ⟨k, rfl⟩ : ∃ m, k = m + 1 := ⟨k - 1, by omega⟩
    simp only [orthoepylaw21_put.l0]
    rw [if_neg (by omega)]
    exact put_fin row at_ 0 (by omega) hl _ rfl
  | n + 1, k, hn, hk => by
    obtain ⟨k, rfl⟩ : ∃ m, k = m + 1 := ⟨k - 1, by omega⟩
    have c1 : ((n + 1 : Nat) : Int) > 0 := by omega
    have c2 : (0 : Int) ≤ (n : Int) := by omega
    have c3 : (n : Int) < (row.length : Int) := by omega
    have hk2 : n < k := by omega
    have hn2 : n ≤ row.length := by omega
    have hm : rd row (n : Int) ∈ row := by
      rw [rd_get row n (by omega)]
      exact List.getElem_mem _
    have hp := hr _ hm
    have ew : wrap64 (((n + 1 : Nat) : Int) - 1) = (n : Int) := (wrap_small (by omega) (by omega)).trans (by omega)
    simp only [orthoepylaw21_put.l0]
    rw [ew, if_pos c1, if_pos ha.1, if_pos ha.2, if_pos c2, if_pos c3, if_pos hp.1, if_pos hp.2, rless_f (hs _ (rdOf_mem ha)) (hs _ (rdOf_mem hp)), Option.bind_some]
    have e : cutV (beforeP l at_) row (n + 1) = if beforeP l at_ (rd row (n : Int)) = true then cutV (beforeP l at_) row n else n + 1 := rfl
    rw [show lessS (rdOf ByteArray.empty l at_) (rdOf ByteArray.empty l (rd row (n : Int))) = beforeP l at_ (rd row (n : Int)) from rfl, e]
    cases hb : beforeP l at_ (rd row (n : Int)) with
    | true =>
      rw [if_pos rfl, if_pos rfl]
      exact put_l0 l hs row at_ ha hr hl n k hn2 hk2
    | false =>
      simp only [Bool.false_eq_true, if_false]
      exact put_fin row at_ (n + 1) hn hl _ rfl
theorem put_f (k : Nat) (l : List ByteArray) (hs : ∀ s ∈ l, s.size ≤ 1000000) (row : List Int) (at_ : Int) (ha : 0 ≤ at_ ∧ at_ < l.length) (hr : ∀ p ∈ row, 0 ≤ p ∧ p < l.length) (hl : row.length ≤ 1000) (hk : 1000 < k) :
    orthoepylaw21_put.f k l row at_ = some (insV (beforeP l at_) at_ row) := by
  unfold orthoepylaw21_put.f
  exact put_l0 l hs row at_ ha hr hl row.length k (Nat.le_refl _) (by omega)
/-! ### The law -/
theorem u8_of {n : Int} (h : (Lit.int .u8 n).wf = true) : 0 ≤ n ∧ n ≤ 255 := wf_u8 h
theorem at_u8 {xs : List Int} (h : ∀ x ∈ xs, (Lit.int .u8 x).wf = true) (i : Int) : 0 ≤ rd xs i ∧ rd xs i ≤ 255 := by
  unfold rd
  rw [List.getD_eq_getElem?_getD]
  cases e : xs[i.toNat]? with
  | none => exact ⟨Int.le_refl _, by decide⟩
  | some x => exact wf_u8 (h x (List.mem_of_getElem? e))
theorem place_u8 {x : Int} {n : Nat} (h : 0 ≤ x ∧ x ≤ 255) (hn : n ≠ 0) : 0 ≤ Int.tmod (wrap64 x) (n : Int) ∧ Int.tmod (wrap64 x) (n : Int) < (n : Int) := by
  rw [wrap_small (by omega) (by omega), Int.tmod_eq_emod_of_nonneg h.1]
  exact ⟨Int.emod_nonneg _ (by omega), Int.emod_lt_of_pos _ (by omega)⟩
theorem merges_l1 (l : List ByteArray) (hl : l.length ≤ 40) (hs : ∀ s ∈ l, s.size ≤ 1000000) (hn : l.length ≠ 0) (x2 : List Int) (h2 : ∀ x ∈ x2, (Lit.int .u8 x).wf = true) (hx2 : x2.length ≤ 30) (P : List Int) (hP : ∀ p ∈ P, 0 ≤ p ∧ p < l.length) (hPl : P.length ≤ 30) (d : Nat) : ∀ (k i : Nat) (q : List Int), i + d = x2.length → q.length = i → (∀ p ∈ q, 0 ≤ p ∧ p < l.length) → d + 6000 ≤ k →
    orthoepylaw21_OrderMerges.l1 k l x2 P q (i : Int) = some true := by
  induction d with
  | zero =>
    intro k i q hi hq hm hk
    obtain ⟨k, rfl⟩ : ∃ m, k = m + 1 := ⟨k - 1, by omega⟩
    have c1 : ¬ (i : Int) < (x2.length : Int) := by omega
    have n1 : P.length ≤ 1000 := by omega
    have n2 : q.length ≤ 1000 := by omega
    have n3 : (mrgP l P q).length ≤ 1000000 := by rw [(mrgP_perm l _ _).length_eq, List.length_append]; omega
    have hk5 : 5000 ≤ k := by omega
    simp only [orthoepylaw21_OrderMerges.l1]
    rw [if_neg c1, merge_f n1 n2 hs hP hm, Option.bind_some, rmerge_f k n1 n2 hs hP hm hk5, Option.bind_some, same_f n3, Option.bind_some, decide_eq_true rfl, if_pos rfl]
    rfl
  | succ d ih =>
    intro k i q hi hq hm hk
    obtain ⟨k, rfl⟩ : ∃ m, k = m + 1 := ⟨k - 1, by omega⟩
    have c1 : (i : Int) < (x2.length : Int) := by omega
    have c2 : (0 : Int) ≤ (i : Int) := by omega
    have c3 : ¬ (l.length : Int) = 0 := by omega
    have d1 : (i + 1) + d = x2.length := by omega
    have d3 : d + 6000 ≤ k := by omega
    have hat := place_u8 (at_u8 h2 (i : Int)) hn
    have b2 : -9223372036854775808 ≤ (i : Int) + 1 ∧ (i : Int) + 1 ≤ 9223372036854775807 := by omega
    have hkp : 1000 < k := by omega
    have hql : q.length ≤ 1000 := by omega
    have ei : wrap64 ((i : Int) + 1) = ((i + 1 : Nat) : Int) := wrap_small b2.1 b2.2
    simp only [orthoepylaw21_OrderMerges.l1]
    rw [if_pos c1, if_pos c2, if_neg c3, put_f k l hs q _ hat hm hql hkp, Option.bind_some, ei]
    refine ih k (i + 1) _ d1 ?_ (fun p hp => ?_) d3
    · rw [insV_len, hq]
    · rcases List.mem_cons.1 ((insV_perm _ _ _).mem_iff.1 hp) with rfl | h
      · exact hat
      · exact hm p h
theorem merges_l0 (l : List ByteArray) (hl : l.length ≤ 40) (hs : ∀ s ∈ l, s.size ≤ 1000000) (hn : l.length ≠ 0) (x1 x2 : List Int) (h1 : ∀ x ∈ x1, (Lit.int .u8 x).wf = true) (hx1 : x1.length ≤ 30) (h2 : ∀ x ∈ x2, (Lit.int .u8 x).wf = true) (hx2 : x2.length ≤ 30) (d : Nat) : ∀ (k i : Nat) (q : List Int), i + d = x1.length → q.length = i → (∀ p ∈ q, 0 ≤ p ∧ p < l.length) → d + 7000 ≤ k →
    orthoepylaw21_OrderMerges.l0 k l x1 x2 q (i : Int) = some true := by
  induction d with
  | zero =>
    intro k i q hi hq hm hk
    obtain ⟨k, rfl⟩ : ∃ m, k = m + 1 := ⟨k - 1, by omega⟩
    have c1 : ¬ (i : Int) < (x1.length : Int) := by omega
    simp only [orthoepylaw21_OrderMerges.l0]
    rw [if_neg c1]
    exact merges_l1 l hl hs hn x2 h2 hx2 q hm (by omega) x2.length k 0 [] (by omega) rfl (fun _ h => by cases h) (by omega)
  | succ d ih =>
    intro k i q hi hq hm hk
    obtain ⟨k, rfl⟩ : ∃ m, k = m + 1 := ⟨k - 1, by omega⟩
    have c1 : (i : Int) < (x1.length : Int) := by omega
    have c2 : (0 : Int) ≤ (i : Int) := by omega
    have c3 : ¬ (l.length : Int) = 0 := by omega
    have d1 : (i + 1) + d = x1.length := by omega
    have d3 : d + 7000 ≤ k := by omega
    have hat := place_u8 (at_u8 h1 (i : Int)) hn
    have b2 : -9223372036854775808 ≤ (i : Int) + 1 ∧ (i : Int) + 1 ≤ 9223372036854775807 := by omega
    have hkp : 1000 < k := by omega
    have hql : q.length ≤ 1000 := by omega
    have ei : wrap64 ((i : Int) + 1) = ((i + 1 : Nat) : Int) := wrap_small b2.1 b2.2
    simp only [orthoepylaw21_OrderMerges.l0]
    rw [if_pos c1, if_pos c2, if_neg c3, put_f k l hs q _ hat hm hql hkp, Option.bind_some, ei]
    refine ih k (i + 1) _ d1 ?_ (fun p hp => ?_) d3
    · rw [insV_len, hq]
    · rcases List.mem_cons.1 ((insV_perm _ _ _).mem_iff.1 hp) with rfl | h
      · exact hat
      · exact hm p h
theorem ordermerges_f (k : Nat) (hk : 10000 ≤ k) (l : List ByteArray) (x1 x2 : List Int) (h1 : ∀ x ∈ x1, (Lit.int .u8 x).wf = true) (h2 : ∀ x ∈ x2, (Lit.int .u8 x).wf = true) : orthoepylaw21_OrderMerges.f k l x1 x2 = some true := by
  unfold orthoepylaw21_OrderMerges.f
  rw [right_val k l (by omega), Option.bind_some]
  obtain ⟨k, rfl⟩ : ∃ m, k = m + 1 := ⟨k - 1, by omega⟩
  have ja : orthoepylaw21_OrderMerges.j0 (k + 1) l x1 x2 true = some true := by
    simp only [orthoepylaw21_OrderMerges.j0]
    rw [if_pos trivial]
    rfl
  cases hr : rightV l with
  | false => exact ja
  | true =>
    obtain ⟨hl, hs⟩ := right_yes hr
    have hs2 : ∀ s ∈ l, s.size ≤ 1000000 := fun s h => by have := (hs s h).1; omega
    rw [if_pos rfl]
    by_cases c1 : (l.length : Int) = 0
    · rw [if_pos c1]; exact ja
    · rw [if_neg c1]
      by_cases c2 : (x1.length : Int) > 30
      · rw [if_pos c2]; exact ja
      · rw [if_neg c2]
        by_cases c3 : (x2.length : Int) > 30
        · rw [decide_eq_true c3]; exact ja
        · rw [decide_eq_false c3]
          simp only [orthoepylaw21_OrderMerges.j0]
          rw [if_neg (by decide)]
          exact merges_l0 l hl hs2 (by omega) x1 x2 h1 (by omega) h2 (by omega) x1.length k 0 [] (by omega) rfl (fun _ h => by cases h) (by omega)
theorem OrderMerges_walk (A0 : Option Addr) (c0 : Nat) (l0 : List ByteArray) (A1 : Option Addr) (c1 : Nat) (l1 : List Int) (A2 : Option Addr) (c2 : Nat) (l2 : List Int) (w : World) (hr0 : Kd.C Kd.string w A0 l0.length l0) (hc0 : l0.length ≤ c0) (hr1 : Kd.C (Kd.int .u8) w A1 l1.length l1) (hc1 : l1.length ≤ c1) (h1 : ∀ x ∈ l1, (Lit.int .u8 x).wf = true) (hr2 : Kd.C (Kd.int .u8) w A2 l2.length l2) (hc2 : l2.length ≤ c2) (h2 : ∀ x ∈ l2, (Lit.int .u8 x).wf = true) :
    Calls Try.prog 6 #[.slice A0 l0.length c0, .slice A1 l1.length c1, .slice A2 l2.length c2] w fun e w' => e = .returned (.bool true) ∧ Below w.heap.size w w' := by
  obtain ⟨k, hk⟩ := fuel_ex 10000
  exact orthoepylaw21_OrderMerges.calls k A0 c0 l0 A1 c1 l1 A2 c2 l2 true w hr0 hc0 hr1 hc1 hr2 hc2 (ordermerges_f k (by omega) l0 l1 l2 h1 h2) ⟨rfl⟩

end Go.Proofs.Ytajinnlaajhoeaa.Pure
