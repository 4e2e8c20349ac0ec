/- Both parts of a row, each in order, merged are the whole in order; with the parts changed about as the document has it; no condition. -/
import Derived.Test.YtajinnlaajhoeaaPTwox1
import Derived.Test.YtajinnlaajhoeaaPTwox2
import Derived.Test.YtajinnlaajhoeaaPTwox3
namespace Go.Proofs.Ytajinnlaajhoeaa.Pure
open Go.RowKit Go.Proofs.Ytajinnlaajhoeaa.PTwo Go.Proofs.YtajinnlaajhoeaaW.PrintWords Go.Proofs.YtajinnlaajhoeaaW.PrintLast Go.Proofs.YtajinnlaajhoeaaW.PrintMore
set_option linter.unusedVariables false
set_option linter.unusedSimpArgs false

/-! ### What the printed functions tell, plainly -/
def rightV (l : List ByteArray) : Bool := decide (l.length ≤ 40) && l.all (fun s => decide (s.size ≤ 60) && okS s)
theorem rdOf_drop {xs : List ByteArray} {i : Int} {x : ByteArray} {r : List ByteArray} (h0 : 0 ≤ i) (h : xs.drop i.toNat = x :: r) : rdOf ByteArray.empty xs i = x ∧ i.toNat < xs.length ∧ xs.drop (i + 1).toNat = r := by
  have hlt : i.toNat < xs.length := by
    have := congrArg List.length h
    simp at this
    omega
  refine ⟨?_, hlt, ?_⟩
  · have := congrArg (fun l => l[0]?) h
    simp at this
    simp [rdOf, List.getD_eq_getElem?_getD, this]
  · rw [show (i + 1).toNat = i.toNat + 1 by omega, ← List.drop_drop, h]
    rfl
theorem right_l0 (rest : List ByteArray) : ∀ (k : Nat) (x0 : List ByteArray) (i : Int), 0 ≤ i → x0.drop i.toNat = rest → i ≤ x0.length → x0.length ≤ 40 → rest.length < k →
    orthoepylaw21_right.l0 k x0 i = some (rest.all (fun s => decide (s.size ≤ 60) && okS s)) := by
  induction rest with
  | nil =>
    intro k x0 i h0 hx hi hl hk
    obtain ⟨k, rfl⟩ : ∃ m, k = m + 1 := ⟨k - 1, by omega⟩
    have hlen : (x0.length : Int) = i := by
      have := congrArg List.length hx
      simp at this
      omega
    simp only [orthoepylaw21_right.l0]
    rw [if_neg (by omega)]
    rfl
  | cons x r ih =>
    intro k x0 i h0 hx hi hl hk
    obtain ⟨k, rfl⟩ : ∃ m, k = m + 1 := ⟨k - 1, by omega⟩
    obtain ⟨hrd, hlt, hdrop⟩ := rdOf_drop h0 hx
    have ew : wrap64 (i + 1) = i + 1 := by unfold wrap64; omega
    simp only [orthoepylaw21_right.l0, List.all_cons]
    rw [if_pos (by omega), if_pos h0, hrd, ew]
    by_cases h1 : (x.size : Int) > 60
    · rw [if_pos h1, decide_eq_false (by omega)]
      rfl
    · rw [if_neg h1, decide_eq_true (by omega)]
      unfold orthoepyref22_Right.f
      rw [if_pos (by omega), Option.bind_some]
      cases okS x with
      | true =>
        rw [if_pos rfl, ih k x0 (i + 1) (by omega) hdrop (by omega) hl (by simp at hk; omega)]
        simp
      | false => simp
theorem right_val (k : Nat) (l : List ByteArray) (hk : 41 < k) : orthoepylaw21_right.f k l = some (rightV l) := by
  unfold orthoepylaw21_right.f rightV
  by_cases h : (l.length : Int) > 40
  · rw [if_pos h, decide_eq_false (by omega)]
    rfl
  · rw [if_neg h, decide_eq_true (by omega), right_l0 l k l 0 (by omega) rfl (by omega) (by omega) (by omega)]
    rfl
theorem right_yes {l : List ByteArray} (h : rightV l = true) : l.length ≤ 40 ∧ ∀ s ∈ l, s.size ≤ 60 ∧ okS s = true := by
  unfold rightV at h
  simp only [Bool.and_eq_true, decide_eq_true_eq, List.all_eq_true] at h
  exact h
theorem less_f {a b : ByteArray} (ha : a.size ≤ 1000000) (hb : b.size ≤ 1000000) : order_Less.f a b = some (lessS a b) := by
  unfold order_Less.f
  rw [if_pos ⟨ha, hb⟩]
theorem rless_f {a b : ByteArray} (ha : a.size ≤ 1000000) (hb : b.size ≤ 1000000) : orthoepyref21_Less.f a b = some (lessS a b) := by
  unfold orthoepyref21_Less.f
  rw [if_pos ⟨ha, hb⟩]
theorem sort_f {l : List ByteArray} (hl : l.length ≤ 1000) (hs : ∀ s ∈ l, s.size ≤ 1000000) : order_Sort.f l = some (rsortP l) := by
  unfold order_Sort.f
  rw [if_pos ⟨hl, hs⟩]
theorem rsort_f {l : List ByteArray} (hl : l.length ≤ 1000) (hs : ∀ s ∈ l, s.size ≤ 1000000) : orthoepyref21_Sort.f l = some (rsortP l) := by
  unfold orthoepyref21_Sort.f
  rw [if_pos ⟨hl, hs⟩]
theorem merge_f {l : List ByteArray} {ps qs : List Int} (h1 : ps.length ≤ 1000) (h2 : qs.length ≤ 1000) (hs : ∀ s ∈ l, s.size ≤ 1000000) (hp : ∀ p ∈ ps, 0 ≤ p ∧ p < l.length) (hq : ∀ p ∈ qs, 0 ≤ p ∧ p < l.length) : order_Merge.f l ps qs = some (mrgP l ps qs) := by
  unfold order_Merge.f
  rw [if_pos ⟨h1, h2, hs, hp, hq⟩]
theorem same_f {a b : List Int} (h : a.length ≤ 1000000) : orthoepylaw21_same.f a b = some (decide (a = b)) := by
  unfold orthoepylaw21_same.f
  rw [if_pos h]
theorem rdOf_mem {ss : List ByteArray} {p : Int} (h : 0 ≤ p ∧ p < ss.length) : rdOf ByteArray.empty ss p ∈ ss := by
  unfold rdOf
  rw [List.getD_eq_getElem?_getD, List.getElem?_eq_getElem (show p.toNat < ss.length by omega)]
  exact List.getElem_mem _
theorem rsortP_len (ss : List ByteArray) : (rsortP ss).length = ss.length := rsortL_len ss ss.length
theorem rsortP_mem {ss : List ByteArray} {p : Int} (h : p ∈ rsortP ss) : 0 ≤ p ∧ p < ss.length := rsortL_mem ss ss.length h

/-! ### The document's Merge -/
theorem rmerge_l0 (ss : List ByteArray) (hsz : ∀ s ∈ ss, s.size ≤ 1000000) (n : Nat) : ∀ (k : Nat) (x1 x2 acc p q : List Int) (i j : Int), p.length + q.length < n → 0 ≤ i → 0 ≤ j → x1.drop i.toNat = p → x2.drop j.toNat = q → i ≤ x1.length → j ≤ x2.length → x1.length ≤ 1000 → x2.length ≤ 1000 → (acc.length : Int) ≤ i + j →
    (∀ y ∈ x1, 0 ≤ y ∧ y < ss.length) → (∀ y ∈ x2, 0 ≤ y ∧ y < ss.length) → 2 * n ≤ k → orthoepyref21_Merge.l0 k ss x1 x2 acc i j = some (acc ++ mrgF (beforeP ss) n p q) := by
  induction n with
  | zero => intro k x1 x2 acc p q i j h; omega
  | succ n ih =>
    intro k x1 x2 acc p q i j hn h0 h1 hp hq hi hj hl1 hl2 ha hm1 hm2 hk
    obtain ⟨k, rfl⟩ : ∃ m, k = m + 2 := ⟨k - 2, by omega⟩
    simp only [orthoepyref21_Merge.l0]
    have ewi : wrap64 (i + 1) = i + 1 := by unfold wrap64; omega
    have ewj : wrap64 (j + 1) = j + 1 := by unfold wrap64; omega
    cases p with
    | nil =>
      have e0 := drop_nil h0 hi hp
      rw [if_neg (by omega)]
      cases q with
      | nil =>
        have e1 := drop_nil h1 hj hq
        rw [decide_eq_false (by omega)]
        simp only [orthoepyref21_Merge.j1]
        rw [if_neg (by decide)]
        simp [mrgF]
      | cons y q =>
        obtain ⟨hr, hlt, hdrop⟩ := rd_drop x2 j y q h1 hq
        rw [decide_eq_true (by omega)]
        simp only [orthoepyref21_Merge.j1]
        rw [if_pos trivial, if_pos (by omega), if_pos h1, if_pos (by omega), if_pos (by omega), hr, ewj]
        rw [ih k x1 x2 (acc ++ [y]) [] q i (j + 1) (by simp at hn ⊢; omega) h0 (by omega) hp hdrop hi (by omega) hl1 hl2 (by simp; omega) hm1 hm2 (by omega)]
        cases n with
        | zero => simp at hn
        | succ n => simp [mrgF]
    | cons x p =>
      obtain ⟨hrx, hltx, hdropx⟩ := rd_drop x1 i x p h0 hp
      rw [if_pos (by omega)]
      simp only [orthoepyref21_Merge.j1]
      rw [if_pos trivial, if_neg (by omega)]
      cases q with
      | nil =>
        have e1 := drop_nil h1 hj hq
        rw [if_neg (by omega), if_pos h0, if_pos (by omega), if_pos (by omega), hrx, ewi]
        rw [ih k x1 x2 (acc ++ [x]) p [] (i + 1) j (by simp at hn ⊢; omega) (by omega) h1 hdropx hq (by omega) hj hl1 hl2 (by simp; omega) hm1 hm2 (by omega)]
        cases n with
        | zero => simp at hn
        | succ n =>
          cases p with
          | nil => simp [mrgF]
          | cons z p => simp [mrgF]
      | cons y q =>
        obtain ⟨hry, hlty, hdropy⟩ := rd_drop x2 j y q h1 hq
        have hxm := hm1 x (List.mem_of_mem_drop (by rw [hp]; simp))
        have hym := hm2 y (List.mem_of_mem_drop (by rw [hq]; simp))
        rw [if_pos (by omega), if_pos h1, hrx, hry, if_pos hym.1, if_pos hym.2, if_pos h0, if_pos (by omega), if_pos hxm.1, if_pos hxm.2]
        rw [rless_f (hsz _ (rdOf_mem hym)) (hsz _ (rdOf_mem hxm)), Option.bind_some, ewi, ewj]
        rw [show lessS (rdOf ByteArray.empty ss y) (rdOf ByteArray.empty ss x) = beforeP ss y x from rfl]
        cases hb : beforeP ss y x with
        | true =>
          rw [if_pos rfl, if_pos (by omega), ih k x1 x2 (acc ++ [y]) (x :: p) q i (j + 1) (by simp at hn ⊢; omega) h0 (by omega) hp hdropy hi (by omega) hl1 hl2 (by simp; omega) hm1 hm2 (by omega)]
          simp only [mrgF]
          rw [if_pos hb]
          simp
        | false =>
          rw [if_neg (by decide), if_pos (by omega), ih k x1 x2 (acc ++ [x]) p (y :: q) (i + 1) j (by simp at hn ⊢; omega) (by omega) h1 hdropx hq (by omega) hj hl1 hl2 (by simp; omega) hm1 hm2 (by omega)]
          simp only [mrgF]
          rw [if_neg (by rw [hb]; decide)]
          simp
theorem rmerge_f (k : Nat) {ss : List ByteArray} {ps qs : List Int} (h1 : ps.length ≤ 1000) (h2 : qs.length ≤ 1000) (hs : ∀ s ∈ ss, s.size ≤ 1000000) (hp : ∀ p ∈ ps, 0 ≤ p ∧ p < ss.length) (hq : ∀ p ∈ qs, 0 ≤ p ∧ p < ss.length) (hk : 5000 ≤ k) : orthoepyref21_Merge.f k ss ps qs = some (mrgP ss ps qs) := by
  unfold orthoepyref21_Merge.f
  rw [rmerge_l0 ss hs (ps.length + qs.length + 1) k ps qs [] ps qs 0 0 (by omega) (by omega) (by omega) rfl rfl (by omega) (by omega) h1 h2 (by simp) hp hq (by omega)]
  rfl

theorem place_f (n m : Int) (hm : 0 < m) (hm' : m < 4000000000000000000) : orthoepylaw00_Place.f n m = some (n % m) := by
  unfold orthoepylaw00_Place.f Go.Proofs.Ytajinnlaajhoeaa.PAll.orthoepylaw00_Place.f
  rw [if_neg (by omega)]
  have h1 := Int.tmod_lt_of_pos n hm
  have h2 := Int.lt_tmod_of_pos n hm
  have h3 : n.tmod m % m = n % m := by rw [Int.tmod_def, Int.sub_mul_emod_self_left]
  by_cases h : Int.tmod n m < 0
  · rw [if_pos h]
    have e : wrap64 (Int.tmod n m + m) = Int.tmod n m + m := by unfold wrap64; omega
    rw [e, ← h3]
    congr 1
    rw [← Int.add_emod_right, Int.emod_eq_of_lt (by omega) (by omega)]
  · rw [if_neg h, ← h3, Int.emod_eq_of_lt (by omega) (by omega)]
/-! ### Both parts of a row, in order, are merged to the whole -/
theorem rdOf_take (l : List ByteArray) (t : Nat) (p : Int) (h0 : 0 ≤ p) (h1 : p < t) : rdOf ByteArray.empty (l.take t) p = rdOf ByteArray.empty l p := by
  unfold rdOf
  rw [List.getD_eq_getElem?_getD, List.getD_eq_getElem?_getD, List.getElem?_take, if_pos (by omega)]
theorem rdOf_drops (l : List ByteArray) (t : Nat) (p : Int) (h0 : 0 ≤ p) : rdOf ByteArray.empty (l.drop t) p = rdOf ByteArray.empty l (p + t) := by
  unfold rdOf
  rw [List.getD_eq_getElem?_getD, List.getD_eq_getElem?_getD, List.getElem?_drop, show (p + (t : Int)).toNat = t + p.toNat by omega]
theorem parts_perm (n t : Nat) (ht : t ≤ n) : (((List.range t).map fun (j : Nat) => (j : Int)) ++ ((List.range (n - t)).map fun (j : Nat) => (j : Int)).map (· + (t : Int))) = (List.range n).map fun (j : Nat) => (j : Int) := by
  obtain ⟨m, rfl⟩ : ∃ m, n = t + m := ⟨n - t, by omega⟩
  rw [List.range_add, List.map_append, show t + m - t = m by omega, List.map_map, List.map_map]
  congr 1
  refine List.map_congr_left (fun j _ => ?_)
  show (j : Int) + (t : Int) = ((t + j : Nat) : Int)
  omega
theorem merge_parts (l : List ByteArray) (t : Nat) (ht : t ≤ l.length) : mrgP l (rsortP (l.take t)) ((rsortP (l.drop t)).map (· + (t : Int))) = rsortP l := by
  have hl1 : (l.take t).length = t := by rw [List.length_take]; omega
  have hl2 : (l.drop t).length = l.length - t := List.length_drop
  have m1 : ∀ p ∈ rsortP (l.take t), 0 ≤ p ∧ p < t := fun p hp => by have := rsortP_mem hp; omega
  have m2 : ∀ p ∈ rsortP (l.drop t), 0 ≤ p ∧ p < (l.length - t : Nat) := fun p hp => by have := rsortP_mem hp; omega
  have s1 : (rsortP (l.take t)).Pairwise (LP l) := by
    refine List.Pairwise.imp_of_mem (R := LP (l.take t)) (fun {a b} ha hb h => ?_) (rsortL_sorted (l.take t) (l.take t).length)
    have ha := m1 a ha
    have hb := m1 b hb
    unfold LP beforeP at h ⊢
    rw [rdOf_take l t a ha.1 ha.2, rdOf_take l t b hb.1 hb.2] at h
    exact h
  have s2 : ((rsortP (l.drop t)).map (· + (t : Int))).Pairwise (LP l) := by
    rw [List.pairwise_map]
    refine List.Pairwise.imp_of_mem (R := LP (l.drop t)) (fun {a b} ha hb h => ?_) (rsortL_sorted (l.drop t) (l.drop t).length)
    have ha := m2 a ha
    have hb := m2 b hb
    unfold LP beforeP at h ⊢
    rw [rdOf_drops l t a ha.1, rdOf_drops l t b hb.1] at h
    rcases h with h | ⟨h, h3⟩
    · exact .inl h
    · exact .inr ⟨h, by omega⟩
  refine sort_uniq (mrgP_sorted l _ _ s1 s2 (fun p hp q hq => ?_)) (rsortL_sorted l l.length) ?_
  · obtain ⟨x, hx, rfl⟩ := List.mem_map.1 hq
    have h1 := m1 p hp
    have h2 := m2 x hx
    show p ≤ x + (t : Int)
    clear hx hq hp s1 s2 m1 m2
    omega
  · refine (mrgP_perm l _ _).trans ?_
    have p1 := rsortL_perm (l.take t) (l.take t).length
    have p2 := (rsortL_perm (l.drop t) (l.drop t).length).map (· + (t : Int))
    rw [hl1] at p1
    rw [hl2] at p2
    have p3 := p1.append p2
    rw [parts_perm l.length t ht] at p3
    have e1 : rsortP (l.take t) = rsortL (l.take t) t := by unfold rsortP; rw [hl1]
    have e2 : rsortP (l.drop t) = rsortL (l.drop t) (l.length - t) := by unfold rsortP; rw [hl2]
    rw [e1, e2]
    exact p3.trans (rsortL_perm l l.length).symm
/-! ### The law -/
def shiftV (t : Int) (b : List Int) (i : Nat) : List Int := (b.take i).map (· + t) ++ b.drop i
theorem shift_set (t : Int) (b : List Int) (i : Nat) (h : i < b.length) : (shiftV t b i).set i (b[i] + t) = shiftV t b (i + 1) := by
  unfold shiftV
  have hl : ((b.take i).map (· + t)).length = i := by rw [List.length_map, List.length_take]; omega
  rw [List.set_append_right _ _ (by omega), hl, Nat.sub_self, List.drop_eq_getElem_cons h, List.set_cons_zero, List.take_succ_eq_append_getElem h, List.map_append, List.append_assoc]
  rfl
theorem shift_get (t : Int) (b : List Int) (i : Nat) (h : i < b.length) : rd (shiftV t b i) (i : Int) = b[i] := by
  unfold shiftV rd
  have hl : ((b.take i).map (· + t)).length = i := by rw [List.length_map, List.length_take]; omega
  rw [Int.toNat_natCast, List.getD_eq_getElem?_getD, List.getElem?_append_right (by omega), hl, Nat.sub_self, List.getElem?_drop, Nat.add_zero, List.getElem?_eq_getElem h]
  rfl
theorem shift_len (t : Int) (b : List Int) (i : Nat) : (shiftV t b i).length = b.length := by
  unfold shiftV
  rw [List.length_append, List.length_map, List.length_take, List.length_drop]
  omega
theorem wrap_small {x : Int} (h0 : -9223372036854775808 ≤ x) (h1 : x ≤ 9223372036854775807) : wrap64 x = x := by unfold wrap64; omega
theorem merge_l0 (l : List ByteArray) (hl : l.length ≤ 40) (hs : ∀ s ∈ l, s.size ≤ 1000000) (t : Nat) (ht : t ≤ l.length) (A B R : List Int) (ha : A.length = t) (hb : B.length + t = l.length) (m1 : ∀ p ∈ A, 0 ≤ p ∧ p < t) (m2 : ∀ p ∈ B, 0 ≤ p ∧ p + t < l.length)
    (hR : order_Sort.f l = some R) (hM : mrgP l A (B.map (· + (t : Int))) = R) (hRl : R.length ≤ 1000) (d : Nat) : ∀ (k i : Nat), i ≤ B.length → B.length - i = d → d + 6000 ≤ k →
    orthoepylaw21_OrderMerge.l0 k l (t : Int) A (shiftV (t : Int) B i) (i : Int) = some true := by
  induction d with
  | zero =>
    intro k i hi hd hk
    obtain ⟨k, rfl⟩ : ∃ m, k = m + 1 := ⟨k - 1, by omega⟩
    obtain rfl : i = B.length := by omega
    simp only [orthoepylaw21_OrderMerge.l0]
    rw [shift_len, if_neg (by omega)]
    have e : shiftV (t : Int) B B.length = B.map (· + (t : Int)) := by unfold shiftV; rw [List.take_length, List.drop_length, List.append_nil]
    rw [e]
    have q1 : ∀ p ∈ A, 0 ≤ p ∧ p < (l.length : Int) := fun p hp => by have := m1 p hp; omega
    have q2 : ∀ p ∈ B.map (· + (t : Int)), 0 ≤ p ∧ p < (l.length : Int) := fun p hp => by
      obtain ⟨x, hx, rfl⟩ := List.mem_map.1 hp
      have := m2 x hx
      show 0 ≤ x + (t : Int) ∧ x + (t : Int) < (l.length : Int)
      omega
    have n2 : (B.map (· + (t : Int))).length ≤ 1000 := by rw [List.length_map]; omega
    have n1 : A.length ≤ 1000 := by omega
    have n3 : (mrgP l (B.map (· + (t : Int))) A).length ≤ 1000000 := by rw [(mrgP_perm l _ _).length_eq, List.length_append]; omega
    have n4 : R.length ≤ 1000000 := by omega
    have hk5 : 5000 ≤ k := by omega
    rw [merge_f n1 n2 hs q1 q2, Option.bind_some, hR, Option.bind_some, hM, same_f n4, Option.bind_some, decide_eq_true rfl, if_pos rfl]
    rw [merge_f n2 n1 hs q2 q1, Option.bind_some, rmerge_f k n2 n1 hs q2 q1 hk5, Option.bind_some, same_f n3, Option.bind_some, decide_eq_true rfl, if_pos rfl]
    rfl
  | succ d ih =>
    intro k i hi hd hk
    obtain ⟨k, rfl⟩ : ∃ m, k = m + 1 := ⟨k - 1, by omega⟩
    have hlt : i < B.length := by omega
    have hm := m2 _ (List.getElem_mem hlt)
    have b1 : -9223372036854775808 ≤ B[i] + (t : Int) ∧ B[i] + (t : Int) ≤ 9223372036854775807 := by omega
    have b2 : -9223372036854775808 ≤ (i : Int) + 1 ∧ (i : Int) + 1 ≤ 9223372036854775807 := by omega
    have c1 : (i : Int) < (B.length : Int) := by omega
    have c2 : (0 : Int) ≤ (i : Int) := by omega
    have d1 : i + 1 ≤ B.length := by omega
    have d2 : B.length - (i + 1) = d := by omega
    have d3 : d + 6000 ≤ k := by omega
    have ew : wrap64 (B[i] + (t : Int)) = B[i] + (t : Int) := wrap_small b1.1 b1.2
    have ei : wrap64 ((i : Int) + 1) = ((i + 1 : Nat) : Int) := wrap_small b2.1 b2.2
    simp only [orthoepylaw21_OrderMerge.l0]
    rw [shift_len, if_pos c1, if_pos c2, shift_get _ _ i hlt, ew, ei, Int.toNat_natCast, shift_set _ _ i hlt]
    exact ih k (i + 1) d1 d2 d3
theorem ordermerge_f (k : Nat) (hk : 10000 ≤ k) (l : List ByteArray) (cut : Int) : orthoepylaw21_OrderMerge.f k l cut = some true := by
  unfold orthoepylaw21_OrderMerge.f
  rw [right_val k l (by omega), Option.bind_some]
  cases h1 : rightV l with
  | false => rfl
  | true =>
    obtain ⟨hl, hs⟩ := right_yes h1
    have hs2 : ∀ s ∈ l, s.size ≤ 1000000 := fun s h => by have := (hs s h).1; omega
    have ew : wrap64 ((l.length : Int) + 1) = (l.length : Int) + 1 := by unfold wrap64; omega
    rw [if_pos rfl, ew, place_f cut _ (by omega) (by omega), Option.bind_some]
    clear ew
    have h0 := Int.emod_nonneg cut (b := (l.length : Int) + 1) (by omega)
    have h2 := Int.emod_lt_of_pos cut (b := (l.length : Int) + 1) (by omega)
    obtain ⟨t, ht⟩ : ∃ t : Nat, cut % ((l.length : Int) + 1) = (t : Int) := ⟨_, (Int.toNat_of_nonneg h0).symm⟩
    rw [ht] at h0 h2 ⊢
    rw [if_pos h0, if_pos (by omega), Int.toNat_natCast]
    have ht2 : t ≤ l.length := by omega
    have hl1 : (l.take t).length = t := by rw [List.length_take]; omega
    have hl2 : (l.drop t).length = l.length - t := List.length_drop
    have e1 := rsort_f (l := l.take t) (by omega) (fun s h => hs2 s (List.mem_of_mem_take h))
    have e2 := rsort_f (l := l.drop t) (by omega) (fun s h => hs2 s (List.mem_of_mem_drop h))
    have e3 := sort_f (l := l) (by omega) hs2
    have a1 := rsortP_len (l.take t)
    have b1 := rsortP_len (l.drop t)
    have r1 := rsortP_len l
    have m1 : ∀ p ∈ rsortP (l.take t), 0 ≤ p ∧ p < (l.take t).length := fun p hp => rsortP_mem hp
    have m2 : ∀ p ∈ rsortP (l.drop t), 0 ≤ p ∧ p < (l.drop t).length := fun p hp => rsortP_mem hp
    have hM := merge_parts l t ht2
    rw [e1, Option.bind_some, e2, Option.bind_some]
    clear e1 e2
    generalize rsortP (l.take t) = A at *
    generalize rsortP (l.drop t) = B at *
    generalize rsortP l = R at *
    rw [hl1] at a1 m1
    rw [hl2] at b1 m2
    have e : shiftV (t : Int) B 0 = B := by unfold shiftV; simp
    have := merge_l0 l hl hs2 t ht2 A B R a1 (by omega) m1 (fun p hp => by have := m2 p hp; omega) e3 hM (by omega) B.length k 0 (by omega) (by omega) (by omega)
    rw [e] at this
    exact this
theorem OrderMerge_walk (A0 : Option Addr) (c0 : Nat) (l0 : List ByteArray) (a1 : Int) (w : World) (hr0 : Kd.C Kd.string w A0 l0.length l0) (hc0 : l0.length ≤ c0) :
    Calls Try.prog 5 #[.slice A0 l0.length c0, .int .i64 a1] w fun e w' => e = .returned (.bool true) ∧ Below w.heap.size w w' := by
  obtain ⟨k, hk⟩ := fuel_ex 10000
  exact orthoepylaw21_OrderMerge.calls k A0 c0 l0 a1 true w hr0 hc0 (ordermerge_f k (by omega) l0 a1) ⟨rfl⟩

end Go.Proofs.Ytajinnlaajhoeaa.Pure
