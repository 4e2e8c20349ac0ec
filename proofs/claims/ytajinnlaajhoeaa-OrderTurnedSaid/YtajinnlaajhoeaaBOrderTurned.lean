/- Handed in from another one on, or from the last one back, the texts in order are the same row; no condition. -/
import Derived.Test.YtajinnlaajhoeaaPThrx1
import Derived.Test.YtajinnlaajhoeaaPThrx5
namespace Go.Proofs.Ytajinnlaajhoeaa.Pure
open Go.RowKit Go.Proofs.Ytajinnlaajhoeaa.PThr Go.Proofs.YtajinnlaajhoeaaW.PrintWords Go.Proofs.YtajinnlaajhoeaaW.PrintLast Go.Proofs.YtajinnlaajhoeaaW.PrintMore
set_option linter.unusedVariables false
set_option linter.unusedSimpArgs false

/-! ### What the printed functions tell, plainly -/
def rightV (l : List ByteArray) : Bool := decide (l.length ≤ 40) && l.all (fun s => decide (s.size ≤ 60) && okS s)
theorem rdOf_drop {xs : List ByteArray} {i : Int} {x : ByteArray} {r : List ByteArray} (h0 : 0 ≤ i) (h : xs.drop i.toNat = x :: r) : rdOf ByteArray.empty xs i = x ∧ i.toNat < xs.length ∧ xs.drop (i + 1).toNat = r := by
  have hlt : i.toNat < xs.length := by
    have := congrArg List.length h
    simp at this
    omega
  refine ⟨?_, hlt, ?_⟩
  · have := congrArg (fun l => l[0]?) h
    simp at this
    simp [rdOf, List.getD_eq_getElem?_getD, this]
  · rw [show (i + 1).toNat = i.toNat + 1 by omega, ← List.drop_drop, h]
    rfl
theorem right_l0 (rest : List ByteArray) : ∀ (k : Nat) (x0 : List ByteArray) (i : Int), 0 ≤ i → x0.drop i.toNat = rest → i ≤ x0.length → x0.length ≤ 40 → rest.length < k →
    orthoepylaw21_right.l0 k x0 i = some (rest.all (fun s => decide (s.size ≤ 60) && okS s)) := by
  induction rest with
  | nil =>
    intro k x0 i h0 hx hi hl hk
    obtain ⟨k, rfl⟩ : ∃ m, k = m + 1 := ⟨k - 1, by omega⟩
    have hlen : (x0.length : Int) = i := by
      have := congrArg List.length hx
      simp at this
      omega
    simp only [orthoepylaw21_right.l0]
    rw [if_neg (by omega)]
    rfl
  | cons x r ih =>
    intro k x0 i h0 hx hi hl hk
    obtain ⟨k, rfl⟩ : ∃ m, k = m + 1 := ⟨k - 1, by omega⟩
    obtain ⟨hrd, hlt, hdrop⟩ := rdOf_drop h0 hx
    have ew : wrap64 (i + 1) = i + 1 := by unfold wrap64; omega
    simp only [orthoepylaw21_right.l0, List.all_cons]
    rw [if_pos (by omega), if_pos h0, hrd, ew]
    by_cases h1 : (x.size : Int) > 60
    · rw [if_pos h1, decide_eq_false (by omega)]
      rfl
    · rw [if_neg h1, decide_eq_true (by omega)]
      unfold orthoepyref22_Right.f
      rw [if_pos (by omega), Option.bind_some]
      cases okS x with
      | true =>
        rw [if_pos rfl, ih k x0 (i + 1) (by omega) hdrop (by omega) hl (by simp at hk; omega)]
        simp
      | false => simp
theorem right_val (k : Nat) (l : List ByteArray) (hk : 41 < k) : orthoepylaw21_right.f k l = some (rightV l) := by
  unfold orthoepylaw21_right.f rightV
  by_cases h : (l.length : Int) > 40
  · rw [if_pos h, decide_eq_false (by omega)]
    rfl
  · rw [if_neg h, decide_eq_true (by omega), right_l0 l k l 0 (by omega) rfl (by omega) (by omega) (by omega)]
    rfl
theorem right_yes {l : List ByteArray} (h : rightV l = true) : l.length ≤ 40 ∧ ∀ s ∈ l, s.size ≤ 60 ∧ okS s = true := by
  unfold rightV at h
  simp only [Bool.and_eq_true, decide_eq_true_eq, List.all_eq_true] at h
  exact h
theorem less_f {a b : ByteArray} (ha : a.size ≤ 1000000) (hb : b.size ≤ 1000000) : order_Less.f a b = some (lessS a b) := by
  unfold order_Less.f
  rw [if_pos ⟨ha, hb⟩]
theorem rless_f {a b : ByteArray} (ha : a.size ≤ 1000000) (hb : b.size ≤ 1000000) : orthoepyref21_Less.f a b = some (lessS a b) := by
  unfold orthoepyref21_Less.f
  rw [if_pos ⟨ha, hb⟩]
theorem sort_f {l : List ByteArray} (hl : l.length ≤ 1000) (hs : ∀ s ∈ l, s.size ≤ 1000000) : order_Sort.f l = some (rsortP l) := by
  unfold order_Sort.f
  rw [if_pos ⟨hl, hs⟩]
theorem merge_f {l : List ByteArray} {ps qs : List Int} (h1 : ps.length ≤ 1000) (h2 : qs.length ≤ 1000) (hs : ∀ s ∈ l, s.size ≤ 1000000) (hp : ∀ p ∈ ps, 0 ≤ p ∧ p < l.length) (hq : ∀ p ∈ qs, 0 ≤ p ∧ p < l.length) : order_Merge.f l ps qs = some (mrgP l ps qs) := by
  unfold order_Merge.f
  rw [if_pos ⟨h1, h2, hs, hp, hq⟩]
theorem same_f {a b : List Int} (h : a.length ≤ 1000000) : orthoepylaw21_same.f a b = some (decide (a = b)) := by
  unfold orthoepylaw21_same.f
  rw [if_pos h]
theorem rdOf_mem {ss : List ByteArray} {p : Int} (h : 0 ≤ p ∧ p < ss.length) : rdOf ByteArray.empty ss p ∈ ss := by
  unfold rdOf
  rw [List.getD_eq_getElem?_getD, List.getElem?_eq_getElem (show p.toNat < ss.length by omega)]
  exact List.getElem_mem _
theorem rsortP_len (ss : List ByteArray) : (rsortP ss).length = ss.length := rsortL_len ss ss.length
theorem rsortP_mem {ss : List ByteArray} {p : Int} (h : p ∈ rsortP ss) : 0 ≤ p ∧ p < ss.length := rsortL_mem ss ss.length h

theorem wrap_small {x : Int} (h0 : -9223372036854775808 ≤ x) (h1 : x ≤ 9223372036854775807) : wrap64 x = x := by unfold wrap64; omega
theorem place_f (n m : Int) (hm : 0 < m) (hm' : m < 4000000000000000000) : orthoepylaw00_Place.f n m = some (n % m) := by
  unfold orthoepylaw00_Place.f Go.Proofs.Ytajinnlaajhoeaa.PAll.orthoepylaw00_Place.f
  rw [if_neg (by omega)]
  have h1 := Int.tmod_lt_of_pos n hm
  have h2 := Int.lt_tmod_of_pos n hm
  have h3 : n.tmod m % m = n % m := by rw [Int.tmod_def, Int.sub_mul_emod_self_left]
  by_cases h : Int.tmod n m < 0
  · rw [if_pos h]
    have e : wrap64 (Int.tmod n m + m) = Int.tmod n m + m := by unfold wrap64; omega
    rw [e, ← h3]
    congr 1
    rw [← Int.add_emod_right, Int.emod_eq_of_lt (by omega) (by omega)]
  · rw [if_neg h, ← h3, Int.emod_eq_of_lt (by omega) (by omega)]

/-! ### Texts in order, turned about -/
def rdN (l : List ByteArray) (n : Nat) : ByteArray := rdOf ByteArray.empty l (n : Int)
theorem rdN_get (l : List ByteArray) (n : Nat) (h : n < l.length) : rdN l n = l[n] := by
  unfold rdN rdOf
  rw [Int.toNat_natCast, List.getD_eq_getElem?_getD, List.getElem?_eq_getElem h]
  rfl
theorem all_texts (l : List ByteArray) : (List.range l.length).map (rdN l) = l := by
  refine List.ext_getElem (by simp) (fun i h1 h2 => ?_)
  rw [List.getElem_map, List.getElem_range, rdN_get l i h2]
theorem sorted_texts (l : List ByteArray) : ((rsortP l).map (rdOf ByteArray.empty l)).Perm l := by
  have h := (rsortL_perm l l.length).map (rdOf ByteArray.empty l)
  rw [List.map_map] at h
  have e : (List.range l.length).map (rdOf ByteArray.empty l ∘ fun (j : Nat) => (j : Int)) = l := all_texts l
  rw [e] at h
  exact h
theorem texts_eq {l m : List ByteArray} (hl : ∀ s ∈ l, okS s = true) (h : m.Perm l) : (rsortP m).map (rdOf ByteArray.empty m) = (rsortP l).map (rdOf ByteArray.empty l) := by
  have s : ∀ l : List ByteArray, ((rsortP l).map (rdOf ByteArray.empty l)).Pairwise (fun a b => lessS b a = false) := fun l => by
    rw [List.pairwise_map]
    exact List.Pairwise.imp (fun {a b} h => LP_not h) (rsortL_sorted l l.length)
  refine List.Perm.eq_of_pairwise (le := fun a b => lessS b a = false) (fun a b ha hb h1 h2 => ?_) (s m) (s l) ((sorted_texts m).trans (h.trans (sorted_texts l).symm))
  have ha2 := hl a (h.mem_iff.1 ((sorted_texts m).mem_iff.1 ha))
  have hb2 := hl b ((sorted_texts l).mem_iff.1 hb)
  exact lessS_eq ha2 hb2 h2 h1
def mV (l : List ByteArray) (t i : Nat) : List ByteArray := (List.range i).map fun j => rdN l ((j + t) % l.length)
def rV (l : List ByteArray) (i : Nat) : List ByteArray := (List.range i).map fun j => rdN l (l.length - 1 - j)
theorem mV_len (l : List ByteArray) (t i : Nat) : (mV l t i).length = i := by simp [mV]
theorem rV_len (l : List ByteArray) (i : Nat) : (rV l i).length = i := by simp [rV]
theorem mV_get (l : List ByteArray) (t n i : Nat) (h : i < (mV l t n).length) : (mV l t n)[i] = rdN l ((i + t) % l.length) := by simp [mV]
theorem rV_get (l : List ByteArray) (n i : Nat) (h : i < (rV l n).length) : (rV l n)[i] = rdN l (l.length - 1 - i) := by simp [rV]
theorem mV_snoc (l : List ByteArray) (t i : Nat) : mV l t (i + 1) = mV l t i ++ [rdN l ((i + t) % l.length)] := by unfold mV; rw [List.range_succ, List.map_append]; rfl
theorem rV_snoc (l : List ByteArray) (i : Nat) : rV l (i + 1) = rV l i ++ [rdN l (l.length - 1 - i)] := by unfold rV; rw [List.range_succ, List.map_append]; rfl
theorem mV_all (l : List ByteArray) (t : Nat) (ht : t < l.length) : (mV l t l.length).Perm l := by
  have e : mV l t l.length = l.drop t ++ l.take t := by
    refine List.ext_getElem (by rw [mV_len, List.length_append, List.length_drop, List.length_take]; omega) (fun i h1 h2 => ?_)
    rw [mV_get]
    rw [mV_len] at h1
    by_cases c : i < l.length - t
    · rw [List.getElem_append_left (by rw [List.length_drop]; exact c), List.getElem_drop]
      have e2 : (i + t) % l.length = t + i := by rw [Nat.mod_eq_of_lt (by omega)]; omega
      rw [e2]
      exact rdN_get l (t + i) (by omega)
    · have hl : (l.drop t).length ≤ i := by rw [List.length_drop]; omega
      rw [List.getElem_append_right hl, List.getElem_take]
      have e2 : (i + t) % l.length = i - (l.drop t).length := by
        rw [List.length_drop, Nat.mod_eq_sub_mod (by omega), Nat.mod_eq_of_lt (by omega)]
        omega
      rw [e2]
      exact rdN_get l _ (by rw [List.length_drop]; omega)
  rw [e]
  have h := List.perm_append_comm (l₁ := l.drop t) (l₂ := l.take t)
  rw [List.take_append_drop] at h
  exact h
theorem rV_all (l : List ByteArray) : (rV l l.length).Perm l := by
  have e : rV l l.length = l.reverse := by
    refine List.ext_getElem (by rw [rV_len, List.length_reverse]) (fun i h1 h2 => ?_)
    rw [rV_get, List.getElem_reverse]
    rw [rV_len] at h1
    exact rdN_get l _ (by omega)
  rw [e]
  exact List.reverse_perm l
theorem map_get {l m : List ByteArray} {A B : List Int} (h : B.map (rdOf ByteArray.empty m) = A.map (rdOf ByteArray.empty l)) (i : Nat) (hA : i < A.length) (hB : i < B.length) : rdOf ByteArray.empty l (rd A (i : Int)) = rdOf ByteArray.empty m (rd B (i : Int)) := by
  rw [rd_get A i hA, rd_get B i hB]
  have h1 := congrArg (fun z => z[i]?) h
  simp only [List.getElem?_map] at h1
  rw [List.getElem?_eq_getElem hA, List.getElem?_eq_getElem hB] at h1
  exact (Option.some.inj h1).symm
theorem turned_l1 (l m r : List ByteArray) (A B C : List Int) (hn : l.length ≤ 40) (hA : A.length = l.length) (hB : B.length = l.length) (hC : C.length = l.length) (hm : m.length = l.length) (hr : r.length = l.length)
    (mA : ∀ p ∈ A, 0 ≤ p ∧ p < l.length) (mB : ∀ p ∈ B, 0 ≤ p ∧ p < l.length) (mC : ∀ p ∈ C, 0 ≤ p ∧ p < l.length)
    (e1 : B.map (rdOf ByteArray.empty m) = A.map (rdOf ByteArray.empty l)) (e2 : C.map (rdOf ByteArray.empty r) = A.map (rdOf ByteArray.empty l)) (d : Nat) : ∀ (k i : Nat), i + d = l.length → d + 10 ≤ k →
    orthoepylaw21_OrderTurned.l1 k l m r A B C (i : Int) = some true := by
  induction d with
  | zero =>
    intro k i hi hk
    obtain ⟨k, rfl⟩ : ∃ m, k = m + 1 := ⟨k - 1, by omega⟩
    have c1 : ¬ (i : Int) < (l.length : Int) := by omega
    simp only [orthoepylaw21_OrderTurned.l1]
    rw [if_neg c1]
    rfl
  | succ d ih =>
    intro k i hi hk
    obtain ⟨k, rfl⟩ : ∃ m, k = m + 1 := ⟨k - 1, by omega⟩
    have c1 : (i : Int) < (l.length : Int) := by omega
    have c2 : (0 : Int) ≤ (i : Int) := by omega
    have c3 : (i : Int) < (A.length : Int) := by omega
    have c4 : (i : Int) < (B.length : Int) := by omega
    have c5 : (i : Int) < (C.length : Int) := by omega
    have d1 : (i + 1) + d = l.length := by omega
    have d2 : d + 10 ≤ k := by omega
    have f1 := map_get e1 i (by omega) (by omega)
    have f2 := map_get e2 i (by omega) (by omega)
    have gA : 0 ≤ rd A (i : Int) ∧ rd A (i : Int) < l.length := mA _ (by rw [rd_get A i (by omega)]; exact List.getElem_mem _)
    have gB : 0 ≤ rd B (i : Int) ∧ rd B (i : Int) < l.length := mB _ (by rw [rd_get B i (by omega)]; exact List.getElem_mem _)
    have gC : 0 ≤ rd C (i : Int) ∧ rd C (i : Int) < l.length := mC _ (by rw [rd_get C i (by omega)]; exact List.getElem_mem _)
    have b2 : -9223372036854775808 ≤ (i : Int) + 1 ∧ (i : Int) + 1 ≤ 9223372036854775807 := by omega
    simp only [orthoepylaw21_OrderTurned.l1]
    generalize rd A (i : Int) = a at *
    generalize rd B (i : Int) = b at *
    generalize rd C (i : Int) = c at *
    have n1 : ¬ a < 0 := by omega
    have n2 : ¬ b < 0 := by omega
    have n3 : ¬ c < 0 := by omega
    have n4 : ¬ a ≥ (l.length : Int) := by omega
    have n5 : ¬ b ≥ (l.length : Int) := by omega
    have n6 : ¬ c ≥ (l.length : Int) := by omega
    have o1 : b < (m.length : Int) := by omega
    have o2 : c < (r.length : Int) := by omega
    have ei : wrap64 ((i : Int) + 1) = ((i + 1 : Nat) : Int) := wrap_small b2.1 b2.2
    rw [if_pos c1, if_pos c2, if_pos c3, if_pos c4, if_pos c5, if_neg n1, if_neg n2, if_neg n3, if_neg n4, if_neg n5, if_neg n6, if_pos gA.1, if_pos gA.2, if_pos gB.1, if_pos o1, if_pos (congrArg ByteArray.toList f1), if_pos gC.1, if_pos o2, if_pos (congrArg ByteArray.toList f2), ei]
    exact ih k (i + 1) d1 d2
theorem turned_l0 (l : List ByteArray) (turn : Int) (t : Nat) (hn : l.length ≤ 40) (hs : ∀ s ∈ l, s.size ≤ 1000000) (hok : ∀ s ∈ l, okS s = true) (ht : l.length ≠ 0 → turn % (l.length : Int) = (t : Int) ∧ t < l.length) (d : Nat) : ∀ (k i : Nat), i + d = l.length → d + 200 ≤ k →
    orthoepylaw21_OrderTurned.l0 k l turn (mV l t i) (rV l i) (i : Int) = some true := by
  induction d with
  | zero =>
    intro k i hi hk
    obtain ⟨k, rfl⟩ : ∃ m, k = m + 2 := ⟨k - 2, by omega⟩
    obtain rfl : i = l.length := by omega
    have c1 : ¬ (l.length : Int) < (l.length : Int) := by omega
    have pm : (mV l t l.length).Perm l := by
      by_cases h0 : l.length = 0
      · have e : l = [] := List.eq_nil_of_length_eq_zero h0
        subst e
        exact List.Perm.refl _
      · exact mV_all l t (ht h0).2
    have pr := rV_all l
    have hm := mV_len l t l.length
    have hr := rV_len l l.length
    generalize mV l t l.length = m at *
    generalize rV l l.length = r at *
    have sm : ∀ s ∈ m, s.size ≤ 1000000 := fun s h => hs s (pm.mem_iff.1 h)
    have sr : ∀ s ∈ r, s.size ≤ 1000000 := fun s h => hs s (pr.mem_iff.1 h)
    have f1 := sort_f (l := l) (by omega) hs
    have f2 := sort_f (l := m) (by omega) sm
    have f3 := sort_f (l := r) (by omega) sr
    have e1 := texts_eq hok pm
    have e2 := texts_eq hok pr
    have la := rsortP_len l
    have lb := rsortP_len m
    have lc := rsortP_len r
    have mA : ∀ p ∈ rsortP l, 0 ≤ p ∧ p < (l.length : Int) := fun p hp => rsortP_mem hp
    have mB : ∀ p ∈ rsortP m, 0 ≤ p ∧ p < (m.length : Int) := fun p hp => rsortP_mem hp
    have mC : ∀ p ∈ rsortP r, 0 ≤ p ∧ p < (r.length : Int) := fun p hp => rsortP_mem hp
    simp only [orthoepylaw21_OrderTurned.l0]
    rw [if_neg c1, f1, Option.bind_some, f2, Option.bind_some, f3, Option.bind_some]
    clear f1 f2 f3
    generalize rsortP l = A at *
    generalize rsortP m = B at *
    generalize rsortP r = C at *
    rw [hm] at mB lb
    rw [hr] at mC lc
    have q1 : (A.length : Int) = (l.length : Int) := by omega
    have q2 : (B.length : Int) = (l.length : Int) := by omega
    have q3 : ((C.length : Int) != (l.length : Int)) = false := bne_eq_false_iff_eq.mpr (by omega)
    rw [if_pos q1, if_pos q2, q3]
    simp only [orthoepylaw21_OrderTurned.j1]
    rw [if_neg (by decide)]
    exact turned_l1 l m r A B C hn la lb lc hm hr mA mB mC e1 e2 l.length k 0 (by omega) (by omega)
  | succ d ih =>
    intro k i hi hk
    obtain ⟨k, rfl⟩ : ∃ m, k = m + 1 := ⟨k - 1, by omega⟩
    have c1 : (i : Int) < (l.length : Int) := by omega
    have c0 : ¬ (l.length : Int) = 0 := by omega
    have hn0 : l.length ≠ 0 := by omega
    obtain ⟨ht1, ht2⟩ := ht hn0
    have d1 : (i + 1) + d = l.length := by omega
    have d2 : d + 200 ≤ k := by omega
    have hp := place_f turn (l.length : Int) (by omega) (by omega)
    rw [ht1] at hp
    have b2 : -9223372036854775808 ≤ (i : Int) + 1 ∧ (i : Int) + 1 ≤ 9223372036854775807 := by omega
    have b3 : -9223372036854775808 ≤ (i : Int) + (t : Int) ∧ (i : Int) + (t : Int) ≤ 9223372036854775807 := by omega
    have b4 : -9223372036854775808 ≤ (l.length : Int) - 1 ∧ (l.length : Int) - 1 ≤ 9223372036854775807 := by omega
    have b5 : -9223372036854775808 ≤ (l.length : Int) - 1 - (i : Int) ∧ (l.length : Int) - 1 - (i : Int) ≤ 9223372036854775807 := by omega
    have hmod : (i + t) % l.length < l.length := Nat.mod_lt _ (by omega)
    have g1 : (0 : Int) ≤ (((i + t) % l.length : Nat) : Int) := Int.natCast_nonneg _
    have g2 : (((i + t) % l.length : Nat) : Int) < (l.length : Int) := Int.ofNat_lt.2 hmod
    have g3 : (0 : Int) ≤ ((l.length - 1 - i : Nat) : Int) := Int.natCast_nonneg _
    have g4 : ((l.length - 1 - i : Nat) : Int) < (l.length : Int) := by omega
    have g5 : (mV l t i).length < 8796093022208 := by rw [mV_len]; omega
    have g6 : (rV l i).length < 8796093022208 := by rw [rV_len]; omega
    have e5 : (l.length : Int) - 1 - (i : Int) = ((l.length - 1 - i : Nat) : Int) := by omega
    have w1 : wrap64 ((i : Int) + (t : Int)) = ((i + t : Nat) : Int) := (wrap_small b3.1 b3.2).trans (Int.natCast_add i t).symm
    have w2 : wrap64 ((l.length : Int) - 1) = (l.length : Int) - 1 := wrap_small b4.1 b4.2
    have w3 : wrap64 ((l.length : Int) - 1 - (i : Int)) = ((l.length - 1 - i : Nat) : Int) := (wrap_small b5.1 b5.2).trans e5
    have ei : wrap64 ((i : Int) + 1) = ((i + 1 : Nat) : Int) := wrap_small b2.1 b2.2
    have et : Int.tmod ((i + t : Nat) : Int) (l.length : Int) = (((i + t) % l.length : Nat) : Int) := by rw [Int.tmod_eq_emod_of_nonneg (Int.natCast_nonneg _)]; rfl
    simp only [orthoepylaw21_OrderTurned.l0]
    rw [if_pos c1, hp, Option.bind_some, if_neg c0, w1, et, if_pos g1, if_pos g2, if_pos g5, w2, w3, if_pos g3, if_pos g4, if_pos g6, ei]
    have := ih k (i + 1) d1 d2
    rw [mV_snoc, rV_snoc] at this
    exact this
theorem orderturned_f (k : Nat) (hk : 1000 ≤ k) (l : List ByteArray) (turn : Int) : orthoepylaw21_OrderTurned.f k l turn = some true := by
  unfold orthoepylaw21_OrderTurned.f
  rw [right_val k l (by omega), Option.bind_some]
  cases h1 : rightV l with
  | false => rfl
  | true =>
    obtain ⟨hl, hs⟩ := right_yes h1
    have hs2 : ∀ s ∈ l, s.size ≤ 1000000 := fun s h => by have := (hs s h).1; omega
    rw [if_pos rfl]
    refine turned_l0 l turn (turn % (l.length : Int)).toNat hl hs2 (fun s h => (hs s h).2) (fun h => ?_) l.length k 0 (by omega) (by omega)
    have h0 := Int.emod_nonneg turn (b := (l.length : Int)) (by omega)
    have h2 := Int.emod_lt_of_pos turn (b := (l.length : Int)) (by omega)
    omega
theorem OrderTurned_walk (A0 : Option Addr) (c0 : Nat) (l0 : List ByteArray) (a1 : Int) (w : World) (hr0 : Kd.C Kd.string w A0 l0.length l0) (hc0 : l0.length ≤ c0) :
    Calls Try.prog 7 #[.slice A0 l0.length c0, .int .i64 a1] w fun e w' => e = .returned (.bool true) ∧ Below w.heap.size w w' := by
  obtain ⟨k, hk⟩ := fuel_ex 1000
  exact orthoepylaw21_OrderTurned.calls k A0 c0 l0 a1 true w hr0 hc0 (orderturned_f k (by omega) l0 a1) ⟨rfl⟩

end Go.Proofs.Ytajinnlaajhoeaa.Pure
