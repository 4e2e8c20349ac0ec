/- The order of texts, plainly. -/
import Derived.Test.YtajinnlaajhoeaaHRd
namespace Go.Proofs.Ytajinnlaajhoeaa.Pure
open Go.RowKit Go.Proofs.Ytajinnlaajhoeaa.PAll Go.Proofs.YtajinnlaajhoeaaW.PrintWords Go.Proofs.YtajinnlaajhoeaaW.PrintLast Go.Proofs.YtajinnlaajhoeaaW.PrintMore
set_option linter.unusedVariables false
set_option linter.unusedSimpArgs false

/-! ### The order of items, plainly: what is merged, what is inserted -/
theorem ltI_no {x y : S45} : ltI x y = false ↔ 0 ≤ cmpV (x.f1.flatMap unV) (y.f1.flatMap unV) := by unfold ltI; rw [decide_eq_false_iff_not]; omega
theorem ltI_yes {x y : S45} : ltI x y = true ↔ cmpV (x.f1.flatMap unV) (y.f1.flatMap unV) < 0 := by unfold ltI; rw [decide_eq_true_eq]
theorem ltI_trans {x y z : S45} (h : ltI y x = false) (h2 : ltI z y = false) : ltI z x = false := by
  rw [ltI_no, cmpV_neg] at h h2
  have := cmpV_trans (x.f1.flatMap unV) (y.f1.flatMap unV) (z.f1.flatMap unV) (by omega) (by omega)
  rw [ltI_no, cmpV_neg]
  omega
theorem ltI_asymm {x y : S45} (h : ltI x y = true) : ltI y x = false := by
  rw [ltI_yes] at h
  rw [ltI_no, cmpV_neg]
  omega
theorem ltI_more {x y z : S45} (h : ltI y x = true) (h2 : ltI z x = false) : ltI y z = true := by
  cases h3 : ltI y z with
  | true => rfl
  | false =>
    have h4 := ltI_trans h2 h3
    rw [h] at h4
    cases h4
/-- Ahead, or alike and of no greater place. -/
def LI (x y : S45) : Prop := ltI x y = true ∨ (ltI y x = false ∧ x.f0 ≤ y.f0)
theorem LI_not {x y : S45} (h : LI x y) : ltI y x = false := h.elim ltI_asymm (·.1)
theorem mg_sorted : ∀ (n : Nat) (X Y : List S45), X.length + Y.length ≤ n → X.Pairwise LI → Y.Pairwise LI → (∀ x ∈ X, ∀ y ∈ Y, x.f0 ≤ y.f0) → (mg ltI X Y).Pairwise LI
  | _, [], Y, _, _, hY, _ => by rw [mg_nil]; exact hY
  | _, x :: X, [], _, hX, _, _ => by rw [mg_nil2]; exact hX
  | 0, _ :: _, _ :: _, h, _, _, _ => by simp at h
  | n + 1, x :: X, y :: Y, h, hX, hY, hc => by
    have hX' := List.pairwise_cons.1 hX
    have hY' := List.pairwise_cons.1 hY
    cases hl : ltI y x with
    | true =>
      rw [mg_b hl]
      refine List.pairwise_cons.2 ⟨fun z hz => ?_, mg_sorted n (x :: X) Y (by simp at h ⊢; omega) hX hY'.2 (fun a ha b hb => hc a ha b (by simp [hb]))⟩
      have hz2 := List.mem_append.1 ((mg_perm ltI (x :: X) Y).mem_iff.1 hz)
      rcases hz2 with hz2 | hz2
      · rcases List.mem_cons.1 hz2 with rfl | hz3
        · exact .inl hl
        · exact .inl (ltI_more hl (LI_not (hX'.1 z hz3)))
      · exact hY'.1 z hz2
    | false =>
      rw [mg_a hl]
      refine List.pairwise_cons.2 ⟨fun z hz => ?_, mg_sorted n X (y :: Y) (by simp at h ⊢; omega) hX'.2 hY (fun a ha b hb => hc a (by simp [ha]) b hb)⟩
      have hz2 := List.mem_append.1 ((mg_perm ltI X (y :: Y)).mem_iff.1 hz)
      rcases hz2 with hz2 | hz2
      · exact hX'.1 z hz2
      · have hp := hc x (by simp) z hz2
        rcases List.mem_cons.1 hz2 with rfl | hz3
        · exact .inr ⟨hl, hp⟩
        · exact .inr ⟨ltI_trans hl (LI_not (hY'.1 z hz3)), hp⟩
/-- Runs in order, the places of each not above those of the later ones. -/
def RunsOk (ls : List (List S45)) : Prop := (∀ r ∈ ls, r.Pairwise LI) ∧ ls.Pairwise (fun a b => ∀ x ∈ a, ∀ y ∈ b, x.f0 ≤ y.f0)
theorem pairs_mem : ∀ (n : Nat) (ls : List (List S45)), ls.length ≤ n → ∀ r ∈ pairsV ltI ls, ∀ x ∈ r, ∃ a ∈ ls, x ∈ a
  | _, [], _, r, hr, _, _ => by simp [pairsV] at hr
  | _, [a], _, r, hr, x, hx => by
    have : r = a := by simpa [pairsV] using hr
    exact ⟨a, by simp, by rw [← this]; exact hx⟩
  | 0, _ :: _ :: _, h, _, _, _, _ => by simp at h
  | n + 1, a :: b :: ls, h, r, hr, x, hx => by
    simp only [pairsV, List.mem_cons] at hr
    rcases hr with rfl | hr
    · rcases List.mem_append.1 ((mg_perm ltI a b).mem_iff.1 hx) with q | q
      · exact ⟨a, by simp, q⟩
      · exact ⟨b, by simp, q⟩
    · obtain ⟨c, h1, h2⟩ := pairs_mem n ls (by simp at h; omega) r hr x hx
      exact ⟨c, by simp [h1], h2⟩
theorem pairs_ok : ∀ (n : Nat) (ls : List (List S45)), ls.length ≤ n → RunsOk ls → RunsOk (pairsV ltI ls)
  | _, [], _, h => h
  | _, [_], _, h => h
  | 0, _ :: _ :: _, h, _ => by simp at h
  | n + 1, a :: b :: ls, h, ⟨h1, h2⟩ => by
    have ha := List.pairwise_cons.1 h2
    have hb := List.pairwise_cons.1 ha.2
    have ih := pairs_ok n ls (by simp at h; omega) ⟨fun r hr => h1 r (by simp [hr]), hb.2⟩
    refine ⟨fun r hr => ?_, ?_⟩
    · simp only [pairsV, List.mem_cons] at hr
      rcases hr with rfl | hr
      · exact mg_sorted _ a b (Nat.le_refl _) (h1 a (by simp)) (h1 b (by simp)) (ha.1 b (by simp))
      · exact ih.1 r hr
    · simp only [pairsV]
      refine List.pairwise_cons.2 ⟨fun r hr x hx y hy => ?_, ih.2⟩
      obtain ⟨c, q1, q2⟩ := pairs_mem ls.length ls (Nat.le_refl _) r hr y hy
      rcases List.mem_append.1 ((mg_perm ltI a b).mem_iff.1 hx) with q | q
      · exact ha.1 c (by simp [q1]) x q y q2
      · exact hb.1 c q1 x q y q2
theorem mergeV_sorted : ∀ (N : Nat) (ls : List (List S45)), ls.length ≤ N → RunsOk ls → (mergeV ltI N ls).Pairwise LI
  | N, [], _, _ => by cases N <;> exact List.Pairwise.nil
  | N, [r], _, h => by
    have : mergeV ltI N [r] = r := by cases N <;> rfl
    rw [this]
    exact h.1 r (by simp)
  | 0, _ :: _ :: _, h, _ => by simp at h
  | N + 1, a :: b :: rs, h, hr => by
    have h1 := pairsV_len ltI (a :: b :: rs).length (a :: b :: rs) (Nat.le_refl _)
    exact mergeV_sorted N (pairsV ltI (a :: b :: rs)) (by simp at h h1 ⊢; omega) (pairs_ok _ _ (Nat.le_refl _) hr)
theorem runs_ge (sc : ByteArray → List Int) : ∀ (l : List ByteArray) (i : Nat), ∀ r ∈ runsOf sc i l, ∀ x ∈ r, (i : Int) ≤ x.f0
  | [], _, r, h, _, _ => by simp [runsOf] at h
  | t :: l, i, r, h, x, hx => by
    simp only [runsOf, List.mem_cons] at h
    rcases h with rfl | h
    · obtain rfl : x = ⟨(i : Int), sc t⟩ := by simpa using hx
      exact Int.le_refl _
    · have := runs_ge sc l (i + 1) r h x hx
      omega
theorem runs_ok (sc : ByteArray → List Int) : ∀ (l : List ByteArray) (i : Nat), RunsOk (runsOf sc i l)
  | [], _ => ⟨(fun _ h => by cases h), List.Pairwise.nil⟩
  | t :: l, i => by
    obtain ⟨h1, h2⟩ := runs_ok sc l (i + 1)
    refine ⟨fun r hr => ?_, ?_⟩
    · simp only [runsOf, List.mem_cons] at hr
      rcases hr with rfl | hr
      · exact List.pairwise_singleton _ _
      · exact h1 r hr
    · simp only [runsOf]
      refine List.pairwise_cons.2 ⟨fun r hr x hx y hy => ?_, h2⟩
      obtain rfl : x = ⟨(i : Int), sc t⟩ := by simpa using hx
      have := runs_ge sc l (i + 1) r hr y hy
      show (i : Int) ≤ y.f0
      omega
theorem runs_flat (sc : ByteArray → List Int) : ∀ (l p : List ByteArray), (runsOf sc p.length l).flatten = (List.range' p.length l.length).map fun j => ⟨(j : Int), sc (rdOf ByteArray.empty (p ++ l) (j : Int))⟩
  | [], p => rfl
  | t :: l, p => by
    have ih := runs_flat sc l (p ++ [t])
    rw [List.length_append, List.length_singleton, List.append_assoc, List.singleton_append] at ih
    simp only [runsOf, List.flatten_cons, List.length_cons, List.range'_succ, List.map_cons]
    rw [ih]
    have : rdOf ByteArray.empty (p ++ t :: l) ((p.length : Nat) : Int) = t := by
      unfold rdOf
      rw [Int.toNat_natCast, List.getD_eq_getElem?_getD, List.getElem?_append_right (Nat.le_refl _)]
      simp
    rw [this]
    rfl
theorem items_range (ss : List ByteArray) : (runsOf scs 0 ss).flatten = itemsOf scs ss ((List.range ss.length).map fun (j : Nat) => (j : Int)) := by
  have := runs_flat scs ss []
  simp only [List.length_nil, List.nil_append] at this
  rw [this, List.range_eq_range']
  unfold itemsOf
  rw [List.map_map]
  rfl
/-- The same of places. -/
def LP (ss : List ByteArray) (p q : Int) : Prop := beforeP ss p q = true ∨ (beforeP ss q p = false ∧ p ≤ q)
theorem before_item (ss : List ByteArray) (p q : Int) : ltI ⟨p, scs (rdOf ByteArray.empty ss p)⟩ ⟨q, scs (rdOf ByteArray.empty ss q)⟩ = beforeP ss p q := rfl
theorem LP_of_items (ss : List ByteArray) : ∀ (ps : List Int), (itemsOf scs ss ps).Pairwise LI ↔ ps.Pairwise (LP ss) := fun ps => by
  unfold itemsOf
  rw [List.pairwise_map]
  rfl
theorem LP_anti {ss : List ByteArray} {p q : Int} (h : LP ss p q) (h2 : LP ss q p) : p = q := by
  rcases h with h | ⟨h, h1⟩
  · rcases h2 with h2 | ⟨h2, _⟩
    · have := lessS_asymm h
      unfold beforeP at h2
      rw [h2] at this
      cases this
    · rw [h] at h2
      cases h2
  · rcases h2 with h2 | ⟨_, h2⟩
    · rw [h2] at h
      cases h
    · omega
theorem LP_not {ss : List ByteArray} {p q : Int} (h : LP ss p q) : beforeP ss q p = false := h.elim lessS_asymm (·.1)
theorem perm_items {ss : List ByteArray} {M : List S45} {ps : List Int} (h : M.Perm (itemsOf scs ss ps)) : M = itemsOf scs ss (M.map (·.f0)) := by
  have h1 : ∀ x ∈ M, x = ⟨x.f0, scs (rdOf ByteArray.empty ss x.f0)⟩ := fun x hx => by
    obtain ⟨p, _, rfl⟩ := List.mem_map.1 (h.mem_iff.1 hx)
    rfl
  clear h
  unfold itemsOf
  rw [List.map_map]
  induction M with
  | nil => rfl
  | cons x M ih =>
    rw [List.map_cons, ← ih (fun y hy => h1 y (by simp [hy]))]
    congr 1
    exact h1 x (by simp)
theorem items_map (ss : List ByteArray) (ps : List Int) : (itemsOf scs ss ps).map (·.f0) = ps := by
  unfold itemsOf
  rw [List.map_map]
  exact List.map_id' ps
/-- A row in order that holds each place once: there is but one. -/
theorem sort_uniq {ss : List ByteArray} {a b : List Int} (ha : a.Pairwise (LP ss)) (hb : b.Pairwise (LP ss)) (h : a.Perm b) : a = b :=
  List.Perm.eq_of_pairwise (le := LP ss) (fun _ _ _ _ h1 h2 => LP_anti h1 h2) ha hb h
theorem sortP_perm (ss : List ByteArray) : (sortP ss).Perm ((List.range ss.length).map fun (j : Nat) => (j : Int)) := by
  have h := mergeV_perm ltI ss.length (runsOf scs 0 ss) (by rw [(runsOf_len scs ss 0).1]; exact Nat.le_refl _)
  rw [items_range] at h
  have h2 := h.map (·.f0)
  rw [items_map] at h2
  exact h2
theorem sortP_sorted (ss : List ByteArray) : (sortP ss).Pairwise (LP ss) := by
  have h := mergeV_perm ltI ss.length (runsOf scs 0 ss) (by rw [(runsOf_len scs ss 0).1]; exact Nat.le_refl _)
  rw [items_range] at h
  have h2 := mergeV_sorted ss.length (runsOf scs 0 ss) (by rw [(runsOf_len scs ss 0).1]; exact Nat.le_refl _) (runs_ok scs ss 0)
  rw [perm_items h] at h2
  exact (LP_of_items ss _).1 h2
/-! ### What is inserted -/
theorem rd_get (out : List Int) (n : Nat) (h : n < out.length) : rd out (n : Int) = out[n] := by
  unfold rd
  rw [Int.toNat_natCast, List.getD_eq_getElem?_getD, List.getElem?_eq_getElem h]
  rfl
theorem cutV_yes (p : Int → Bool) (out : List Int) : ∀ n j, n ≤ out.length → cutV p out n ≤ j → (hj : j < n) → p (rd out (j : Int)) = true
  | 0, _, _, _, h => by omega
  | n + 1, j, hn, hc, hj => by
    unfold cutV at hc
    split at hc
    · rename_i h
      by_cases e : j = n
      · rw [e]; exact h
      · exact cutV_yes p out n j (by omega) hc (by omega)
    · omega
theorem cutV_no (p : Int → Bool) (out : List Int) : ∀ n, cutV p out n = 0 ∨ p (rd out ((cutV p out n - 1 : Nat) : Int)) = false
  | 0 => .inl rfl
  | n + 1 => by
    unfold cutV
    split
    · exact cutV_no p out n
    · rename_i h
      right
      rw [Nat.add_sub_cancel]
      simpa using h
theorem pairwise_get {α : Type} {R : α → α → Prop} {l : List α} (h : l.Pairwise R) (i j : Nat) (hi : i < j) (hj : j < l.length) : R l[i] l[j] :=
  List.pairwise_iff_getElem.1 h i j (by omega) hj hi
theorem ins_sorted (ss : List ByteArray) (x : Int) (out : List Int) (h : out.Pairwise (LP ss)) (hx : ∀ y ∈ out, y ≤ x) : (insV (beforeP ss x) x out).Pairwise (LP ss) := by
  have e : insV (beforeP ss x) x out = out.take (cutV (beforeP ss x) out out.length) ++ x :: out.drop (cutV (beforeP ss x) out out.length) := by unfold insV; simp
  rw [e]
  have hle := cutV_le (beforeP ss x) out out.length
  have hy := cutV_yes (beforeP ss x) out out.length
  have hn := cutV_no (beforeP ss x) out out.length
  generalize cutV (beforeP ss x) out out.length = c at *
  have h1 : (out.take c ++ out.drop c).Pairwise (LP ss) := by rw [List.take_append_drop]; exact h
  rw [List.pairwise_append] at h1
  refine List.pairwise_append.2 ⟨h1.1, List.pairwise_cons.2 ⟨fun y hy1 => ?_, h1.2.1⟩, fun y hy1 z hz => ?_⟩
  · obtain ⟨i, hi, rfl⟩ := List.mem_iff_getElem.1 hy1
    rw [List.length_drop] at hi
    rw [List.getElem_drop]
    have := hy (c + i) (Nat.le_refl _) (by omega) (by omega)
    rw [rd_get out (c + i) (by omega)] at this
    exact .inl this
  · obtain ⟨i, hi, rfl⟩ := List.mem_iff_getElem.1 hy1
    rw [List.length_take] at hi
    rcases List.mem_cons.1 hz with rfl | hz1
    · rw [List.getElem_take]
      rcases hn with hn | hn
      · omega
      · rw [rd_get out (c - 1) (by omega)] at hn
        refine .inr ⟨?_, hx _ (List.getElem_mem _)⟩
        by_cases e : i = c - 1
        · subst e
          exact hn
        · have h2 := LP_not (pairwise_get h i (c - 1) (by omega) (by omega))
          exact lessS_trans h2 hn
    · exact h1.2.2 _ hy1 z hz1
theorem rsortL_sorted (ss : List ByteArray) : ∀ i, (rsortL ss i).Pairwise (LP ss)
  | 0 => List.Pairwise.nil
  | i + 1 => ins_sorted ss (i : Int) (rsortL ss i) (rsortL_sorted ss i) (fun y hy => by have := rsortL_mem ss i hy; omega)
theorem sortP_eq (ss : List ByteArray) : sortP ss = rsortP ss :=
  sort_uniq (sortP_sorted ss) (rsortL_sorted ss ss.length) ((sortP_perm ss).trans (rsortL_perm ss ss.length).symm)
/-! ### What is merged -/
def mrgF (lt : Int → Int → Bool) : Nat → List Int → List Int → List Int
  | 0, _, _ => []
  | _ + 1, [], b => b
  | _ + 1, x :: a, [] => x :: a
  | n + 1, x :: a, y :: b => if lt y x = true then y :: mrgF lt n (x :: a) b else x :: mrgF lt n a (y :: b)
def mrgP (ss : List ByteArray) (ps qs : List Int) : List Int := mrgF (beforeP ss) (ps.length + qs.length + 1) ps qs
theorem mrgF_mg (ss : List ByteArray) : ∀ (n : Nat) (a b : List Int), a.length + b.length < n → mrgF (beforeP ss) n a b = (mg ltI (itemsOf scs ss a) (itemsOf scs ss b)).map (·.f0)
  | 0, _, _, h => by omega
  | n + 1, [], b, _ => by
    show b = _
    rw [show itemsOf scs ss [] = [] from rfl, mg_nil, items_map]
  | n + 1, x :: a, [], _ => by
    show x :: a = _
    rw [show itemsOf scs ss [] = [] from rfl, mg_nil2, items_map]
  | n + 1, x :: a, y :: b, h => by
    have e1 : ∀ z l, itemsOf scs ss (z :: l) = ⟨z, scs (rdOf ByteArray.empty ss z)⟩ :: itemsOf scs ss l := fun _ _ => rfl
    cases hl : beforeP ss y x with
    | true =>
      rw [← before_item] at hl
      rw [e1 x a, e1 y b, mg_b hl, List.map_cons, ← e1 x a, ← mrgF_mg ss n (x :: a) b (by simp at h ⊢; omega)]
      simp only [mrgF]
      rw [before_item] at hl
      rw [if_pos hl]
    | false =>
      rw [← before_item] at hl
      rw [e1 x a, e1 y b, mg_a hl, List.map_cons, ← e1 y b, ← mrgF_mg ss n a (y :: b) (by simp at h ⊢; omega)]
      simp only [mrgF]
      rw [before_item] at hl
      rw [if_neg (by rw [hl]; decide)]
theorem mergeP_eq (ss : List ByteArray) (ps qs : List Int) : mergeP ss ps qs = mrgP ss ps qs := by
  unfold mrgP
  rw [mrgF_mg ss _ ps qs (Nat.lt_succ_self _)]
  rfl
theorem mrgP_perm (ss : List ByteArray) (ps qs : List Int) : (mrgP ss ps qs).Perm (ps ++ qs) := by
  unfold mrgP
  rw [mrgF_mg ss _ ps qs (Nat.lt_succ_self _)]
  have h := (mg_perm ltI (itemsOf scs ss ps) (itemsOf scs ss qs)).map (·.f0)
  rw [List.map_append, items_map, items_map] at h
  exact h
theorem mrgP_sorted (ss : List ByteArray) (ps qs : List Int) (hp : ps.Pairwise (LP ss)) (hq : qs.Pairwise (LP ss)) (hc : ∀ p ∈ ps, ∀ q ∈ qs, p ≤ q) : (mrgP ss ps qs).Pairwise (LP ss) := by
  have h := mg_sorted _ (itemsOf scs ss ps) (itemsOf scs ss qs) (Nat.le_refl _) ((LP_of_items ss ps).2 hp) ((LP_of_items ss qs).2 hq) (fun x hx y hy => by
    obtain ⟨p, h1, rfl⟩ := List.mem_map.1 hx
    obtain ⟨q, h2, rfl⟩ := List.mem_map.1 hy
    exact hc p h1 q h2)
  have hpm := mg_perm ltI (itemsOf scs ss ps) (itemsOf scs ss qs)
  rw [show itemsOf scs ss ps ++ itemsOf scs ss qs = itemsOf scs ss (ps ++ qs) by unfold itemsOf; rw [List.map_append]] at hpm
  rw [perm_items hpm, LP_of_items] at h
  unfold mrgP
  rw [mrgF_mg ss _ ps qs (Nat.lt_succ_self _)]
  exact h
theorem sort_tot2 (A : Option Addr) (cap : Nat) (ss : List ByteArray) (w : World) (hr : Kd.C Kd.string w A ss.length ss) (hc : ss.length ≤ cap) (hn : ss.length ≤ 1000) (hsz : ∀ s ∈ ss, s.size ≤ 1000000) :
    Calls Try.prog 15 #[.slice A ss.length cap] w fun e w' => ∃ v, e = .returned v ∧ Kd.R (Kd.int .i64) 3 w' w.heap.size (fun _ => True) v (rsortP ss) ∧ Below w.heap.size w w' := by
  have h := sort_tot A cap ss w hr hc hn hsz
  rw [sortP_eq] at h
  exact h
theorem merge_tot2 (A : Option Addr) (cap : Nat) (ss : List ByteArray) (B1 B2 : Option Addr) (d1 d2 : Nat) (ps qs : List Int) (w : World) (hr : Kd.C Kd.string w A ss.length ss) (hr1 : Kd.C (Kd.int .i64) w B1 ps.length ps) (hr2 : Kd.C (Kd.int .i64) w B2 qs.length qs) (hn1 : ps.length ≤ 1000) (hn2 : qs.length ≤ 1000)
    (hsz : ∀ s ∈ ss, s.size ≤ 1000000) (hps : ∀ p ∈ ps, 0 ≤ p ∧ p < ss.length) (hqs : ∀ p ∈ qs, 0 ≤ p ∧ p < ss.length) :
    Calls Try.prog 18 #[.slice A ss.length cap, .slice B1 ps.length d1, .slice B2 qs.length d2] w fun e w' => ∃ v, e = .returned v ∧ Kd.R (Kd.int .i64) 3 w' w.heap.size (fun _ => True) v (mrgP ss ps qs) ∧ Below w.heap.size w w' := by
  have h := merge_tot A cap ss B1 B2 d1 d2 ps qs w hr hr1 hr2 hn1 hn2 hsz hps hqs
  rw [mergeP_eq] at h
  exact h

end Go.Proofs.Ytajinnlaajhoeaa.Pure
