/- Where texts first differ the lesser scalar is less, but that one from 10000 (hexadecimal) on is less than one from E000 to FFFF; what goes on is more than its beginning; no condition. -/
import Derived.Test.YtajinnlaajhoeaaPScax2
import Derived.Test.YtajinnlaajhoeaaLStr
import Derived.Test.YtajinnlaajhoeaaPScax1
namespace Go.Proofs.Ytajinnlaajhoeaa.Pure
open Go.RowKit Go.Proofs.Ytajinnlaajhoeaa.PSca Go.Proofs.YtajinnlaajhoeaaW.PrintWords Go.Proofs.YtajinnlaajhoeaaW.PrintLast
set_option linter.unusedVariables false
set_option linter.unusedSimpArgs false

/-! ### What the printed functions tell, plainly -/
def rightV (l : List ByteArray) : Bool := decide (l.length ≤ 40) && l.all (fun s => decide (s.size ≤ 60) && okS s)
theorem rdOf_drop {xs : List ByteArray} {i : Int} {x : ByteArray} {r : List ByteArray} (h0 : 0 ≤ i) (h : xs.drop i.toNat = x :: r) : rdOf ByteArray.empty xs i = x ∧ i.toNat < xs.length ∧ xs.drop (i + 1).toNat = r := by
  have hlt : i.toNat < xs.length := by
    have := congrArg List.length h
    simp at this
    omega
  refine ⟨?_, hlt, ?_⟩
  · have := congrArg (fun l => l[0]?) h
    simp at this
    simp [rdOf, List.getD_eq_getElem?_getD, this]
  · rw [show (i + 1).toNat = i.toNat + 1 by omega, ← List.drop_drop, h]
    rfl
theorem right_yes {l : List ByteArray} (h : rightV l = true) : l.length ≤ 40 ∧ ∀ s ∈ l, s.size ≤ 60 ∧ okS s = true := by
  unfold rightV at h
  simp only [Bool.and_eq_true, decide_eq_true_eq, List.all_eq_true] at h
  exact h
theorem less_f {a b : ByteArray} (ha : a.size ≤ 1000000) (hb : b.size ≤ 1000000) : order_Less.f a b = some (lessS a b) := by
  unfold order_Less.f
  rw [if_pos ⟨ha, hb⟩]
theorem sort_f {l : List ByteArray} (hl : l.length ≤ 1000) (hs : ∀ s ∈ l, s.size ≤ 1000000) : order_Sort.f l = some (rsortP l) := by
  unfold order_Sort.f
  rw [if_pos ⟨hl, hs⟩]
theorem merge_f {l : List ByteArray} {ps qs : List Int} (h1 : ps.length ≤ 1000) (h2 : qs.length ≤ 1000) (hs : ∀ s ∈ l, s.size ≤ 1000000) (hp : ∀ p ∈ ps, 0 ≤ p ∧ p < l.length) (hq : ∀ p ∈ qs, 0 ≤ p ∧ p < l.length) : order_Merge.f l ps qs = some (mrgP l ps qs) := by
  unfold order_Merge.f
  rw [if_pos ⟨h1, h2, hs, hp, hq⟩]
theorem same_f {a b : List Int} (h : a.length ≤ 1000000) : orthoepylaw21_same.f a b = some (decide (a = b)) := by
  unfold orthoepylaw21_same.f
  rw [if_pos h]
theorem rdOf_mem {ss : List ByteArray} {p : Int} (h : 0 ≤ p ∧ p < ss.length) : rdOf ByteArray.empty ss p ∈ ss := by
  unfold rdOf
  rw [List.getD_eq_getElem?_getD, List.getElem?_eq_getElem (show p.toNat < ss.length by omega)]
  exact List.getElem_mem _
theorem rsortP_len (ss : List ByteArray) : (rsortP ss).length = ss.length := rsortL_len ss ss.length
theorem rsortP_mem {ss : List ByteArray} {p : Int} (h : p ∈ rsortP ss) : 0 ≤ p ∧ p < ss.length := rsortL_mem ss ss.length h

theorem scal_cmp (c d : Int) (h : isScal c = true) (h' : isScal d = true) : cmpV (unV c) (unV d) = if c = d then 0 else if (c < d) ↔ ¬ ((65536 ≤ c ∧ 57344 ≤ d ∧ d < 65536) ∨ (65536 ≤ d ∧ 57344 ≤ c ∧ c < 65536)) then -1 else 1 := by
  unfold unV
  rw [if_pos h, if_pos h']
  unfold isScal at h h'
  simp only [decide_eq_true_eq] at h h'
  by_cases e : c = d
  · subst e
    rw [if_pos rfl, cmpV_self]
  · rw [if_neg e]
    by_cases h1 : c < 65536
    · by_cases h2 : d < 65536
      · rw [if_pos h1, if_pos h2]
        simp only [cmpV]
        by_cases h3 : c < d
        · rw [if_pos h3, if_pos (by omega)]
        · rw [if_neg h3, if_pos (by omega), if_neg (by omega)]
      · rw [if_pos h1, if_neg h2]
        simp only [cmpV]
        by_cases h3 : c < 55296
        · rw [if_pos (by omega), if_pos (by omega)]
        · rw [if_neg (by omega), if_pos (by omega), if_neg (by omega)]
    · by_cases h2 : d < 65536
      · rw [if_neg h1, if_pos h2]
        simp only [cmpV]
        by_cases h3 : d < 55296
        · rw [if_neg (by omega), if_pos (by omega), if_neg (by omega)]
        · rw [if_pos (by omega), if_pos (by omega)]
      · rw [if_neg h1, if_neg h2]
        simp only [cmpV]
        by_cases h3 : c < d
        · rw [if_pos (show (c < d ↔ _) by omega)]
          by_cases h4 : (c - 65536) / 1024 < (d - 65536) / 1024
          · rw [if_pos (by omega)]
          · rw [if_neg (by omega), if_neg (by omega), if_pos (by omega)]
        · rw [if_neg (show ¬ (c < d ↔ _) by omega)]
          by_cases h4 : (c - 65536) / 1024 > (d - 65536) / 1024
          · rw [if_neg (by omega), if_pos (by omega)]
          · rw [if_neg (by omega), if_neg (by omega), if_neg (by omega), if_pos (by omega)]

/-! ### Texts by their scalars -/
theorem bnums_nums (l : List Int) (h : Byt l) : bnums (strOfNums l) = l := by
  unfold bnums strOfNums
  simp only [List.map_map]
  conv => rhs; rw [← List.map_id l]
  apply List.map_congr_left
  intro x hx
  have := h x hx
  simp
  omega
theorem bnums_app (a b : ByteArray) : bnums (a ++ b) = bnums a ++ bnums b := by
  unfold bnums
  simp [ByteArray.data_append]
theorem textV_app (L M : List Int) : textV (L ++ M) = textV L ++ textV M := by simp [textV]
theorem scs_of {s : ByteArray} {L : List Int} (hL : ∀ c ∈ L, isScal c = true) (h : bnums s = textV L) : scs s = L := by
  unfold scs
  rw [h, allV_text L hL]
  simp
theorem cmpV_front : ∀ (p q r : List Int), cmpV (p ++ q) (p ++ r) = cmpV q r
  | [], _, _ => rfl
  | a :: p, q, r => by
    simp only [List.cons_append, cmpV]
    rw [if_neg (by omega), if_neg (by omega)]
    exact cmpV_front p q r
theorem cmp_head (c d : Int) (h : isScal c = true) (h' : isScal d = true) (hne : c ≠ d) (r s : List Int) : cmpV (unV c ++ r) (unV d ++ s) = cmpV (unV c) (unV d) := by
  unfold unV
  rw [if_pos h, if_pos h']
  unfold isScal at h h'
  simp only [decide_eq_true_eq] at h h'
  by_cases h1 : c < 65536
  · by_cases h2 : d < 65536
    · rw [if_pos h1, if_pos h2]
      simp only [List.cons_append, List.nil_append, cmpV]
      (repeat' split) <;> first | rfl | omega
    · rw [if_pos h1, if_neg h2]
      simp only [List.cons_append, List.nil_append, cmpV]
      (repeat' split) <;> first | rfl | omega
  · by_cases h2 : d < 65536
    · rw [if_neg h1, if_pos h2]
      simp only [List.cons_append, List.nil_append, cmpV]
      (repeat' split) <;> first | rfl | omega
    · rw [if_neg h1, if_neg h2]
      simp only [List.cons_append, List.nil_append, cmpV]
      (repeat' split) <;> first | rfl | omega
theorem less_parts {s x y : ByteArray} {L M K : List Int} (hL : ∀ c ∈ L, isScal c = true) (hM : ∀ c ∈ M, isScal c = true) (hK : ∀ c ∈ K, isScal c = true) (es : bnums s = textV L) (ex : bnums x = textV M) (ey : bnums y = textV K) :
    lessS (s ++ x) (s ++ y) = decide (cmpV (M.flatMap unV) (K.flatMap unV) < 0) := by
  have ap : ∀ {P Q : List Int}, (∀ c ∈ P, isScal c = true) → (∀ c ∈ Q, isScal c = true) → ∀ c ∈ P ++ Q, isScal c = true := fun hp hq c hc => (List.mem_append.1 hc).elim (hp c) (hq c)
  unfold lessS unS
  rw [scs_of (ap hL hM) (by rw [bnums_app, es, ex, textV_app]), scs_of (ap hL hK) (by rw [bnums_app, es, ey, textV_app]), List.flatMap_append, List.flatMap_append, cmpV_front]
def wantV (c d : Int) : Bool := if (65536 ≤ d ∧ 57344 ≤ c ∧ c < 65536) then false else if (65536 ≤ c ∧ 57344 ≤ d ∧ d < 65536) then true else decide (c < d)
theorem want_less (c d : Int) (h : isScal c = true) (h' : isScal d = true) (hne : c ≠ d) : decide (cmpV (unV c) (unV d) < 0) = wantV c d := by
  rw [scal_cmp c d h h', if_neg hne]
  unfold wantV
  by_cases h2 : 65536 ≤ d ∧ 57344 ≤ c ∧ c < 65536
  · rw [if_pos h2, if_neg (by omega)]
    rfl
  · rw [if_neg h2]
    by_cases h1 : 65536 ≤ c ∧ 57344 ≤ d ∧ d < 65536
    · rw [if_pos h1, if_pos (by omega)]
      rfl
    · rw [if_neg h1]
      by_cases h3 : c < d
      · rw [if_pos (by omega), decide_eq_true h3]
        rfl
      · rw [if_neg (by omega), decide_eq_false h3]
        rfl
theorem scal_j3 (k : Nat) (s x y : ByteArray) (c d : Int) (b q : Bool) (z1 : s.size ≤ 100000) (z2 : x.size ≤ 100000) (z3 : y.size ≤ 100000) (h : c ≠ d → lessS (s ++ x) (s ++ y) = (if q = true then false else b)) : orthoepylaw21_OrderScalars.j3 (k + 1) s x y c d b q = some true := by
  have y1 : s.size + x.size ≤ 9223372036854775807 := by omega
  have y2 : s.size + y.size ≤ 9223372036854775807 := by omega
  have y3 : (s ++ x).size ≤ 1000000 := by rw [ByteArray.size_append]; omega
  have y4 : (s ++ y).size ≤ 1000000 := by rw [ByteArray.size_append]; omega
  simp only [orthoepylaw21_OrderScalars.j3]
  by_cases e : c = d
  · cases q with
    | true => rw [if_pos (show true = true from rfl), if_pos e]; rfl
    | false => rw [if_neg (by decide), if_pos e]; rfl
  · have h2 := h e
    cases q with
    | true => rw [if_pos (show true = true from rfl), if_neg e, if_pos y1, if_pos y2, less_f y3 y4, Option.bind_some, h2]; rfl
    | false =>
      rw [if_neg (by decide), if_neg e, if_pos y1, if_pos y2, less_f y3 y4, Option.bind_some, h2]
      simp only [Bool.false_eq_true, if_false, beq_self_eq_true, if_true]
      rfl
theorem scal_j2 (k : Nat) (s x y : ByteArray) (c d : Int) (b : Bool) (z1 : s.size ≤ 100000) (z2 : x.size ≤ 100000) (z3 : y.size ≤ 100000) (h : c ≠ d → lessS (s ++ x) (s ++ y) = (if (65536 ≤ d ∧ 57344 ≤ c ∧ c < 65536) then false else b)) : orthoepylaw21_OrderScalars.j2 (k + 2) s x y c d b = some true := by
  simp only [orthoepylaw21_OrderScalars.j2]
  by_cases h1 : d ≥ 65536
  · rw [if_pos h1]
    by_cases h2 : c ≥ 57344
    · rw [if_pos h2]
      refine scal_j3 k s x y c d b _ z1 z2 z3 (fun e => (h e).trans ?_)
      by_cases h3 : c < 65536
      · rw [if_pos ⟨h1, h2, h3⟩, decide_eq_true h3]
        rfl
      · rw [if_neg (fun q => h3 q.2.2), decide_eq_false h3]
        rfl
    · rw [if_neg h2]
      refine scal_j3 k s x y c d b _ z1 z2 z3 (fun e => (h e).trans ?_)
      rw [if_neg (fun q => h2 q.2.1)]
      rfl
  · rw [if_neg h1]
    refine scal_j3 k s x y c d b _ z1 z2 z3 (fun e => (h e).trans ?_)
    rw [if_neg (fun q => h1 q.1)]
    rfl
theorem scal_j1 (k : Nat) (s x y : ByteArray) (c d : Int) (q : Bool) (z1 : s.size ≤ 100000) (z2 : x.size ≤ 100000) (z3 : y.size ≤ 100000) (hq : q = true ↔ (65536 ≤ c ∧ 57344 ≤ d ∧ d < 65536)) (h : c ≠ d → lessS (s ++ x) (s ++ y) = wantV c d) : orthoepylaw21_OrderScalars.j1 (k + 3) s x y c d (decide (c < d)) q = some true := by
  simp only [orthoepylaw21_OrderScalars.j1]
  unfold wantV at h
  cases q with
  | true =>
    rw [if_pos (show true = true from rfl)]
    refine scal_j2 k s x y c d true z1 z2 z3 (fun e => (h e).trans ?_)
    rw [if_pos (hq.1 rfl)]
  | false =>
    rw [if_neg (by decide)]
    refine scal_j2 k s x y c d _ z1 z2 z3 (fun e => (h e).trans ?_)
    rw [if_neg (show ¬ (65536 ≤ c ∧ 57344 ≤ d ∧ d < 65536) from fun w => by have := hq.2 w; cases this)]
theorem orderscalars_f (k : Nat) (hk : 1000 ≤ k) (l0 l1 l2 : List Int) (b0 : l0.length ≤ 140737488355328) (b1 : l1.length ≤ 140737488355328) (b2 : l2.length ≤ 140737488355328) : orthoepylaw21_OrderScalars.f k l0 l1 l2 = some true := by
  obtain ⟨L, hL, e0⟩ := lstr_val k l0 (by omega) b0
  obtain ⟨M, hM, e1⟩ := lstr_val k l1 (by omega) b1
  obtain ⟨K, hK, e2⟩ := lstr_val k l2 (by omega) b2
  have sL : ∀ c ∈ L, isScal c = true := fun c hc => (hL.1 c hc).1
  have sM : ∀ c ∈ M, isScal c = true := fun c hc => (hM.1 c hc).1
  have sK : ∀ c ∈ K, isScal c = true := fun c hc => (hK.1 c hc).1
  have nl : ∀ {L : List Int}, GoodL L → (strOfNums (textV L)).size ≤ 80 := fun {L} h => by
    have h1 := textV_len L
    have h2 := h.2
    have h3 : (strOfNums (textV L)).size = (textV L).length := by simp [strOfNums, ByteArray.size]
    omega
  have z0 := nl hL
  have z1 := nl hM
  have z2 := nl hK
  have f0 := bnums_nums (textV L) (textV_byt L)
  have f1 := bnums_nums (textV M) (textV_byt M)
  have f2 := bnums_nums (textV K) (textV_byt K)
  have g1 := scs_of sM f1
  have g2 := scs_of sK f2
  have hless := less_parts sL sM sK f0 f1 f2
  unfold orthoepylaw21_OrderScalars.f orthoepylaw00_Str.f
  rw [e0, Option.bind_some, e1, Option.bind_some, e2, Option.bind_some]
  clear e0 e1 e2 nl
  generalize strOfNums (textV L) = s at *
  generalize strOfNums (textV M) = x at *
  generalize strOfNums (textV K) = y at *
  unfold orthoepyref02_Of.f
  rw [if_pos (by omega), Option.bind_some, if_pos (by omega), Option.bind_some, g1, g2]
  clear f0 f1 f2 g1 g2 hL hM hK
  obtain ⟨k, rfl⟩ : ∃ m, k = m + 4 := ⟨k - 4, by omega⟩
  have y1 : s.size + x.size ≤ 9223372036854775807 := by omega
  have y2 : s.size + y.size ≤ 9223372036854775807 := by omega
  have y3 : (s ++ x).size ≤ 1000000 := by rw [ByteArray.size_append]; omega
  have y4 : (s ++ y).size ≤ 1000000 := by rw [ByteArray.size_append]; omega
  have jt : lessS (s ++ x) (s ++ y) = decide ((M.length : Int) < (K.length : Int)) → orthoepylaw21_OrderScalars.j0 (k + 4) s x y M K true = some true := fun h => by
    simp only [orthoepylaw21_OrderScalars.j0]
    rw [if_pos trivial, if_pos y1, if_pos y2, less_f y3 y4, Option.bind_some, h, if_pos (beq_self_eq_true _)]
    rfl
  cases M with
  | nil =>
    rw [if_pos (show ((([] : List Int).length : Nat) : Int) = 0 from rfl)]
    refine jt ?_
    rw [hless]
    cases K with
    | nil => rfl
    | cons d K =>
      have hne := unV_ne d (sK d (by simp))
      rw [List.flatMap_cons]
      cases e : unV d with
      | nil => exact absurd e hne
      | cons u r =>
        simp only [List.flatMap_nil, List.cons_append, cmpV, List.length_nil, List.length_cons]
        rw [decide_eq_true (by omega), decide_eq_true (by omega)]
  | cons c M =>
    rw [if_neg (by simp only [List.length_cons]; omega)]
    cases K with
    | nil =>
      refine jt ?_
      rw [hless]
      have hne := unV_ne c (sM c (by simp))
      rw [List.flatMap_cons]
      cases e : unV c with
      | nil => exact absurd e hne
      | cons u r =>
        simp only [List.flatMap_nil, List.cons_append, cmpV, List.length_nil, List.length_cons]
        rw [decide_eq_false (by omega), decide_eq_false (by omega)]
    | cons d K =>
      have hc := sM c (by simp)
      have hd := sK d (by simp)
      have hw : c ≠ d → lessS (s ++ x) (s ++ y) = wantV c d := fun e => by rw [hless, List.flatMap_cons, List.flatMap_cons, cmp_head c d hc hd e, want_less c d hc hd e]
      have e1 : ((((d :: K).length : Nat) : Int) == 0) = false := beq_eq_false_iff_ne.mpr (by simp only [List.length_cons]; omega)
      have r1 : rd (c :: M) 0 = c := rfl
      have r2 : rd (d :: K) 0 = d := rfl
      have p1 : (0 : Int) < (((c :: M).length : Nat) : Int) := by simp only [List.length_cons]; omega
      have p2 : (0 : Int) < (((d :: K).length : Nat) : Int) := by simp only [List.length_cons]; omega
      have z0' : s.size ≤ 100000 := by omega
      have z1' : x.size ≤ 100000 := by omega
      have z2' : y.size ≤ 100000 := by omega
      rw [e1]
      simp only [orthoepylaw21_OrderScalars.j0]
      rw [if_neg (by decide), if_pos p1, if_pos p2, r1, r2]
      by_cases q1 : c ≥ 65536
      · rw [if_pos q1]
        by_cases q2 : d ≥ 57344
        · rw [if_pos q2]
          exact scal_j1 k s x y c d _ z0' z1' z2' (by rw [decide_eq_true_eq]; omega) hw
        · rw [if_neg q2]
          exact scal_j1 k s x y c d _ z0' z1' z2' ⟨fun h => (by cases h), fun h => absurd h.2.1 q2⟩ hw
      · rw [if_neg q1]
        exact scal_j1 k s x y c d _ z0' z1' z2' ⟨fun h => (by cases h), fun h => absurd h.1 q1⟩ hw
theorem OrderScalars : orthoepylaw21_OrderScalars.Pure := by
  intro l0 l1 l2 _ b0 _ _ b1 _ _ b2 _
  obtain ⟨k, hk⟩ := fuel_ex 1000
  exact ⟨k, orderscalars_f k (by omega) l0 l1 l2 (by omega) (by omega) (by omega)⟩

end Go.Proofs.Ytajinnlaajhoeaa.Pure
