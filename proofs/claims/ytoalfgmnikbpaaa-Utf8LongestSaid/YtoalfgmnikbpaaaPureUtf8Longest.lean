/- The law Utf8Longest: of whatever bytes, at most 200 with at most 3 more: where bytes are no text, those ahead of the place can be brought to their end, and with one more none can; no condition. -/
import Derived.Test.YtoalfgmnikbpaaaPAllx10
import Derived.Test.YtoalfgmnikbpaaaLUtf
import Derived.Test.YtoalfgmnikbpaaaLRef
namespace Go.Proofs.Ytoalfgmnikbpaaa.Pure
open Go.RowKit Go.Proofs.Ytoalfgmnikbpaaa.PAll Go.Proofs.YtoalfgmnikbpaaaW.PrintWords Go.Proofs.YtoalfgmnikbpaaaW.PrintLast
set_option linter.unusedVariables false
set_option linter.unusedSimpArgs false

theorem byt_one {x : Int} (h : 0 ≤ x ∧ x ≤ 255) : Byt [x] := by
  intro a ha
  simp only [List.mem_cons, List.not_mem_nil, or_false] at ha
  subst ha
  exact h
/-- Where bytes end or fail, and what stands there. -/
theorem allV_cut : ∀ (r pre acc : List Int) (at_ : Int), (pre = [] ∨ howV pre = 1) → Byt pre → Byt r →
    ∃ (j : Nat) (pre' acc' : List Int), j ≤ r.length ∧ (allV pre acc at_ r).2.1 = at_ + j ∧ (pre' = [] ∨ howV pre' = 1) ∧ Byt pre' ∧
      (∀ q, allV pre acc at_ (r.take j ++ q) = allV pre' acc' (at_ + j) q) ∧
      ((allV pre acc at_ r).2.2 = true → j = r.length ∧ pre' = []) ∧
      (j < r.length → ∃ x s, r.drop j = x :: s ∧ howV (pre' ++ [x]) = 0) := by
  intro r
  induction r with
  | nil =>
    intro pre acc at_ hp hb _
    refine ⟨0, pre, acc, by simp, ?_, hp, hb, by simp, ?_, by simp⟩
    · simp only [allV]
      split <;> simp
    · simp only [allV]
      intro h
      split at h
      · rename_i e
        exact ⟨by simp, e⟩
      · simp at h
  | cons x r ih =>
    intro pre acc at_ hp hb hr
    have hx := hr x (by simp)
    have hr' : Byt r := fun a ha => hr a (by simp [ha])
    rcases howV_range (pre ++ [x]) with h0 | h1 | h2
    · refine ⟨0, pre, acc, by simp, ?_, hp, hb, by simp, ?_, fun _ => ⟨x, r, by simp, h0⟩⟩
      · simp [allV, h0]
      · simp [allV, h0]
    · have ea : ∀ t, allV pre acc at_ (x :: t) = allV (pre ++ [x]) acc (at_ + 1) t := by
        intro t
        simp [allV, h1]
      obtain ⟨j, pre', acc', hj, hn, hp', hb', hq, hok, hs⟩ := ih (pre ++ [x]) acc (at_ + 1) (.inr h1) (byt_append.mpr ⟨hb, byt_one hx⟩) hr'
      have e1 : at_ + 1 + (j : Int) = at_ + ((j + 1 : Nat) : Int) := by omega
      refine ⟨j + 1, pre', acc', by simp; omega, ?_, hp', hb', ?_, ?_, ?_⟩
      · rw [ea, hn, e1]
      · intro q
        rw [List.take_succ_cons, List.cons_append, ea, hq q, e1]
      · intro h
        rw [ea] at h
        have := hok h
        exact ⟨by simp; omega, this.2⟩
      · intro h
        simpa using hs (by simp at h; omega)
    · have ea : ∀ t, allV pre acc at_ (x :: t) = allV [] (acc ++ [ofV (pre ++ [x])]) (at_ + 1) t := by
        intro t
        simp [allV, h2]
      obtain ⟨j, pre', acc', hj, hn, hp', hb', hq, hok, hs⟩ := ih [] (acc ++ [ofV (pre ++ [x])]) (at_ + 1) (.inl rfl) (by intro a ha; cases ha) hr'
      have e1 : at_ + 1 + (j : Int) = at_ + ((j + 1 : Nat) : Int) := by omega
      refine ⟨j + 1, pre', acc', by simp; omega, ?_, hp', hb', ?_, ?_, ?_⟩
      · rw [ea, hn, e1]
      · intro q
        rw [List.take_succ_cons, List.cons_append, ea, hq q, e1]
      · intro h
        rw [ea] at h
        have := hok h
        exact ⟨by simp; omega, this.2⟩
      · intro h
        simpa using hs (by simp at h; omega)
/-- Bytes s, with 'pre' begun at their end. -/
def St (s pre : List Int) : Prop := (pre = [] ∨ howV pre = 1) ∧ Byt s ∧ Byt pre ∧ ∃ acc, ∀ q, allV [] [] 0 (s ++ q) = allV pre acc (s.length : Int) q
theorem st_end {s pre : List Int} (h : St s pre) : (allV [] [] 0 s).2.2 = decide (pre = []) := by
  obtain ⟨_, _, _, acc, hq⟩ := h
  have := hq []
  rw [List.append_nil] at this
  rw [this]
  simp only [allV]
  by_cases e : pre = []
  · simp [e]
  · simp [e]
theorem st_more {s pre : List Int} {x : Int} (h : St s pre) (hx : 0 ≤ x ∧ x ≤ 255) :
    (howV (pre ++ [x]) = 2 → St (s ++ [x]) []) ∧ (howV (pre ++ [x]) = 1 → St (s ++ [x]) (pre ++ [x])) ∧
    (howV (pre ++ [x]) = 0 → (allV [] [] 0 (s ++ [x])).2.1 = s.length) ∧ (howV (pre ++ [x]) ≠ 0 → (allV [] [] 0 (s ++ [x])).2.1 = s.length + 1) := by
  obtain ⟨hp, hs, hb, acc, hq⟩ := h
  have hsx : Byt (s ++ [x]) := byt_append.mpr ⟨hs, byt_one hx⟩
  have hlen : ((s ++ [x]).length : Int) = (s.length : Int) + 1 := by simp
  refine ⟨fun h2 => ⟨.inl rfl, hsx, (by intro a ha; cases ha), acc ++ [ofV (pre ++ [x])], fun q => ?_⟩, fun h1 => ⟨.inr h1, hsx, byt_append.mpr ⟨hb, byt_one hx⟩, acc, fun q => ?_⟩, fun h0 => ?_, fun h0 => ?_⟩
  · rw [List.append_assoc, hq, hlen]
    simp [allV, h2]
  · rw [List.append_assoc, hq, hlen]
    simp [allV, h1]
  · rw [hq]
    simp [allV, h0]
  · rw [hq]
    rcases howV_range (pre ++ [x]) with e | e | e
    · exact absurd e h0
    · simp [allV, e]
    · simp [allV, e]
theorem next_byte {a : Int} {r : List Int} (hw : howV (a :: r) = 1) : ∃ X : Int, 128 ≤ X ∧ X ≤ 190 ∧ howV (a :: r ++ [X]) ≠ 0 := by
  refine ⟨if a = 224 then 160 else if a = 240 then 144 else 128, by (repeat' split) <;> omega, by (repeat' split) <;> omega, ?_⟩
  rw [(how_more a r _ hw).1]
  have hx : secV a (if a = 224 then 160 else if a = 240 then 144 else 128) = true := by
    unfold secV
    simp only [decide_eq_true_eq]
    (repeat' split) <;> omega
  have ht := secV_tail hx
  rw [hx, ht]
  simp only [Bool.true_eq_false, and_false, or_self, if_false]
  split <;> decide
def remV : List Int → Int
  | [] => 0
  | a :: r => szV a - (r.length + 1)
theorem begins_val (k : Nat) (xs : List Int) (hb : Byt xs) (hl : xs.length < 1000000000000) (hk : 2 * xs.length + 14 < k) : orthoepylaw02_begins.f k xs = some ((allV [] [] 0 xs).2.1 == (xs.length : Int)) := by
  unfold orthoepylaw02_begins.f
  rw [rall_val k xs hb hl hk, Option.bind_some]
theorem longest_l1 (x0 x1 s pre : List Int) (n i : Int) (ok : Bool) (st : St s pre) (hs : s.length ≤ 300) (X : Int) (hX : X ≤ 190) (hw : howV (pre ++ [X]) ≠ 0) (B : Nat) (hB : 1000 ≤ B)
    (next : ∀ (k : Nat) (x : Int), B ≤ k → 128 ≤ x → x ≤ 190 → howV (pre ++ [x]) ≠ 0 → orthoepylaw02_Utf8Longest.l0 k x0 x1 n ok (s ++ [x]) (wrap64 (i + 1)) = some true) :
    ∀ (d k : Nat) (x : Int), 128 ≤ x → X - x = d → B + d + 1 ≤ k → orthoepylaw02_Utf8Longest.l1 k x0 x1 n ok s i x = some true := by
  intro d
  induction d with
  | zero =>
    intro k x h0 hd hk
    obtain ⟨k, rfl⟩ : ∃ m, k = m + 1 := ⟨k - 1, by omega⟩
    have e : x = X := by omega
    subst e
    have hxx : 0 ≤ x ∧ x ≤ 255 := by omega
    have hsx : Byt (s ++ [x]) := byt_append.mpr ⟨st.2.1, byt_one hxx⟩
    simp only [orthoepylaw02_Utf8Longest.l1]
    rw [if_pos (by omega)]
    simp only [Option.bind_some, List.length_nil, Nat.zero_add, List.nil_append]
    rw [if_pos (by omega), if_pos (by omega), begins_val k _ hsx (by simp; omega) (by simp; omega), (st_more st hxx).2.2.2 hw]
    simp only [Option.bind_some, List.length_append, List.length_cons, List.length_nil]
    rw [if_pos (by simp), if_pos (by omega)]
    exact next k x (by omega) h0 hX hw
  | succ d ih =>
    intro k x h0 hd hk
    obtain ⟨k, rfl⟩ : ∃ m, k = m + 1 := ⟨k - 1, by omega⟩
    have hxx : 0 ≤ x ∧ x ≤ 255 := by omega
    have hsx : Byt (s ++ [x]) := byt_append.mpr ⟨st.2.1, byt_one hxx⟩
    simp only [orthoepylaw02_Utf8Longest.l1]
    rw [if_pos (by omega)]
    simp only [Option.bind_some, List.length_nil, Nat.zero_add, List.nil_append]
    rw [if_pos (by omega), if_pos (by omega), begins_val k _ hsx (by simp; omega) (by simp; omega)]
    by_cases hz : howV (pre ++ [x]) = 0
    · rw [(st_more st hxx).2.2.1 hz]
      simp only [Option.bind_some, List.length_append, List.length_cons, List.length_nil]
      rw [if_neg (by simp; omega), show (x + 1) % 256 = x + 1 by omega]
      exact ih k (x + 1) (by omega) (by omega) (by omega)
    · rw [(st_more st hxx).2.2.2 hz]
      simp only [Option.bind_some, List.length_append, List.length_cons, List.length_nil]
      rw [if_pos (by simp), if_pos (by omega)]
      exact next k x (by omega) h0 (by omega) hz
theorem longest_l0 (x0 x1 : List Int) (n : Int) (ok : Bool)
    (fin : ∀ (k : Nat) (s : List Int), St s [] → s.length ≤ 300 → 2000 ≤ k → orthoepylaw02_Utf8Longest.j4 k x0 x1 n ok s = some true) :
    ∀ (m k : Nat) (s pre : List Int) (i : Int), i = 3 - (m : Int) → m ≤ 3 → St s pre → remV pre ≤ m → s.length + m ≤ 250 → 3000 + 200 * m ≤ k → orthoepylaw02_Utf8Longest.l0 k x0 x1 n ok s i = some true := by
  intro m
  induction m with
  | zero =>
    intro k s pre i hi _ st hr hl hk
    obtain ⟨k, rfl⟩ : ∃ m, k = m + 1 := ⟨k - 1, by omega⟩
    have hp : pre = [] := by
      rcases st.1 with e | e
      · exact e
      · cases pre with
        | nil => rfl
        | cons a r =>
          have := howV_one_sz e
          simp only [remV] at hr
          omega
    subst hp
    simp only [orthoepylaw02_Utf8Longest.l0]
    rw [if_neg (by omega)]
    exact fin k s st (by omega) (by omega)
  | succ m ih =>
    intro k s pre i hi hm st hr hl hk
    obtain ⟨k, rfl⟩ : ∃ m, k = m + 1 := ⟨k - 1, by omega⟩
    simp only [orthoepylaw02_Utf8Longest.l0]
    rw [if_pos (by omega), rall_val k s st.2.1 (by omega) (by omega), Option.bind_some, st_end st]
    by_cases hp : pre = []
    · subst hp
      rw [if_pos (by simp)]
      exact fin k s st (by omega) (by omega)
    · rw [if_neg (by simpa using hp)]
      have h1 : howV pre = 1 := by
        rcases st.1 with e | e
        · exact absurd e hp
        · exact e
      obtain ⟨a, r, rfl⟩ : ∃ a r, pre = a :: r := by
        cases pre with
        | nil => exact absurd rfl hp
        | cons a r => exact ⟨a, r, rfl⟩
      obtain ⟨X, hX0, hX1, hw⟩ := next_byte h1
      have hi1 : wrap64 (i + 1) = 3 - (m : Int) := by unfold wrap64; omega
      refine longest_l1 x0 x1 s (a :: r) n i ok st (by omega) X hX1 hw (3000 + 200 * m) (by omega) ?_ (X - 128).toNat k 128 (by omega) (by omega) (by omega)
      intro k' x hk' hx0 hx1 hwx
      rw [hi1]
      have hxx : 0 ≤ x ∧ x ≤ 255 := by omega
      rcases howV_range (a :: r ++ [x]) with e | e | e
      · exact absurd e hwx
      · refine ih k' (s ++ [x]) (a :: r ++ [x]) _ rfl (by omega) ((st_more st hxx).2.1 e) ?_ (by simp; omega) hk'
        simp only [remV] at hr
        simp only [List.cons_append, remV, List.length_append, List.length_cons, List.length_nil]
        omega
      · exact ih k' (s ++ [x]) [] _ rfl (by omega) ((st_more st hxx).1 e) (by simp [remV]) (by simp; omega) hk'
theorem take_more {b : List Int} {j : Nat} {x : Int} {r : List Int} (hd : b.drop j = x :: r) : b.take (j + 1) = b.take j ++ [x] := by
  have h := take_succ b (j : Int) x r (by omega) (by rw [Int.toNat_natCast]; exact hd)
  rwa [show ((j : Int) + 1).toNat = j + 1 by omega, Int.toNat_natCast] at h
theorem Utf8Longest : orthoepylaw02_Utf8Longest.Pure := by
  intro b more _ _ hb _ _ hm
  obtain ⟨K, hK⟩ : ∃ K : Nat, 5000 ≤ K := ⟨5000, Nat.le_refl _⟩
  refine ⟨K + 2, ?_⟩
  have hbb := byt_wf hb
  have hmm := byt_wf hm
  have ja : orthoepylaw02_Utf8Longest.j0 (K + 2) b more true = some true := by
    simp [orthoepylaw02_Utf8Longest.j0, orthoepylaw02_awake.f]
  have jb : b.length ≤ 200 → more.length ≤ 3 → orthoepylaw02_Utf8Longest.j0 (K + 2) b more false = some true := by
    intro h1 h2
    obtain ⟨j, pre, acc, hj, hn, hp, hpb, hq, hok, hs⟩ := allV_cut b [] [] 0 (.inl rfl) (by intro a ha; cases ha) hbb
    rw [Int.zero_add] at hn
    simp only [Int.zero_add] at hq
    have hlt : (b.take j).length = j := by rw [List.length_take]; omega
    have st : St (b.take j) pre := ⟨hp, byt_take hbb j, hpb, acc, fun q => by rw [hq, hlt]⟩
    have hrem : remV pre ≤ 3 := by
      cases pre with
      | nil => simp [remV]
      | cons a r =>
        have := howV_one_sz (hp.resolve_left (by simp))
        simp only [remV]
        omega
    have fin : ∀ (k : Nat) (s : List Int), St s [] → s.length ≤ 300 → 2000 ≤ k → orthoepylaw02_Utf8Longest.j4 k b more (j : Int) (allV [] [] 0 b).2.2 s = some true := by
      intro k s hst hsl hk
      obtain ⟨k, rfl⟩ : ∃ m, k = m + 2 := ⟨k - 2, by omega⟩
      have j5t : orthoepylaw02_Utf8Longest.j5 (k + 1) b more (j : Int) true = some true := by
        simp [orthoepylaw02_Utf8Longest.j5, orthoepylaw02_awake.f]
      simp only [orthoepylaw02_Utf8Longest.j4]
      rw [all_val (k + 1) s hst.2.1 (by omega) (by omega), Option.bind_some, st_end hst, if_pos (by simp)]
      by_cases hk1 : (allV [] [] 0 b).2.2 = true
      · rw [if_pos hk1]
        exact j5t
      · rw [if_neg hk1]
        by_cases hjl : j = b.length
        · rw [show ((j : Int) == (b.length : Int)) = true by simp [hjl]]
          exact j5t
        · rw [show ((j : Int) == (b.length : Int)) = false by simp; omega]
          obtain ⟨x, r, hd, hz⟩ := hs (by omega)
          have hz' := Aside0.mk hz
          have ew : wrap64 ((j : Int) + 1) = ((j + 1 : Nat) : Int) := by unfold wrap64; omega
          have ht : b.take (j + 1) = b.take j ++ [x] := by
            exact take_more hd
          have hxb : Byt (b.take (j + 1) ++ more) := byt_append.mpr ⟨byt_take hbb _, hmm⟩
          have hbt : (b.take (j + 1)).length ≤ b.length := List.length_take_le' _ _
          simp only [orthoepylaw02_Utf8Longest.j5]
          rw [if_neg (by decide), ew]
          clear ew hn hz
          simp only [Option.bind_some, List.length_nil, Nat.zero_add, List.nil_append, Int.toNat_natCast]
          rw [if_pos (by omega), if_pos (by omega), if_pos (by omega), if_pos (by omega), all_val k _ hxb (by simp; omega) (by simp; omega), Option.bind_some, ht, List.append_assoc, hq]
          simp only [List.cons_append, List.nil_append, allV, hz'.out]
          simp [orthoepylaw02_awake.f]
    have lv : orthoepylaw02_Utf8Longest.l0 K b more (j : Int) (allV [] [] 0 b).2.2 (b.take j) 0 = some true :=
      longest_l0 b more (j : Int) (allV [] [] 0 b).2.2 fin 3 K (b.take j) pre 0 (by omega) (by omega) st hrem (by omega) (by omega)
    have j1v : orthoepylaw02_Utf8Longest.j1 (K + 1) b more (j : Int) (allV [] [] 0 b).2.2 false = some true := by
      simp only [orthoepylaw02_Utf8Longest.j1]
      rw [if_neg (by decide)]
      simp only [Option.bind_some, List.length_nil, Nat.zero_add, List.nil_append, Int.toNat_natCast]
      rw [if_pos (by omega), if_pos (by omega), if_pos (by omega)]
      exact lv
    simp only [orthoepylaw02_Utf8Longest.j0]
    rw [if_neg (by decide), all_val (K + 1) b hbb (by omega) (by omega), Option.bind_some, hn, if_neg (by omega), if_neg (by omega)]
    by_cases hk1 : (allV [] [] 0 b).2.2 = true
    · rw [if_pos hk1, show ((j : Int) != (b.length : Int)) = false by simp [(hok hk1).1]]
      exact j1v
    · rw [if_neg hk1]
      exact j1v
  unfold orthoepylaw02_Utf8Longest.f
  by_cases h1 : (b.length : Int) > 200
  · rw [if_pos h1]
    exact ja
  · rw [if_neg h1]
    by_cases h2 : (more.length : Int) > 3
    · rw [decide_eq_true h2]
      exact ja
    · rw [decide_eq_false h2]
      exact jb (by omega) (by omega)

end Go.Proofs.Ytoalfgmnikbpaaa.Pure
