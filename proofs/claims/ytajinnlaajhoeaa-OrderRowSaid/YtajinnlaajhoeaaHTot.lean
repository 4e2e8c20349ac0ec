/- What the functions of the chapter answer, whatever the texts. -/
import Derived.Test.YtajinnlaajhoeaaPAllx1
import Derived.Test.YtajinnlaajhoeaaPAllx2
import Derived.Test.YtajinnlaajhoeaaPAllx3
import Derived.Test.YtajinnlaajhoeaaPAllx4
import Derived.Test.YtajinnlaajhoeaaPAllx5
import Derived.Test.YtajinnlaajhoeaaPAllx6
import Derived.Test.YtajinnlaajhoeaaPAllx7
import Derived.Test.YtajinnlaajhoeaaHKit
import Derived.Test.YtajinnlaajhoeaaHMerge
import Derived.Test.YtajinnlaajhoeaaHOrder
import Derived.Test.YtajinnlaajhoeaaLUtf
import Derived.Test.YtajinnlaajhoeaaLRef
import Derived.Test.YtajinnlaajhoeaaLU16
import Derived.Outline
import Derived.OwnWalk
namespace Go.Proofs.Ytajinnlaajhoeaa.Pure
open Go.RowKit Go.Proofs.Ytajinnlaajhoeaa.PAll Go.Proofs.YtajinnlaajhoeaaW.PrintWords Go.Proofs.YtajinnlaajhoeaaW.PrintLast Go.Proofs.YtajinnlaajhoeaaW.PrintMore
set_option linter.unusedVariables false
set_option linter.unusedSimpArgs false

/-! ### Texts and their scalars, plainly -/
theorem enc_of {b : List Int} (hb : Byt b) (h : howV b = 2) : encV (ofV b) = b ∧ isScal (ofV b) = true := by
  match b, h, hb with
  | [], h, _ => simp [howV] at h
  | [f], h, hb =>
    have hz := szV_bounds f
    have hf := hb f (by simp)
    simp only [howV] at h
    (repeat' split at h) <;> (try omega)
    rename_i e
    have e2 := hz.1 e
    have e3 : ofV [f] = f := by simp only [ofV, baseV]; rw [if_pos e2]; omega
    rw [e3]
    have hS : isScal f = true := by unfold isScal; exact decide_eq_true (by omega)
    exact ⟨by unfold encV; rw [if_pos hS, if_pos e2], hS⟩
  | [f, x], h, hb =>
    have hz := szV_bounds f
    simp only [howV] at h
    (repeat' split at h) <;> (try omega)
    rename_i q e
    have e2 := hz.2.1 e
    have hs : secV f x = true := by
      cases q2 : secV f x with
      | true => rfl
      | false => exact absurd (.inr q2) q
    simp only [secV, decide_eq_true_eq] at hs
    have e3 : ofV [f, x] = (f - 192) * 64 + (x - 128) := by simp only [ofV, baseV]; rw [if_neg (by omega), if_pos (by omega)]
    rw [e3]
    clear hz q e
    obtain ⟨hs1, hs2, -⟩ := hs
    have hS : isScal ((f - 192) * 64 + (x - 128)) = true := by
      unfold isScal
      exact decide_eq_true (by omega)
    refine ⟨?_, hS⟩
    unfold encV
    rw [if_pos hS, if_neg (by omega), if_pos (by omega)]
    rw [show 192 + ((f - 192) * 64 + (x - 128)) / 64 = f by omega, show 128 + ((f - 192) * 64 + (x - 128)) % 64 = x by omega]
  | [f, x, y], h, hb =>
    have hz := szV_bounds f
    simp only [howV] at h
    (repeat' split at h) <;> (try omega)
    rename_i q e
    have e2 := hz.2.2.1 e
    have hs : secV f x = true := by
      cases q2 : secV f x with
      | true => rfl
      | false => exact absurd (.inr (.inl q2)) q
    have ht : tailV y = true := by
      cases q2 : tailV y with
      | true => rfl
      | false => exact absurd (.inr (.inr q2)) q
    simp only [secV, tailV, decide_eq_true_eq] at hs ht
    have e3 : ofV [f, x, y] = ((f - 224) * 64 + (x - 128)) * 64 + (y - 128) := by simp only [ofV, baseV]; rw [if_neg (by omega), if_neg (by omega), if_pos (by omega)]
    rw [e3]
    clear hz q e
    obtain ⟨hs1, hs2, hs3, hs4, -⟩ := hs
    have hlo : 2048 ≤ ((f - 224) * 64 + (x - 128)) * 64 + (y - 128) := by omega
    have hhi : ((f - 224) * 64 + (x - 128)) * 64 + (y - 128) < 65536 := by omega
    have hS : isScal (((f - 224) * 64 + (x - 128)) * 64 + (y - 128)) = true := by
      unfold isScal
      refine decide_eq_true ⟨by omega, by omega, ?_⟩
      by_cases hf : f = 237
      · have := hs4 hf
        left
        omega
      · omega
    refine ⟨?_, hS⟩
    unfold encV
    rw [if_pos hS, if_neg (by omega), if_neg (by omega), if_pos hhi]
    rw [show 224 + (((f - 224) * 64 + (x - 128)) * 64 + (y - 128)) / 4096 = f by omega, show 128 + (((f - 224) * 64 + (x - 128)) * 64 + (y - 128)) / 64 % 64 = x by omega, show 128 + (((f - 224) * 64 + (x - 128)) * 64 + (y - 128)) % 64 = y by omega]
  | [f, x, y, z], h, hb =>
    have hz := szV_bounds f
    have hr := szV_range f
    simp only [howV] at h
    (repeat' split at h) <;> (try omega)
    rename_i q
    have e2 := hz.2.2.2 (by omega)
    have hs : secV f x = true := by
      cases q2 : secV f x with
      | true => rfl
      | false => exact absurd (.inr (.inl q2)) q
    have ht : tailV y = true := by
      cases q2 : tailV y with
      | true => rfl
      | false => exact absurd (.inr (.inr (.inl q2))) q
    have hu : tailV z = true := by
      cases q2 : tailV z with
      | true => rfl
      | false => exact absurd (.inr (.inr (.inr q2))) q
    simp only [secV, tailV, decide_eq_true_eq] at hs ht hu
    have e3 : ofV [f, x, y, z] = (((f - 240) * 64 + (x - 128)) * 64 + (y - 128)) * 64 + (z - 128) := by simp only [ofV, baseV]; rw [if_neg (by omega), if_neg (by omega), if_neg (by omega)]
    rw [e3]
    clear hz q hr
    obtain ⟨hs1, hs2, hs3, hs4, hs5, hs6⟩ := hs
    have hlo : 65536 ≤ (((f - 240) * 64 + (x - 128)) * 64 + (y - 128)) * 64 + (z - 128) := by omega
    have hhi : (((f - 240) * 64 + (x - 128)) * 64 + (y - 128)) * 64 + (z - 128) ≤ 1114111 := by omega
    have hS : isScal ((((f - 240) * 64 + (x - 128)) * 64 + (y - 128)) * 64 + (z - 128)) = true := by
      unfold isScal
      exact decide_eq_true (by omega)
    refine ⟨?_, hS⟩
    unfold encV
    rw [if_pos hS, if_neg (by omega), if_neg (by omega), if_neg (by omega)]
    rw [show 240 + ((((f - 240) * 64 + (x - 128)) * 64 + (y - 128)) * 64 + (z - 128)) / 262144 = f by omega, show 128 + ((((f - 240) * 64 + (x - 128)) * 64 + (y - 128)) * 64 + (z - 128)) / 4096 % 64 = x by omega, show 128 + ((((f - 240) * 64 + (x - 128)) * 64 + (y - 128)) * 64 + (z - 128)) / 64 % 64 = y by omega, show 128 + ((((f - 240) * 64 + (x - 128)) * 64 + (y - 128)) * 64 + (z - 128)) % 64 = z by omega]
  | _ :: _ :: _ :: _ :: _ :: _, h, _ => simp [howV] at h
theorem byt_snoc {b : List Int} {x : Int} (hb : Byt b) (hx : 0 ≤ x ∧ x ≤ 255) : Byt (b ++ [x]) := fun y hy => by
  rcases List.mem_append.1 hy with h | h
  · exact hb y h
  · obtain rfl : y = x := by simpa using h
    exact hx
theorem allV_back : ∀ (r pre acc : List Int) (at_ : Int), Byt pre → Byt r → (allV pre acc at_ r).2.2 = true → ∃ s, (allV pre acc at_ r).1 = acc ++ s ∧ textV s = pre ++ r ∧ ∀ c ∈ s, isScal c = true
  | [], pre, acc, at_, _, _, h => by
    simp only [allV] at h ⊢
    by_cases hp : pre = []
    · rw [if_pos hp]
      exact ⟨[], by simp, by simp [hp, textV], fun _ h => by cases h⟩
    · rw [if_neg hp] at h
      cases h
  | x :: r, pre, acc, at_, hp, hr, h => by
    have hx := hr x (by simp)
    have hr2 : Byt r := fun y hy => hr y (by simp [hy])
    have hb := byt_snoc hp hx
    simp only [allV] at h ⊢
    by_cases h2 : howV (pre ++ [x]) = 2
    · rw [if_pos h2] at h ⊢
      obtain ⟨s, e1, e2, e3⟩ := allV_back r [] (acc ++ [ofV (pre ++ [x])]) (at_ + 1) (fun _ h => by cases h) hr2 h
      obtain ⟨g1, g2⟩ := enc_of hb h2
      refine ⟨ofV (pre ++ [x]) :: s, by rw [e1]; simp, by rw [textV_cons, g1, e2]; simp, fun c hc => ?_⟩
      rcases List.mem_cons.1 hc with rfl | hc
      · exact g2
      · exact e3 c hc
    · rw [if_neg h2] at h ⊢
      by_cases h1 : howV (pre ++ [x]) = 1
      · rw [if_pos h1] at h ⊢
        obtain ⟨s, e1, e2, e3⟩ := allV_back r (pre ++ [x]) acc (at_ + 1) hb hr2 h
        exact ⟨s, e1, by rw [e2]; simp, e3⟩
      · rw [if_neg h1] at h
        cases h
theorem allV_no : ∀ (r pre acc : List Int) (at_ : Int), (allV pre acc at_ r).2.2 = false → (allV pre acc at_ r).1 = []
  | [], pre, acc, at_, h => by
    simp only [allV] at h ⊢
    by_cases hp : pre = []
    · rw [if_pos hp] at h
      cases h
    · rw [if_neg hp]
  | x :: r, pre, acc, at_, h => by
    simp only [allV] at h ⊢
    by_cases h2 : howV (pre ++ [x]) = 2
    · rw [if_pos h2] at h ⊢
      exact allV_no r _ _ _ h
    · rw [if_neg h2] at h ⊢
      by_cases h1 : howV (pre ++ [x]) = 1
      · rw [if_pos h1] at h ⊢
        exact allV_no r _ _ _ h
      · rw [if_neg h1]
theorem bnums_byt (s : ByteArray) : Byt (bnums s) := fun y hy => by
  obtain ⟨b, _, rfl⟩ := List.mem_map.1 hy
  have := b.toNat_lt
  omega
theorem bnums_inj {a b : ByteArray} (h : bnums a = bnums b) : a = b := by
  unfold bnums at h
  apply ByteArray.ext
  apply Array.ext'
  refine List.map_inj_right (f := fun b : UInt8 => (b.toNat : Int)) ?_ |>.1 h
  intro x y e
  exact UInt8.toNat_inj.1 (Int.ofNat.inj e)
/-- The scalars of a text; is it right? -/
def scs (s : ByteArray) : List Int := (allV [] [] 0 (bnums s)).1
def okS (s : ByteArray) : Bool := (allV [] [] 0 (bnums s)).2.2
theorem scs_ok {s : ByteArray} (h : okS s = true) : textV (scs s) = bnums s ∧ ∀ c ∈ scs s, isScal c = true := by
  obtain ⟨t, e1, e2, e3⟩ := allV_back (bnums s) [] [] 0 (fun _ h => by cases h) (bnums_byt s) h
  have : scs s = t := by unfold scs; rw [e1]; simp
  rw [this]
  exact ⟨by simpa using e2, e3⟩
theorem scs_scal (s : ByteArray) : ∀ c ∈ scs s, isScal c = true := by
  cases h : okS s with
  | true => exact (scs_ok h).2
  | false => intro c hc; rw [show scs s = [] from allV_no _ _ _ _ h] at hc; cases hc
theorem enc_pos (c : Int) (hc : isScal c = true) : 1 ≤ (encV c).length := by
  unfold encV
  rw [if_pos hc]
  (repeat' split) <;> simp
theorem text_ge : ∀ l : List Int, (∀ c ∈ l, isScal c = true) → l.length ≤ (textV l).length
  | [], _ => Nat.zero_le _
  | c :: l, h => by
    have h1 := enc_pos c (h c (by simp))
    have h2 := text_ge l (fun d hd => h d (by simp [hd]))
    rw [textV_cons, List.length_append, List.length_cons]
    omega
theorem scs_len (s : ByteArray) : (scs s).length ≤ s.size := by
  cases h : okS s with
  | true =>
    have h1 := text_ge (scs s) (scs_ok h).2
    rw [(scs_ok h).1, bnums_len] at h1
    exact h1
  | false => rw [show scs s = [] from allV_no _ _ _ _ h]; exact Nat.zero_le _
theorem scs_inj {a b : ByteArray} (ha : okS a = true) (hb : okS b = true) (h : scs a = scs b) : a = b :=
  bnums_inj (by rw [← (scs_ok ha).1, ← (scs_ok hb).1, h])
def unS (s : ByteArray) : List Int := (scs s).flatMap unV
/-- Is a text ahead of another one? -/
def lessS (a b : ByteArray) : Bool := decide (cmpV (unS a) (unS b) < 0)
theorem lessS_not {a b : ByteArray} : lessS a b = false ↔ 0 ≤ cmpV (unS a) (unS b) := by unfold lessS; rw [decide_eq_false_iff_not]; omega
theorem lessS_yes {a b : ByteArray} : lessS a b = true ↔ cmpV (unS a) (unS b) < 0 := by unfold lessS; rw [decide_eq_true_eq]
theorem lessS_self (a : ByteArray) : lessS a a = false := lessS_not.2 (by rw [cmpV_self]; exact Int.le_refl _)
theorem lessS_asymm {a b : ByteArray} (h : lessS a b = true) : lessS b a = false := by
  rw [lessS_yes] at h
  rw [lessS_not, cmpV_neg]
  omega
/-- Not less is an order: what is not ahead of what is not ahead is not ahead. -/
theorem lessS_trans {a b c : ByteArray} (h : lessS b a = false) (h2 : lessS c b = false) : lessS c a = false := by
  rw [lessS_not, cmpV_neg] at h h2
  have := cmpV_trans (unS a) (unS b) (unS c) (by omega) (by omega)
  rw [lessS_not, cmpV_neg]
  omega
theorem lessS_lt {a b c : ByteArray} (h : lessS a b = true) (h2 : lessS b c = true) : lessS a c = true := by
  cases h3 : lessS a c with
  | true => rfl
  | false =>
    have h4 := lessS_trans (lessS_asymm h2) h3
    rw [h] at h4
    cases h4
theorem lessS_eq {a b : ByteArray} (ha : okS a = true) (hb : okS b = true) (h : lessS a b = false) (h2 : lessS b a = false) : a = b := by
  rw [lessS_not] at h h2
  rw [cmpV_neg] at h2
  exact scs_inj ha hb (units_inj _ _ (scs_scal a) (scs_scal b) (cmpV_eq _ _ (by unfold unS at h h2; omega)))
/-! ### What the functions tell, plainly -/
theorem sall_val (k : Nat) (s : ByteArray) (hs : s.size ≤ 1000000) (hk : 1000010 < k) : ∃ at_ b, utf8_All.f k (bnums s) = some (scs s, at_, b) :=
  ⟨_, _, all_val k (bnums s) (bnums_byt s) (by rw [bnums_len]; omega) (by rw [bnums_len]; omega)⟩
theorem rsall_val (k : Nat) (s : ByteArray) (hs : s.size ≤ 1000000) (hk : 2000020 < k) : ∃ at_, orthoepyref02_All.f k (bnums s) = some (scs s, at_, okS s) :=
  ⟨_, rall_val k (bnums s) (bnums_byt s) (by rw [bnums_len]; omega) (by rw [bnums_len]; omega)⟩
def ltI (x y : S45) : Bool := decide (cmpV (x.f1.flatMap unV) (y.f1.flatMap unV) < 0)
theorem less_val (k : Nat) (p q : Int) (L M : List Int) (hL : ∀ c ∈ L, isScal c = true) (hM : ∀ c ∈ M, isScal c = true) (hl : L.length ≤ 1000000) (hm : M.length ≤ 1000000) (hk : 2000010 < k) :
    order_less.f k p L q M = some (ltI ⟨p, L⟩ ⟨q, M⟩) := by
  unfold order_less.f
  rw [compare_val k L M (by omega) (by omega) (scal_le hL) (scal_le hM) (by omega), Option.bind_some]
  rfl
theorem places_l0 (rest : List S45) : ∀ (k : Nat) (acc : List Int) (x0 : List S45) (i : Int), 0 ≤ i → x0.drop i.toNat = rest → i ≤ x0.length → x0.length < 1000000000 → (acc.length : Int) ≤ i → rest.length < k →
    order_places.l0 k acc x0 (x0.length : Int) i = some (acc ++ rest.map (·.f0)) := by
  induction rest with
  | nil =>
    intro k acc x0 i h0 hx hi hl ha hk
    obtain ⟨k, rfl⟩ : ∃ m, k = m + 1 := ⟨k - 1, by omega⟩
    have hlen : (x0.length : Int) = i := by
      have := congrArg List.length hx
      simp at this
      omega
    simp only [order_places.l0]
    rw [if_neg (by omega)]
    simp
  | cons x r ih =>
    intro k acc x0 i h0 hx hi hl ha hk
    obtain ⟨k, rfl⟩ : ∃ m, k = m + 1 := ⟨k - 1, by omega⟩
    have hlt : i.toNat < x0.length := by
      have := congrArg List.length hx
      simp at this
      omega
    have hg := congrArg (fun l => l[0]?) hx
    simp only [List.getElem?_drop, Nat.add_zero, List.getElem?_cons_zero] at hg
    have hdrop : x0.drop (i + 1).toNat = r := by
      rw [show (i + 1).toNat = i.toNat + 1 by omega, ← List.drop_drop, hx]
      rfl
    have ew : wrap64 (i + 1) = i + 1 := by unfold wrap64; omega
    simp only [order_places.l0]
    rw [if_pos (by omega), if_pos h0]
    have hrd : rd_T45 x0 i = x := by
      unfold rd_T45
      rw [List.getD_eq_getElem?_getD, hg]
      rfl
    rw [ew, hrd]
    have := ih k (acc ++ [x.f0]) x0 (i + 1) (by omega) hdrop (by omega) hl (by simp; omega) (by simp at hk; omega)
    rw [if_pos (by omega), if_pos (by omega), this]
    simp
theorem places_val (k : Nat) (l : List S45) (hl : l.length < 1000000000) (hk : l.length < k) : order_places.f k l = some (l.map (·.f0)) := by
  unfold order_places.f
  have := places_l0 l k [] l 0 (by omega) rfl (by omega) hl (by simp) hk
  simpa using this

/-! ### What the functions of the chapter answer, whatever the texts (not too long) -/
theorem fuel_ex (n : Nat) : ∃ k, n < k := ⟨n + 1, Nat.lt_succ_self n⟩
theorem less_tot (a b : ByteArray) (w : World) (ha : a.size ≤ 1000000) (hb : b.size ≤ 1000000) :
    Calls Try.prog 12 #[.string a, .string b] w fun e w' => e = .returned (.bool (lessS a b)) ∧ Below w.heap.size w w' := by
  obtain ⟨k, hk⟩ := fuel_ex 3000000
  obtain ⟨at1, b1, h1⟩ := sall_val k a ha (by omega)
  obtain ⟨at2, b2, h2⟩ := sall_val k b hb (by omega)
  have l1 := scs_len a
  have l2 := scs_len b
  exact oless_any k k a b w ha hb _ _ _ _ _ _ h1 h2 _ (less_val k 0 0 _ _ (scs_scal a) (scs_scal b) (by omega) (by omega) (by omega))
theorem right_tot (s : ByteArray) (w : World) (hs : s.size ≤ 1000000) :
    Calls Try.prog 23 #[.string s] w fun e w' => e = .returned (.bool (okS s)) ∧ Below w.heap.size w w' := by
  obtain ⟨k, hk⟩ := fuel_ex 3000000
  obtain ⟨at1, h1⟩ := rsall_val k s hs (by omega)
  exact oright_any k s w hs _ _ _ h1
theorem of_tot (s : ByteArray) (w : World) (hs : s.size ≤ 1000000) :
    Calls Try.prog 22 #[.string s] w fun e w' => ∃ A c, e = .returned (.slice A (scs s).length c) ∧ (scs s).length ≤ c ∧ (Kd.int .i32).C w' A (scs s).length (scs s) ∧ Below w.heap.size w w' := by
  obtain ⟨k, hk⟩ := fuel_ex 3000000
  obtain ⟨at1, h1⟩ := rsall_val k s hs (by omega)
  exact oof_any k s w hs _ _ _ h1
theorem rcmp_tot (w : World) (A1 A2 : Option Addr) (c1 c2 : Nat) (L M : List Int) (hC1 : (Kd.int .i32).C w A1 L.length L) (h1 : L.length ≤ c1) (hC2 : (Kd.int .i32).C w A2 M.length M) (h2 : M.length ≤ c2) (hL : ∀ c ∈ L, isScal c = true) (hM : ∀ c ∈ M, isScal c = true) (hl : L.length ≤ 1000000) (hm : M.length ≤ 1000000) :
    Calls Try.prog 26 #[.slice A1 L.length c1, .slice A2 M.length c2] w fun e w' => e = .returned (.int .i64 (cmpV (L.flatMap unV) (M.flatMap unV))) ∧ Below w.heap.size w w' := by
  obtain ⟨k, hk⟩ := fuel_ex 9000000
  exact orthoepyref03_Compare.calls k A1 c1 L A2 c2 M _ w hC1 h1 hC2 h2 (rcompare_val k L M (by omega) (by omega) (scal_r32 hL) (scal_r32 hM) (by omega))
set_option maxHeartbeats 4000000 in
set_option maxRecDepth 100000 in
theorem rless_tot (a b : ByteArray) (w : World) (ha : a.size ≤ 1000000) (hb : b.size ≤ 1000000) :
    Calls Try.prog 13 #[.string a, .string b] w fun e w' => e = .returned (.bool (lessS a b)) ∧ Below w.heap.size w w' := by
  have l1 := scs_len a
  have l2 := scs_len b
  have hlL : (scs a).length ≤ 1000000 := by omega
  have hlM : (scs b).length ≤ 1000000 := by omega
  have HA := Aside0.mk (fun W => of_tot a W ha)
  have HB := Aside0.mk (fun W => of_tot b W hb)
  have sL := scs_scal a
  have sM := scs_scal b
  have HR := Aside0.mk (show lessS a b = decide (cmpV ((scs a).flatMap unV) ((scs b).flatMap unV) < 0) from rfl)
  generalize scs a = L at *
  generalize scs b = M at *
  generalize lessS a b = r at *
  have HC := Aside0.mk (fun w A1 A2 c1 c2 hC1 h1 hC2 h2 => rcmp_tot w A1 A2 c1 c2 L M hC1 h1 hC2 h2 sL sM hlL hlM)
  obtain ⟨cv, hcv⟩ : ∃ cv, cmpV (L.flatMap unV) (M.flatMap unV) = cv := ⟨_, rfl⟩
  rw [hcv] at HC HR
  obtain rfl := HR.out
  clear HR hcv sL sM hlL hlM l1 l2
  go_enter Try.func13, Try.ntmps13
  go_wp2_with (first
    | (go_at_call 22; (with_reducible refine (HA.out _).mono ?_); rintro e w1 ⟨A1, c1, rfl, h1, h2, h3⟩; have C1 := Aside0.mk h2; have B1 := Aside0.mk h3; clear h2 h3 HA)
    | (go_at_call 22; (with_reducible refine (HB.out _).mono ?_); rintro e w2 ⟨A2, c2, rfl, h4, h5, h6⟩; have C2 := Aside0.mk h5; have C1' := Aside0.mk (Kd.C_below C1.out h6); have B2 := Aside0.mk (B1.out.trans (h6.mono B1.out.size)); clear h5 h6 HB)
    | (go_at_call 26; (with_reducible refine (HC.out _ A1 A2 c1 c2 C1'.out h1 C2.out h4).mono ?_); rintro e w3 ⟨rfl, h7⟩; have B3 := Aside0.mk (B2.out.trans (h7.mono B2.out.size)); clear h7))
  go_ret
  exact ⟨rfl, B3.out⟩
/-! ### order.Sort and order.Merge -/
def sortP (ss : List ByteArray) : List Int := (mergeV ltI ss.length (runsOf scs 0 ss)).map (·.f0)
def mergeP (ss : List ByteArray) (ps qs : List Int) : List Int := (mergeV ltI 2 [itemsOf scs ss ps, itemsOf scs ss qs]).map (·.f0)
theorem mergeV_perm (lt : S45 → S45 → Bool) : ∀ (N : Nat) (ls : List (List S45)), ls.length ≤ N → (mergeV lt N ls).Perm ls.flatten
  | N, [], _ => by cases N <;> exact List.Perm.refl _
  | N, [r], _ => by
    have : mergeV lt N [r] = r := by cases N <;> rfl
    rw [this]
    simp
  | 0, _ :: _ :: _, h => by simp at h
  | N + 1, a :: b :: rs, h => by
    have h1 := pairsV_len lt (a :: b :: rs).length (a :: b :: rs) (Nat.le_refl _)
    have h2 := mergeV_perm lt N (pairsV lt (a :: b :: rs)) (by simp at h h1 ⊢; omega)
    exact h2.trans (pairsV_perm lt _ _ (Nat.le_refl _))
theorem runs_mem (sc : ByteArray → List Int) : ∀ (l : List ByteArray) (i : Nat), ∀ x ∈ (runsOf sc i l).flatten, ∃ s ∈ l, x.f1 = sc s
  | [], _, x, h => by simp [runsOf] at h
  | t :: l, i, x, h => by
    simp only [runsOf, List.flatten_cons, List.mem_append, List.mem_singleton] at h
    rcases h with rfl | h
    · exact ⟨t, by simp, rfl⟩
    · obtain ⟨s, h1, h2⟩ := runs_mem sc l (i + 1) x h
      exact ⟨s, by simp [h1], h2⟩
theorem sort_tot (A : Option Addr) (cap : Nat) (ss : List ByteArray) (w : World) (hr : Kd.C Kd.string w A ss.length ss) (hc : ss.length ≤ cap) (hn : ss.length ≤ 1000) (hsz : ∀ s ∈ ss, s.size ≤ 1000000) :
    Calls Try.prog 15 #[.slice A ss.length cap] w fun e w' => ∃ v, e = .returned v ∧ Kd.R (Kd.int .i64) 3 w' w.heap.size (fun _ => True) v (sortP ss) ∧ Below w.heap.size w w' := by
  obtain ⟨k, hk⟩ := fuel_ex 3000000
  refine sort_any k k ss.length k ltI scs A cap ss w hr hc hn (Nat.le_refl _) hsz (fun s hs => sall_val k s (hsz s hs) (by omega)) (fun x hx y hy => ?_) (sortP ss) ?_
  · obtain ⟨s, hs, e1⟩ := runs_mem scs ss 0 x hx
    obtain ⟨t, ht, e2⟩ := runs_mem scs ss 0 y hy
    have l1 := scs_len s
    have l2 := scs_len t
    have h1 := hsz s hs
    have h2 := hsz t ht
    rw [show ltI x y = ltI ⟨x.f0, x.f1⟩ ⟨y.f0, y.f1⟩ from rfl]
    exact less_val k _ _ _ _ (by rw [e1]; exact scs_scal s) (by rw [e2]; exact scs_scal t) (by rw [e1]; omega) (by rw [e2]; omega) (by omega)
  · have h1 := (mergeV_perm ltI ss.length (runsOf scs 0 ss) (by rw [(runsOf_len scs ss 0).1]; exact Nat.le_refl _)).length_eq
    rw [(runsOf_len scs ss 0).2] at h1
    exact places_val k _ (by omega) (by omega)
theorem merge_tot (A : Option Addr) (cap : Nat) (ss : List ByteArray) (B1 B2 : Option Addr) (d1 d2 : Nat) (ps qs : List Int) (w : World) (hr : Kd.C Kd.string w A ss.length ss) (hr1 : Kd.C (Kd.int .i64) w B1 ps.length ps) (hr2 : Kd.C (Kd.int .i64) w B2 qs.length qs) (hn1 : ps.length ≤ 1000) (hn2 : qs.length ≤ 1000)
    (hsz : ∀ s ∈ ss, s.size ≤ 1000000) (hps : ∀ p ∈ ps, 0 ≤ p ∧ p < ss.length) (hqs : ∀ p ∈ qs, 0 ≤ p ∧ p < ss.length) :
    Calls Try.prog 18 #[.slice A ss.length cap, .slice B1 ps.length d1, .slice B2 qs.length d2] w fun e w' => ∃ v, e = .returned v ∧ Kd.R (Kd.int .i64) 3 w' w.heap.size (fun _ => True) v (mergeP ss ps qs) ∧ Below w.heap.size w w' := by
  obtain ⟨k, hk⟩ := fuel_ex 3000000
  have hmem : ∀ x ∈ [itemsOf scs ss ps, itemsOf scs ss qs].flatten, ∃ s ∈ ss, x.f1 = scs s := fun x hx => by
    have h1 : ∃ p, (0 ≤ p ∧ p < (ss.length : Int)) ∧ x = ⟨p, scs (rdOf ByteArray.empty ss p)⟩ := by
      simp only [List.flatten_cons, List.flatten_nil, List.append_nil, List.mem_append, itemsOf, List.mem_map] at hx
      rcases hx with ⟨p, hp, rfl⟩ | ⟨p, hp, rfl⟩
      · exact ⟨p, hps p hp, rfl⟩
      · exact ⟨p, hqs p hp, rfl⟩
    obtain ⟨p, hp, rfl⟩ := h1
    refine ⟨rdOf ByteArray.empty ss p, ?_, rfl⟩
    unfold rdOf
    rw [List.getD_eq_getElem?_getD, List.getElem?_eq_getElem (show p.toNat < ss.length by omega)]
    exact List.getElem_mem _
  refine omerge_any k k k ltI scs A cap ss B1 B2 d1 d2 ps qs w hr hr1 hr2 hn1 hn2 hsz (fun s hs => sall_val k s (hsz s hs) (by omega)) hps hqs (fun x hx y hy => ?_) (mergeP ss ps qs) ?_
  · obtain ⟨s, hs, e1⟩ := hmem x hx
    obtain ⟨t, ht, e2⟩ := hmem y hy
    have l1 := scs_len s
    have l2 := scs_len t
    have h1 := hsz s hs
    have h2 := hsz t ht
    rw [show ltI x y = ltI ⟨x.f0, x.f1⟩ ⟨y.f0, y.f1⟩ from rfl]
    exact less_val k _ _ _ _ (by rw [e1]; exact scs_scal s) (by rw [e2]; exact scs_scal t) (by rw [e1]; omega) (by rw [e2]; omega) (by omega)
  · have h1 := (mergeV_perm ltI 2 [itemsOf scs ss ps, itemsOf scs ss qs] (Nat.le_refl _)).length_eq
    have h2 : ([itemsOf scs ss ps, itemsOf scs ss qs].flatten).length = ps.length + qs.length := by simp [itemsOf]
    exact places_val k _ (by omega) (by omega)
/-! ### same, and the scalars the caller's own -/
theorem lsame_l (d : Nat) : ∀ (k : Nat) (p q xs ys : List Int) (i : Int), 0 ≤ i → i ≤ xs.length → xs.drop i.toNat = p → ys.drop i.toNat = q → xs.length = ys.length → p.length = d → d < k → xs.length < 1000000000000 → orthoepylaw21_same.l0 k xs ys i = some (decide (p = q)) := by
  induction d with
  | zero =>
    intro k p q xs ys i h0 hi hp hq hxy hd hk hl
    obtain ⟨k, rfl⟩ : ∃ m, k = m + 1 := ⟨k - 1, by omega⟩
    have hn : p = [] := List.length_eq_zero_iff.mp (by omega)
    have e1 := drop_nil h0 hi (by rw [hp, hn])
    have hqn : q = [] := by
      rw [← hq]
      exact List.drop_eq_nil_of_le (by omega)
    simp only [orthoepylaw21_same.l0]
    rw [if_neg (by omega), hn, hqn]
    simp
  | succ d ih =>
    intro k p q xs ys i h0 hi hp hq hxy hd hk hl
    obtain ⟨k, rfl⟩ : ∃ m, k = m + 1 := ⟨k - 1, by omega⟩
    cases p with
    | nil => simp at hd
    | cons a r =>
      obtain ⟨hra, hlt, hdrop⟩ := rd_drop xs i a r h0 hp
      cases q with
      | nil =>
        have e1 := drop_nil h0 (by omega) hq
        omega
      | cons b s =>
        obtain ⟨hrb, hlt1, hdrop1⟩ := rd_drop ys i b s h0 hq
        have ew : wrap64 (i + 1) = i + 1 := by unfold wrap64; omega
        simp only [orthoepylaw21_same.l0]
        rw [if_pos (by omega), if_pos h0, if_pos (by omega), hra, hrb, ew]
        by_cases h : a = b
        · rw [if_pos h, ih k r s xs ys (i + 1) (by omega) (by omega) hdrop hdrop1 hxy (by simpa using hd) (by omega) hl]
          simp [h]
        · rw [if_neg h]
          simp [h]
theorem lsame_val (k : Nat) (xs ys : List Int) (hl : xs.length < 1000000000000) (hk : xs.length < k) : orthoepylaw21_same.f k xs ys = some (decide (xs = ys)) := by
  unfold orthoepylaw21_same.f
  by_cases h : (xs.length : Int) = ys.length
  · rw [if_pos h]
    exact lsame_l xs.length k xs ys xs ys 0 (by omega) (by omega) rfl rfl (by omega) rfl hk hl
  · rw [if_neg h]
    congr 1
    symm
    exact decide_eq_false (fun hh => h (by rw [hh]))

theorem same_tot (A0 : Option Addr) (c0 : Nat) (l0 : List Int) (A1 : Option Addr) (c1 : Nat) (l1 : List Int) (w : World) (hr0 : Kd.C (Kd.int .i64) w A0 l0.length l0) (hc0 : l0.length ≤ c0) (hr1 : Kd.C (Kd.int .i64) w A1 l1.length l1) (hc1 : l1.length ≤ c1) (hl : l0.length ≤ 1000000) :
    Calls Try.prog 14 #[.slice A0 l0.length c0, .slice A1 l1.length c1] w fun e w' => e = .returned (.bool (decide (l0 = l1))) ∧ Drawn0 w w' := by
  obtain ⟨k, hk⟩ := fuel_ex 3000000
  exact orthoepylaw21_same.calls k A0 c0 l0 A1 c1 l1 _ w hr0 hc0 hr1 hc1 (lsame_val k l0 l1 (by omega) (by omega))
set_option maxHeartbeats 4000000 in
set_option maxRecDepth 100000 in
theorem of_own (s : ByteArray) (w : World) (hs : s.size ≤ 1000000) :
    Calls Try.prog 22 #[.string s] w fun e w' => ∃ v, e = .returned v ∧ Kd.R (Kd.int .i32) 21 w' w.heap.size (fun _ => True) v (scs s) ∧ Below w.heap.size w w' := by
  obtain ⟨k, hk⟩ := fuel_ex 3000000
  obtain ⟨at_, hv⟩ := rsall_val k s hs (by omega)
  have HV := Aside0.mk hv
  have hn : (bnums s).length = s.size := bnums_len s
  have HN := Aside0.mk hn
  have hcv := fun W : World => run_bytes_of_string (P := Try.prog) W 9 34 5 s Try.underlying9 Try.underlying34 Try.underlying5
  clear hn hv
  go_enter Try.func22, Try.ntmps22
  go_wp2_with (fail)
  have hC := Kd.C_drew (C_bytes w s 5 (grownCap w s.size 0 5) ((bytesRow s (grownCap w s.size 0 5)).size, (bytesRow s (grownCap w s.size 0 5)).size + 1) (by omega))
  have hcap : (bnums s).length ≤ grownCap w s.size 0 5 := by rw [HN.out]; exact grownCap_ge _ _ _ _
  have hcall := orthoepyref02_All.calls k _ _ (bnums s) (scs s) at_ (okS s) _ hC hcap HV.out
  rw [HN.out] at hcall
  refine hcall.mono ?_
  rintro e w1 ⟨v1, rfl, hr1, hB1⟩
  have HR1 := Aside0.mk hr1
  have HB1 := Aside0.mk hB1
  clear hr1 hB1 hcall hcv
  go_wp2
  go_ret
  have hz : w.heap.size ≤ ((w.alloc (.cells (bytesRow s (grownCap w s.size 0 5)) 5 ((bytesRow s (grownCap w s.size 0 5)).size, (bytesRow s (grownCap w s.size 0 5)).size + 1))).drew).heap.size := by simp
  exact ⟨v1, rfl, Kd.R_lower HR1.out hz, (((Below.refl w.heap.size w).alloc (Nat.le_refl _) _).drew).trans (HB1.out.mono hz)⟩

end Go.Proofs.Ytajinnlaajhoeaa.Pure
