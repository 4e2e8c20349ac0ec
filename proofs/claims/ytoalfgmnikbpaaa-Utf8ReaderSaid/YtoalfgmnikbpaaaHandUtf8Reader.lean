/- Byte by byte a reader tells the scalars that the document reader tells; where a byte cannot stand it has not moved: the walk of the law Utf8Reader, by hand. -/
import Derived.Test.YtoalfgmnikbpaaaPAllx4
import Derived.Test.YtoalfgmnikbpaaaPAllx5
import Derived.Test.YtoalfgmnikbpaaaHKit
import Derived.Test.YtoalfgmnikbpaaaLUtf
import Derived.Test.YtoalfgmnikbpaaaLRef
namespace Go.Proofs.Ytoalfgmnikbpaaa.Pure
open Go.RowKit Go.Proofs.Ytoalfgmnikbpaaa.PAll Go.Proofs.YtoalfgmnikbpaaaW.PrintWords Go.Proofs.YtoalfgmnikbpaaaW.PrintLast Go.Proofs.YtoalfgmnikbpaaaW.PrintMore
set_option linter.unusedVariables false
set_option linter.unusedSimpArgs false

set_option maxHeartbeats 2000000 in
set_option maxRecDepth 100000 in
theorem refPush2 (base q : Nat) (S : Nat → Prop) (A : Option Addr) (c : Nat) (B : List Int) (x z : Int) (k : Nat) (w : World)
    (hq : w.heap[q]? = some (.cells #[.slice A B.length c] 42 (0, 0))) (hv : Kd.R (Kd.int .u8) 5 w base S (.slice A B.length c) B) (hb : base ≤ w.heap.size) (hl : B.length ≤ 3)
    (hH : orthoepyref02_How.f k (B ++ [x]) = some 2) (hO : orthoepyref02_of.f k (B ++ [x]) = some z) :
    Calls Try.prog 22 #[.pointer (some ⟨q, 0, none⟩), .int .u8 x] w fun e w' => e = .returned (.tuple #[.int .i32 z, .int .i64 2]) ∧ Keeps (fun k => k = q) w w' ∧
      w'.heap[q]? = some (.cells #[.slice none 0 0] 42 (0, 0)) := by
  have hlt := blk_lt hq
  have hc0 : w.cell? ⟨q, 0, none⟩ = some (.slice A B.length c) := (blk_cell hq 0).trans rfl
  have hf0 := blk_frozen hq 0
  obtain ⟨Z, hZ⟩ : ∃ Z, B ++ [x] = Z := ⟨_, rfl⟩
  rw [hZ] at hH hO
  have HH := Aside0.mk hH
  have HO := Aside0.mk hO
  have HZ := Aside0.mk hZ
  clear hZ hH hO
  have HQ := Aside0.mk hq
  have HV := Aside0.mk hv
  clear hq hv
  go_enter Try.func22, Try.ntmps22
  go_wp2_with (first
    | ((with_reducible refine gate_builtin (b := .append) (xs := #[.tmp 7, .tmp 11]) rfl ?_); at_builtin; refine app_row (Value.int .u8) (0 : Int) base rfl (.tmp 7) (.tmp 11) 22 5 (.int .u8 0) 1 rfl Try.underlying22 info5 rfl (by decide) (.slice (some ⟨w.heap.size, 0, none⟩) 0 0) [] B B rfl A B.length c (fun k => w.heap.size ≤ k) rfl rfl (Kd.R_of_own (own_lit w base 5 .u8 [] hb (by simp)) (fun k hk => by simp [Value.ownBlock] at hk; omega)) (Kd.C_alloc (Kd.R_reads' HV.out).2.2 _) (by simp; omega) (by simp; omega) ?_; intro A1 c1 w1 hr1 hk1; have HR1 := Aside0.mk hr1; have HK1 := Aside0.mk (((Keeps.refl (fun _ => False) w).alloc _).trans hk1 (fun k hk => .inr (by simp [Value.ownBlock] at hk; omega))); clear hr1 hk1)
    | ((with_reducible refine gate_builtin (b := .append) (xs := #[.tmp 12, .tmp 14]) rfl ?_); at_builtin; refine app_row (Value.int .u8) (0 : Int) base rfl (.tmp 12) (.tmp 14) 22 5 (.int .u8 0) 1 rfl Try.underlying22 info5 rfl (by decide) (.slice A1 B.length c1) B [x] Z HZ.out (some ⟨w1.heap.size, 0, none⟩) 1 1 (fun k => w.heap.size ≤ k) rfl rfl (Kd.R_alloc (Kd.R_mono HR1.out (fun k hk => hk.elim id (fun hn => by have := hn.1; simp at this; omega))) _) (C_one (Value.int .u8) 0 w1 5 x) (by have := HK1.out.size; simp; omega) (by simp; omega) ?_; intro A2 c2 w2 hr2 hk2; have HR2 := Aside0.mk (Kd.R_mono hr2 (ok' := fun k => w.heap.size ≤ k) (fun k hk => hk.elim id (fun hn => by have h1 := hn.1; have h2 := HK1.out.size; simp at h1; omega))); have HK2 := Aside0.mk ((HK1.out.alloc _).trans hk2 (fun k hk => .inr (HR1.out.1 k hk.symm |>.elim id (fun hn => by have := hn.1; simp at this; omega)))); clear hr2 hk2)
    | (go_at_call 26; refine (orthoepyref02_How.calls k A2 c2 Z 2 _ (Kd.R_reads' HR2.out).2.2 (Kd.R_reads' HR2.out).2.1 HH.out).mono ?_; rintro e w3 ⟨rfl, hd⟩; obtain ⟨nd, hd3⟩ := hd.out; subst hd3; have hq2 := HK2.out.blk HQ.out id; have hc2 : w2.cell? ⟨q, 0, none⟩ = some (.slice A B.length c) := (blk_cell hq2 0).trans rfl; have hf2 := blk_frozen hq2 0; have HQ2 := Aside0.mk hq2; clear hq2 hd)
    | (go_at_call 27; (refine (orthoepyref02_of.calls k A2 c2 Z z _ (Kd.R_reads' (Kd.R_far (p := ⟨q, 0, none⟩) (Kd.R_drewN HR2.out nd) (fun k hk => show k ≠ q by omega) (.slice none 0 0))).2.2 (Kd.R_reads' HR2.out).2.1 HO.out).mono ?_; rintro e w4 ⟨rfl, hd⟩; obtain ⟨nd4, hd4⟩ := hd.out; subst hd4; clear hd)))


  go_ret2
  refine ⟨rfl, Keeps.drewN (Keeps.setCell (S := fun k => k = q) (p := ⟨q, 0, none⟩) (Keeps.drewN (Keeps.mono HK2.out fun _ h => h.elim) nd) (.inl rfl) _) nd4, ?_⟩
  exact (blk_set HQ2.out 0 _).trans rfl
set_option maxHeartbeats 2000000 in
set_option maxRecDepth 100000 in
theorem refPush1 (base q : Nat) (S : Nat → Prop) (A : Option Addr) (c : Nat) (B : List Int) (x : Int) (k : Nat) (w : World)
    (hq : w.heap[q]? = some (.cells #[.slice A B.length c] 42 (0, 0))) (hv : Kd.R (Kd.int .u8) 5 w base S (.slice A B.length c) B) (hb : base ≤ w.heap.size) (hl : B.length ≤ 3)
    (hH : orthoepyref02_How.f k (B ++ [x]) = some 1) :
    Calls Try.prog 22 #[.pointer (some ⟨q, 0, none⟩), .int .u8 x] w fun e w' => e = .returned (.tuple #[.int .i32 0, .int .i64 1]) ∧ Keeps (fun k => k = q) w w' ∧
      ∃ A' c', w'.heap[q]? = some (.cells #[.slice A' (B.length + 1) c'] 42 (0, 0)) ∧ Kd.R (Kd.int .u8) 5 w' base (fun k => w.heap.size ≤ k) (.slice A' (B.length + 1) c') (B ++ [x]) := by
  have hlt := blk_lt hq
  have hc0 : w.cell? ⟨q, 0, none⟩ = some (.slice A B.length c) := (blk_cell hq 0).trans rfl
  have hf0 := blk_frozen hq 0
  obtain ⟨Z, hZ⟩ : ∃ Z, B ++ [x] = Z := ⟨_, rfl⟩
  rw [hZ] at hH
  have HH := Aside0.mk hH
  have HZ := Aside0.mk hZ
  clear hZ hH
  have HQ := Aside0.mk hq
  have HV := Aside0.mk hv
  clear hq hv
  go_enter Try.func22, Try.ntmps22
  go_wp2_with (first
    | ((with_reducible refine gate_builtin (b := .append) (xs := #[.tmp 7, .tmp 11]) rfl ?_); at_builtin; refine app_row (Value.int .u8) (0 : Int) base rfl (.tmp 7) (.tmp 11) 22 5 (.int .u8 0) 1 rfl Try.underlying22 info5 rfl (by decide) (.slice (some ⟨w.heap.size, 0, none⟩) 0 0) [] B B rfl A B.length c (fun k => w.heap.size ≤ k) rfl rfl (Kd.R_of_own (own_lit w base 5 .u8 [] hb (by simp)) (fun k hk => by simp [Value.ownBlock] at hk; omega)) (Kd.C_alloc (Kd.R_reads' HV.out).2.2 _) (by simp; omega) (by simp; omega) ?_; intro A1 c1 w1 hr1 hk1; have HR1 := Aside0.mk hr1; have HK1 := Aside0.mk (((Keeps.refl (fun _ => False) w).alloc _).trans hk1 (fun k hk => .inr (by simp [Value.ownBlock] at hk; omega))); clear hr1 hk1)
    | ((with_reducible refine gate_builtin (b := .append) (xs := #[.tmp 12, .tmp 14]) rfl ?_); at_builtin; refine app_row (Value.int .u8) (0 : Int) base rfl (.tmp 12) (.tmp 14) 22 5 (.int .u8 0) 1 rfl Try.underlying22 info5 rfl (by decide) (.slice A1 B.length c1) B [x] Z HZ.out (some ⟨w1.heap.size, 0, none⟩) 1 1 (fun k => w.heap.size ≤ k) rfl rfl (Kd.R_alloc (Kd.R_mono HR1.out (fun k hk => hk.elim id (fun hn => by have := hn.1; simp at this; omega))) _) (C_one (Value.int .u8) 0 w1 5 x) (by have := HK1.out.size; simp; omega) (by simp; omega) ?_; intro A2 c2 w2 hr2 hk2; have HR2 := Aside0.mk (Kd.R_mono hr2 (ok' := fun k => w.heap.size ≤ k) (fun k hk => hk.elim id (fun hn => by have h1 := hn.1; have h2 := HK1.out.size; simp at h1; omega))); have HK2 := Aside0.mk ((HK1.out.alloc _).trans hk2 (fun k hk => .inr (HR1.out.1 k hk.symm |>.elim id (fun hn => by have := hn.1; simp at this; omega)))); clear hr2 hk2)
    | (go_at_call 26; refine (orthoepyref02_How.calls k A2 c2 Z 1 _ (Kd.R_reads' HR2.out).2.2 (Kd.R_reads' HR2.out).2.1 HH.out).mono ?_; rintro e w3 ⟨rfl, hd⟩; obtain ⟨nd, hd3⟩ := hd.out; subst hd3; have hq2 := HK2.out.blk HQ.out id; have hc2 : w2.cell? ⟨q, 0, none⟩ = some (.slice A B.length c) := (blk_cell hq2 0).trans rfl; have hf2 := blk_frozen hq2 0; have HQ2 := Aside0.mk hq2; clear hq2 hd))
  go_ret2
  have hZl : Z.length = B.length + 1 := by rw [← HZ.out]; simp
  rw [← hZl, HZ.out]
  refine ⟨rfl, Keeps.setCell (S := fun k => k = q) (p := ⟨q, 0, none⟩) (Keeps.drewN (Keeps.mono HK2.out fun _ h => h.elim) nd) (.inl rfl) _, A2, c2, (blk_set HQ2.out 0 _).trans rfl, ?_⟩
  exact Kd.R_far (p := ⟨q, 0, none⟩) (Kd.R_drewN HR2.out nd) (fun k hk => show k ≠ q by omega) _
set_option maxHeartbeats 2000000 in
set_option maxRecDepth 100000 in
theorem refPush0 (base q : Nat) (S : Nat → Prop) (A : Option Addr) (c : Nat) (B : List Int) (x : Int) (k : Nat) (w : World)
    (hq : w.heap[q]? = some (.cells #[.slice A B.length c] 42 (0, 0))) (hv : Kd.R (Kd.int .u8) 5 w base S (.slice A B.length c) B) (hb : base ≤ w.heap.size) (hl : B.length ≤ 3)
    (hH : orthoepyref02_How.f k (B ++ [x]) = some 0) :
    Calls Try.prog 22 #[.pointer (some ⟨q, 0, none⟩), .int .u8 x] w fun e w' => e = .returned (.tuple #[.int .i32 0, .int .i64 3]) ∧ Keeps (fun _ => False) w w' := by
  have hlt := blk_lt hq
  have hc0 : w.cell? ⟨q, 0, none⟩ = some (.slice A B.length c) := (blk_cell hq 0).trans rfl
  have hf0 := blk_frozen hq 0
  obtain ⟨Z, hZ⟩ : ∃ Z, B ++ [x] = Z := ⟨_, rfl⟩
  rw [hZ] at hH
  have HH := Aside0.mk hH
  have HZ := Aside0.mk hZ
  clear hZ hH
  have HQ := Aside0.mk hq
  have HV := Aside0.mk hv
  clear hq hv
  go_enter Try.func22, Try.ntmps22
  go_wp2_with (first
    | ((with_reducible refine gate_builtin (b := .append) (xs := #[.tmp 7, .tmp 11]) rfl ?_); at_builtin; refine app_row (Value.int .u8) (0 : Int) base rfl (.tmp 7) (.tmp 11) 22 5 (.int .u8 0) 1 rfl Try.underlying22 info5 rfl (by decide) (.slice (some ⟨w.heap.size, 0, none⟩) 0 0) [] B B rfl A B.length c (fun k => w.heap.size ≤ k) rfl rfl (Kd.R_of_own (own_lit w base 5 .u8 [] hb (by simp)) (fun k hk => by simp [Value.ownBlock] at hk; omega)) (Kd.C_alloc (Kd.R_reads' HV.out).2.2 _) (by simp; omega) (by simp; omega) ?_; intro A1 c1 w1 hr1 hk1; have HR1 := Aside0.mk hr1; have HK1 := Aside0.mk (((Keeps.refl (fun _ => False) w).alloc _).trans hk1 (fun k hk => .inr (by simp [Value.ownBlock] at hk; omega))); clear hr1 hk1)
    | ((with_reducible refine gate_builtin (b := .append) (xs := #[.tmp 12, .tmp 14]) rfl ?_); at_builtin; refine app_row (Value.int .u8) (0 : Int) base rfl (.tmp 12) (.tmp 14) 22 5 (.int .u8 0) 1 rfl Try.underlying22 info5 rfl (by decide) (.slice A1 B.length c1) B [x] Z HZ.out (some ⟨w1.heap.size, 0, none⟩) 1 1 (fun k => w.heap.size ≤ k) rfl rfl (Kd.R_alloc (Kd.R_mono HR1.out (fun k hk => hk.elim id (fun hn => by have := hn.1; simp at this; omega))) _) (C_one (Value.int .u8) 0 w1 5 x) (by have := HK1.out.size; simp; omega) (by simp; omega) ?_; intro A2 c2 w2 hr2 hk2; have HR2 := Aside0.mk (Kd.R_mono hr2 (ok' := fun k => w.heap.size ≤ k) (fun k hk => hk.elim id (fun hn => by have h1 := hn.1; have h2 := HK1.out.size; simp at h1; omega))); have HK2 := Aside0.mk ((HK1.out.alloc _).trans hk2 (fun k hk => .inr (HR1.out.1 k hk.symm |>.elim id (fun hn => by have := hn.1; simp at this; omega)))); clear hr2 hk2)
    | (go_at_call 26; refine (orthoepyref02_How.calls k A2 c2 Z 0 _ (Kd.R_reads' HR2.out).2.2 (Kd.R_reads' HR2.out).2.1 HH.out).mono ?_; rintro e w3 ⟨rfl, hd⟩; obtain ⟨nd, hd3⟩ := hd.out; subst hd3; have hq2 := HK2.out.blk HQ.out id; have hc2 : w2.cell? ⟨q, 0, none⟩ = some (.slice A B.length c) := (blk_cell hq2 0).trans rfl; have hf2 := blk_frozen hq2 0; have HQ2 := Aside0.mk hq2; clear hq2 hd))
  go_ret2
  exact ⟨rfl, Keeps.drewN HK2.out nd⟩
theorem left_same (g : Nat) (f c n need : Int) (w : World) (hb : w.heap[g]? = some (.cells #[.int .u8 f, .int .i32 c, .int .i64 n, .int .i64 need] 53 (0, 0))) :
    Calls Try.prog 23 #[.pointer (some ⟨g, 0, none⟩)] w fun e w' => e = .returned (.int .i64 n) ∧ w' = w := by
  have hc : w.cell? ⟨g, 2, none⟩ = some (.int .i64 n) := (blk_cell hb 2).trans rfl
  have hf := blk_frozen hb 2
  clear hb
  go_enter Try.func23, Try.ntmps23
  go_wp2
  go_ret
  exact ⟨rfl, rfl⟩
theorem kd_nil {α : Type} (d : Kd α) (e : Nat) (w : World) (base : Nat) (ok : Nat → Prop) : d.R e w base ok (.slice none 0 0) [] := Kd.R_nil d e w base ok
set_option maxHeartbeats 2000000 in
set_option maxRecDepth 100000 in
theorem reader_long (A : Option Addr) (c : Nat) (l : List Int) (w : World) (hl : (300 : Int) < (l.length : Int)) :
    Calls Try.prog 6 #[.slice A l.length c] w fun e w' => e = .returned (.bool true) ∧ Below w.heap.size w w' := by
  go_enter Try.func6, Try.ntmps6
  go_wp2_with (first
    | (go_at_call 20; refine (utf8_New.calls 0 0 0 0 w w (Below.refl _ _) rfl).mono ?_; rintro e w1 ⟨g, rfl, hI, hB, hB1⟩; have HB := Aside0.mk hB; clear hI hB1 hB)
    | (go_at_call 8; refine (orthoepylaw02_awake.calls true _ rfl).mono ?_; rintro e w2 ⟨rfl, hB2⟩; have HB2 := Aside0.mk (HB.out.trans (hB2.mono HB.out.size)); clear hB2))
  go_ret
  exact ⟨rfl, HB2.out⟩
/-! ### Both readers, a byte more: what is told, and what is begun then -/
def hV (b : List Int) : Int := if howV b = 2 then 2 else if howV b = 1 then 1 else 3
def cV (b : List Int) : Int := if howV b = 2 then ofV b else 0
def nextV (pre : List Int) (x : Int) : List Int := if howV (pre ++ [x]) = 2 then [] else if howV (pre ++ [x]) = 1 then pre ++ [x] else pre
theorem next_ok {pre : List Int} {x : Int} (hp : pre = [] ∨ howV pre = 1) (hb : Byt pre) (hx : 0 ≤ x ∧ x ≤ 255) : (nextV pre x = [] ∨ howV (nextV pre x) = 1) ∧ Byt (nextV pre x) ∧ (nextV pre x).length ≤ 3 := by
  have key : (nextV pre x = [] ∨ howV (nextV pre x) = 1) ∧ Byt (nextV pre x) := by
    unfold nextV
    by_cases h2 : howV (pre ++ [x]) = 2
    · rw [if_pos h2]
      exact ⟨.inl rfl, fun _ h => by cases h⟩
    · rw [if_neg h2]
      by_cases h1 : howV (pre ++ [x]) = 1
      · rw [if_pos h1]
        exact ⟨.inr h1, byt_append.2 ⟨hb, fun y hy => by simp at hy; subst hy; exact hx⟩⟩
      · rw [if_neg h1]
        exact ⟨hp, hb⟩
  refine ⟨key.1, key.2, ?_⟩
  rcases key.1 with h | h
  · rw [h]; simp
  · have := howV_one_len h
    omega
theorem uPush (g : Nat) (pre : List Int) (f c n need x : Int) (w0 w : World) (hI : IsS53 w0 w g f c n need) (hB : Below w0.heap.size w0 w) (hp : pre = [] ∨ howV pre = 1) (hb : Byt pre) (hs : StV pre f c n need) (hx : 0 ≤ x ∧ x ≤ 255) :
    Calls Try.prog 21 #[.pointer (some ⟨g, 0, none⟩), .int .u8 x] w fun e w' => e = .returned (.tuple #[.int .i32 (cV (pre ++ [x])), .int .i64 (hV (pre ++ [x]))]) ∧
      (∃ f' c' n' need', IsS53 w0 w' g f' c' n' need' ∧ StV (nextV pre x) f' c' n' need') ∧ Below w0.heap.size w0 w' ∧ KeepBut w w' g none := by
  obtain ⟨f', c', n', need', h1, h2, h3, h4⟩ := push_val 0 pre f c n need x hp hb hs hx.1 hx.2
  refine (utf8_Reader_Push.calls _ g f c n need x _ _ f' c' n' need' w0 w hI hB h1).mono ?_
  rintro e w' ⟨rfl, hI', hB', hK⟩
  refine ⟨by unfold cV hV; rfl, ⟨f', c', n', need', hI', ?_⟩, hB', hK⟩
  unfold nextV
  by_cases e2 : howV (pre ++ [x]) = 2
  · rw [if_pos e2]
    exact h2 e2
  · rw [if_neg e2]
    by_cases e1 : howV (pre ++ [x]) = 1
    · rw [if_pos e1]
      exact h3 e1
    · rw [if_neg e1]
      have := howV_range (pre ++ [x])
      obtain ⟨rfl, rfl, rfl, rfl⟩ := h4 (by omega)
      exact hs
theorem rPush (base q : Nat) (S : Nat → Prop) (A : Option Addr) (c : Nat) (pre : List Int) (x : Int) (w : World)
    (hq : w.heap[q]? = some (.cells #[.slice A pre.length c] 42 (0, 0))) (hv : Kd.R (Kd.int .u8) 5 w base S (.slice A pre.length c) pre) (hS : ∀ k, S k → k ≠ q) (hbs : base ≤ w.heap.size) (hl : pre.length ≤ 3) (hb : Byt pre) (hx : 0 ≤ x ∧ x ≤ 255) :
    Calls Try.prog 22 #[.pointer (some ⟨q, 0, none⟩), .int .u8 x] w fun e w' => e = .returned (.tuple #[.int .i32 (cV (pre ++ [x])), .int .i64 (hV (pre ++ [x]))]) ∧ Keeps (fun k => k = q) w w' ∧
      ∃ A' c', w'.heap[q]? = some (.cells #[.slice A' (nextV pre x).length c'] 42 (0, 0)) ∧ Kd.R (Kd.int .u8) 5 w' base (fun k => S k ∨ w.heap.size ≤ k) (.slice A' (nextV pre x).length c') (nextV pre x) := by
  have hbb : Byt (pre ++ [x]) := byt_append.2 ⟨hb, fun y hy => by simp at hy; subst hy; exact hx⟩
  have hH := how_val 0 (pre ++ [x]) hbb (by simp; omega)
  have hr := howV_range (pre ++ [x])
  by_cases h2 : howV (pre ++ [x]) = 2
  · rw [h2] at hH
    refine (refPush2 base q S A c pre x (ofV (pre ++ [x])) 8 w hq hv hbs hl hH (of_val 0 (pre ++ [x]) hbb h2)).mono ?_
    rintro e w' ⟨rfl, hk, hh⟩
    refine ⟨by simp [cV, hV, h2], hk, none, 0, ?_, ?_⟩
    · simp only [nextV, h2, if_true, List.length_nil]
      exact hh
    · simp only [nextV, h2, if_true, List.length_nil]
      exact Kd.R_nil _ _ _ _ _
  · by_cases h1 : howV (pre ++ [x]) = 1
    · rw [h1] at hH
      refine (refPush1 base q S A c pre x 8 w hq hv hbs hl hH).mono ?_
      rintro e w' ⟨rfl, hk, A', c', hh, hr⟩
      refine ⟨by simp [cV, hV, h1], hk, A', c', ?_, ?_⟩
      · rw [show nextV pre x = pre ++ [x] by unfold nextV; rw [if_neg h2, if_pos h1], List.length_append]
        exact hh
      · rw [show nextV pre x = pre ++ [x] by unfold nextV; rw [if_neg h2, if_pos h1], List.length_append]
        exact Kd.R_mono hr (fun _ h => .inr h)
    · have h0 : howV (pre ++ [x]) = 0 := by omega
      rw [h0] at hH
      refine (refPush0 base q S A c pre x 8 w hq hv hbs hl hH).mono ?_
      rintro e w' ⟨rfl, hk⟩
      refine ⟨by simp [cV, hV, h0], hk.mono (fun _ h => h.elim), A, c, ?_, ?_⟩
      · rw [show nextV pre x = pre by unfold nextV; rw [if_neg h2, if_neg h1]]
        exact hk.blk hq id
      · rw [show nextV pre x = pre by unfold nextV; rw [if_neg h2, if_neg h1]]
        exact Kd.R_mono (hk.R hv (fun _ _ => id)) (fun _ h => .inl h)
theorem cell_of_row_u8 {A : Option Addr} {l : List Int} {w : World} (hr : Kd.C (Kd.int .u8) w A l.length l) (k : Nat) (hk : k < l.length) :
    ∃ ad, A = some ad ∧ ∀ W, Below w.heap.size w W → W.cell? (ad.add k) = some (.int .u8 (l.getD k 0)) := by
  obtain ⟨_, _, h⟩ := Kd.reads_of_C (enc := Value.int .u8) (d := (0 : Int)) (h1 := fun _ => rfl) hr
  obtain ⟨ad, e, hc⟩ := h (by omega)
  exact ⟨ad, e, fun W hB => pw_cell_below hB (hc k hk)⟩
set_option maxHeartbeats 4000000 in
set_option maxRecDepth 100000 in
theorem reader_short (A : Option Addr) (c : Nat) (l : List Int) (w : World) (hr : Kd.C (Kd.int .u8) w A l.length l) (hby : Byt l) (hl : ¬ (300 : Int) < (l.length : Int)) :
    Calls Try.prog 6 #[.slice A l.length c] w fun e w' => e = .returned (.bool true) ∧ Below w.heap.size w w' := by
  have hl' : decide ((300 : Int) < (l.length : Int)) = false := decide_eq_false hl
  have HR := Aside0.mk hr
  have HY := Aside0.mk hby
  clear hr hby
  go_enter Try.func6, Try.ntmps6
  go_wp2_with (first
    | (go_at_call 20; refine (utf8_New.calls 0 0 0 0 w w (Below.refl _ _) rfl).mono ?_; rintro e w1 ⟨g, rfl, hI, hB, hB1⟩; have HB := Aside0.mk hB; have HI := Aside0.mk hI; clear hI hB1 hB))
  go_loopw [5] (fun i wr => ∃ (k : Nat) (pre : List Int) (f cc n need : Int) (A' : Option Addr) (c' : Nat), k ≤ l.length ∧ i = .int .i64 k ∧ Aside0 (IsS53 w wr g f cc n need) ∧ Aside0 (wr.heap[w1.heap.size]? = some (.cells #[.slice A' pre.length c'] 42 (0, 0))) ∧
      Aside0 (Kd.R (Kd.int .u8) 5 wr w.heap.size (fun k => k ≠ g ∧ k ≠ w1.heap.size) (.slice A' pre.length c') pre) ∧ Aside0 (Below w.heap.size w wr) ∧ Aside0 ((pre = [] ∨ howV pre = 1) ∧ Byt pre ∧ pre.length ≤ 3 ∧ StV pre f cc n need)) (fun i _ => l.length - (intOf i).toNat)
  case atStart =>
    exact ⟨0, [], 0, 0, 0, 0, none, 0, Nat.zero_le _, rfl, ⟨HI.out.alloc _⟩, ⟨by simpa using heap_alloc_new w1 _⟩, ⟨Kd.R_nil _ _ _ _ _⟩, ⟨HB.out.alloc HB.out.size _⟩, ⟨.inl rfl, fun _ h => (by cases h), by simp, rfl, fun _ _ h => (by cases h)⟩⟩
  case round =>
    obtain ⟨k, pre, f, cc, n, need, A', c', hk, rfl, HIr, HQ, HRr, HBr, HS⟩ := hrel
    by_cases hlt : k < l.length
    · obtain ⟨ad, rfl, hcell⟩ := cell_of_row_u8 HR.out k hlt
      have hx : 0 ≤ l.getD k 0 ∧ l.getD k 0 ≤ 255 := HY.out _ (by rw [List.getD_eq_getElem?_getD, List.getElem?_eq_getElem hlt]; exact List.getElem_mem hlt)
      obtain ⟨x, hx0⟩ : ∃ x, l.getD k 0 = x := ⟨_, rfl⟩
      rw [hx0] at hx hcell
      have hcx := hcell wr HBr.out
      obtain ⟨cq, hcq⟩ : ∃ y, cV (pre ++ [x]) = y := ⟨_, rfl⟩
      obtain ⟨hq, hhq⟩ : ∃ y, hV (pre ++ [x]) = y := ⟨_, rfl⟩
      obtain ⟨nx, hnx⟩ : ∃ y, nextV pre x = y := ⟨_, rfl⟩
      have hok := next_ok HS.out.1 HS.out.2.1 hx
      rw [hnx] at hok
      have hU := uPush g pre f cc n need x w wr HIr.out HBr.out HS.out.1 HS.out.2.1 HS.out.2.2.2 hx
      have hR : ∀ W, W.heap[w1.heap.size]? = some (.cells #[.slice A' pre.length c'] 42 (0, 0)) → Kd.R (Kd.int .u8) 5 W w.heap.size (fun k => k ≠ g ∧ k ≠ w1.heap.size) (.slice A' pre.length c') pre → w.heap.size ≤ W.heap.size → _ :=
        fun W a b d => rPush w.heap.size w1.heap.size _ A' c' pre x W a b (fun k hk => hk.2) d HS.out.2.2.1 HS.out.2.1 hx
      rw [hcq, hhq, hnx] at hU
      simp only [hcq, hhq, hnx] at hR
      have HU := Aside0.mk hU
      have HRP := Aside0.mk hR
      have HC := Aside0.mk hcell
      have HOK := Aside0.mk hok
      have gne : g ≠ w1.heap.size := by have := HI.out.lt; omega
      clear hx0 hcq hhq hnx hU hR hcell hx hok
      go_wp2_with (first
        | (go_at_call 21; refine HU.out.mono ?_; rintro e w3 ⟨rfl, ⟨f1, c1, n1, d1, hI1, hS1⟩, hB1, hK1⟩; have hcx1 := HC.out w3 hB1; have HI1 := Aside0.mk hI1; have HS1 := Aside0.mk hS1; have HB1 := Aside0.mk hB1; have HQ1 := Aside0.mk (hK1.blk HQ.out (Ne.symm gne) (by simp)); have HR1 := Aside0.mk (Kd.R_keep HRr.out hK1 (fun _ h => h.1)); clear hI1 hS1 hB1 hK1)
        | (go_at_call 22; refine (HRP.out w3 HQ1.out HR1.out HB1.out.size).mono ?_; rintro e w4 ⟨rfl, hk4, A4, c4, hq4, hr4⟩; have HQ4 := Aside0.mk hq4; have HR4 := Aside0.mk (Kd.R_mono hr4 (ok' := fun k => k ≠ g ∧ k ≠ w1.heap.size) (fun k hk => hk.elim id (fun h => by have := HI1.out.lt; have := blk_lt HQ1.out; omega))); have HG4 := Aside0.mk (hk4.blk HI1.out.1 gne); have HB4 := Aside0.mk (HB1.out.trans (hk4.below (B := w.heap.size) (fun k hk => by rw [hk]; exact HB.out.size) HB1.out.size)); have hcx4 : w4.cell? ⟨w1.heap.size, 0, none⟩ = some (.slice A4 nx.length c4) := (blk_cell HQ4.out 0).trans rfl; clear hk4 hq4 hr4))
      obtain rfl : n1 = nx.length := HS1.out.1
      go_quiet ((go_at_call 23; exact Calls.quiet_of_same (left_same g f1 c1 _ d1 _ HG4.out)))
      go_wp2
      go_roundw
      case rel => exact ⟨k + 1, nx, f1, c1, _, d1, A4, c4, by omega, by go_num, ⟨⟨by first | exact HG4.out | exact blk_drewN HG4.out _, HI1.out.2⟩⟩, ⟨by first | exact HQ4.out | exact blk_drewN HQ4.out _⟩, ⟨by first | exact HR4.out | exact Kd.R_drewN HR4.out _⟩, ⟨by first | exact HB4.out | exact pw_below_drewN HB4.out _⟩, ⟨HOK.out.1, HOK.out.2.1, HOK.out.2.2, HS1.out⟩⟩
      case measure => simp [intOf]; omega
    · have hl2 : decide ((k : Int) < (l.length : Int)) = false := decide_eq_false (by omega)
      go_wp2_with (first
        | (go_at_call 8; refine (orthoepylaw02_awake.calls true _ rfl).mono ?_; rintro e w2 ⟨rfl, hB2⟩; have HB2 := Aside0.mk (HBr.out.trans (hB2.mono HBr.out.size)); clear hB2))
      go_ret
      exact ⟨rfl, HB2.out⟩
theorem orthoepylaw02_Utf8Reader.walk (a0 : Option Addr) (len0 cap0 : Nat) (z0 : List Int) (w : World) (w0 : (a0 = none ∧ len0 = 0 ∧ cap0 = 0 ∧ z0 = []) ∨
    ∃ x, a0 = some x ∧ len0 ≤ cap0 ∧ cap0 ≤ maxLen ∧ z0.length = cap0 ∧ (∀ i, i < z0.length → w.cell? (x.add i) = some (.int .u8 (z0.getD i 0))) ∧ ∀ n ∈ z0, (Lit.int .u8 n).wf = true) (y0 : len0 * 1 ≤ 140737488351232) :
    Calls Try.prog 6 #[.slice a0 len0 cap0] w fun e w' => e = .returned (.bool true) ∧ Below w.heap.size w w' := by
  obtain ⟨l0, rfl, hr0, hm0, hw0, hc0⟩ := ReadsInt.ofRowC w0
  by_cases hl : (300 : Int) < (l0.length : Int)
  · exact reader_long a0 cap0 l0 w hl
  · exact reader_short a0 cap0 l0 w (Kd.C_of_reads (d := (0 : Int)) (h1 := fun _ => rfl) hr0) (byt_wf hw0) hl

end Go.Proofs.Ytoalfgmnikbpaaa.Pure
