/- What the document says brings a string to its end: its walk. -/
import Derived.Test.YtgggjfbgcadboaaPAllx1
import Derived.Test.YtgggjfbgcadboaaPAllx2
import Derived.Test.YtgggjfbgcadboaaPAllx4
import Derived.Test.YtgggjfbgcadboaaHKit
import Derived.Test.YtgggjfbgcadboaaLUtf
import Derived.Test.YtgggjfbgcadboaaLRef
import Derived.Test.YtgggjfbgcadboaaH12U
import Derived.Outline
import Derived.OwnWalk
namespace Go.Proofs.Ytgggjfbgcadboaa.Pure
open Go.RowKit Go.Proofs.Ytgggjfbgcadboaa.PAll Go.Proofs.YtgggjfbgcadboaaW.PrintWords Go.Proofs.YtgggjfbgcadboaaW.PrintLast Go.Proofs.YtgggjfbgcadboaaW.PrintMore
set_option linter.unusedVariables false
set_option linter.unusedSimpArgs false

/-! ### What brings a string to its end: the document's More -/
theorem str_app (a b : List Int) : strOfNums a ++ strOfNums b = strOfNums (a ++ b) := by
  apply ByteArray.ext
  simp [strOfNums]
theorem str_size (a : List Int) : (strOfNums a).size = a.length := by
  simp [strOfNums, ByteArray.size]
def zerosL (n : Nat) : List Int := List.replicate n 48
theorem zeros_succ (n : Nat) : strOfNums (zerosL n) ++ ⟨#[48]⟩ = strOfNums (zerosL (n + 1)) := by
  rw [show (⟨#[48]⟩ : ByteArray) = strOfNums [48] from rfl, str_app]
  unfold zerosL
  rw [List.replicate_succ']
theorem cells_i64 {A : Option Addr} {l : List Int} {w : World} (hr : Kd.C (Kd.int .i64) w A l.length l) (hl : 0 < l.length) :
    ∃ ad, A = some ad ∧ ∀ k, k < l.length → w.cell? (ad.add k) = some (.int .i64 (l.getD k 0)) := by
  obtain ⟨_, _, h⟩ := Kd.reads_of_C (enc := Value.int .i64) (d := (0 : Int)) (h1 := fun _ => rfl) hr
  obtain ⟨ad, e, hc⟩ := h hl
  exact ⟨ad, e, fun k hk => hc k hk⟩
set_option maxHeartbeats 4000000 in
set_option maxRecDepth 100000 in
theorem rfour_any (base q : Nat) (S : Nat → Prop) (s : RV) (w : World) (h : RefAt w base S q s) (hl : s.Hex.length ≤ 3) :
    Calls Try.prog 42 #[.pointer (some ⟨q, 0, none⟩)] w fun e w' => e = .returned (.string (strOfNums (fourL s.Hex))) ∧ Keeps (fun _ => False) w w' := by
  obtain ⟨A0, c0, A1, c1, A2, c2, h1, h2, h3, h4⟩ := h.row
  have k3 : w.cell? ⟨q, 3, none⟩ = some (.slice A2 s.Hex.length c2) := (blk_cell h1 3).trans rfl
  have hC := (Kd.R_reads' h4).2.2
  obtain ⟨O, B, E, H, W, V⟩ := s
  simp only at k3 hC hl
  clear h h1 h2 h3 h4
  obtain ⟨n, hn⟩ : ∃ n, H.length = n := ⟨_, rfl⟩
  rw [hn] at k3
  have HN := Aside0.mk hn
  have HC := Aside0.mk hC
  obtain ⟨Z, hZ⟩ : ∃ Z, fourL H = Z := ⟨_, rfl⟩
  rw [hZ]
  have HZ := Aside0.mk hZ
  clear hZ
  clear hC
  rw [hn] at hl
  clear hn
  go_enter Try.func42, Try.ntmps42
  go_wp2
  go_loop [3, 4] (fun t i => ∃ k : Nat, n ≤ k ∧ k ≤ 4 ∧ i = .int .i64 k ∧ t = .string (strOfNums (zerosL (k - n)))) (fun _ i => 4 - (intOf i).toNat)
  case atStart => exact ⟨n, Nat.le_refl _, by omega, rfl, by rw [Nat.sub_self]; rfl⟩
  case round =>
    obtain ⟨k, hk1, hk2, rfl, rfl⟩ := hrel
    by_cases hlt : k < 4
    · obtain ⟨X, hX⟩ : ∃ X, strOfNums (zerosL (k - n)) = X := ⟨_, rfl⟩
      have hsz : X.size ≤ 4 := by rw [← hX, str_size]; unfold zerosL; simp; omega
      have HX := Aside0.mk hX
      rw [hX]
      clear hX
      go_wp2
      all_goals
        go_round
        case rel => exact ⟨k + 1, by omega, by omega, by go_num, by rw [← HX.out, zeros_succ, show k - n + 1 = k + 1 - n by omega]⟩
        case measure => simp [intOf]; omega
    · obtain rfl : k = 4 := by omega
      match H, HN, HC, HZ with
      | [], HN, HC, HZ =>
        obtain rfl : 0 = n := HN.out
        go_wp2
        go_ret
        exact ⟨by rw [← HZ.out]; rfl, Keeps.refl _ _⟩
      | [a], HN, HC, HZ =>
        obtain rfl : 1 = n := HN.out
        go_wp2
        go_ret
        exact ⟨by rw [← HZ.out]; rfl, Keeps.refl _ _⟩
      | [a, b], HN, HC, HZ =>
        obtain rfl : 2 = n := HN.out
        obtain ⟨⟨ab, ao, ax⟩, rfl, hc⟩ := cells_i64 HC.out (by simp)
        have j0 : w.cell? ⟨ab, ao, ax⟩ = some (.int .i64 a) := hc 0 (by simp)
        have j1 : w.cell? ⟨ab, ao + 1, none⟩ = some (.int .i64 b) := hc 1 (by simp)
        have hz := HZ.out
        simp only [fourL, halfL] at hz
        clear hc HC HZ
        obtain ⟨X, hX⟩ : ∃ X, strOfNums (zerosL (4 - 2)) = X := ⟨_, rfl⟩
        have HX := Aside0.mk hX
        have hsz : X.size ≤ 4 := by rw [← hX, str_size]; decide
        rw [hX]
        clear hX
        by_cases ha : a = 13
        · have t1 : (a == 13) = true := beq_iff_eq.mpr ha
          by_cases hb : 8 ≤ b
          · have t2 : decide (8 ≤ b) = true := decide_eq_true hb
            rw [if_pos ⟨ha, hb⟩] at hz
            have HZ2 := Aside0.mk hz
            clear hz ha
            go_wp2
            all_goals first
              | (exfalso; simp at *; omega)
              | (go_ret; exact ⟨by rw [← HX.out, ← HZ2.out]; rfl, Keeps.refl _ _⟩)
          · have t2 : decide (8 ≤ b) = false := decide_eq_false hb
            rw [if_neg (by omega)] at hz
            have HZ2 := Aside0.mk hz
            clear hz ha
            go_wp2
            go_ret
            exact ⟨by rw [← HX.out, ← HZ2.out]; rfl, Keeps.refl _ _⟩
        · have t1 : (a == 13) = false := beq_f ha
          rw [if_neg (by omega)] at hz
          have HZ2 := Aside0.mk hz
          clear hz ha
          go_wp2
          go_ret
          exact ⟨by rw [← HX.out, ← HZ2.out]; rfl, Keeps.refl _ _⟩
      | [a, b, c'], HN, HC, HZ =>
        obtain rfl : 3 = n := HN.out
        obtain ⟨⟨ab, ao, ax⟩, rfl, hc⟩ := cells_i64 HC.out (by simp)
        have j0 : w.cell? ⟨ab, ao, ax⟩ = some (.int .i64 a) := hc 0 (by simp)
        have j1 : w.cell? ⟨ab, ao + 1, none⟩ = some (.int .i64 b) := hc 1 (by simp)
        have hz := HZ.out
        simp only [fourL, halfL] at hz
        clear hc HC HZ
        obtain ⟨X, hX⟩ : ∃ X, strOfNums (zerosL (4 - 3)) = X := ⟨_, rfl⟩
        have HX := Aside0.mk hX
        have hsz : X.size ≤ 4 := by rw [← hX, str_size]; decide
        rw [hX]
        clear hX
        by_cases ha : a = 13
        · have t1 : (a == 13) = true := beq_iff_eq.mpr ha
          by_cases hb : 8 ≤ b
          · have t2 : decide (8 ≤ b) = true := decide_eq_true hb
            rw [if_pos ⟨ha, hb⟩] at hz
            have HZ2 := Aside0.mk hz
            clear hz ha
            go_wp2
            all_goals first
              | (exfalso; simp at *; omega)
              | (go_ret; exact ⟨by rw [← HX.out, ← HZ2.out]; rfl, Keeps.refl _ _⟩)
          · have t2 : decide (8 ≤ b) = false := decide_eq_false hb
            rw [if_neg (by omega)] at hz
            have HZ2 := Aside0.mk hz
            clear hz ha
            go_wp2
            go_ret
            exact ⟨by rw [← HX.out, ← HZ2.out]; rfl, Keeps.refl _ _⟩
        · have t1 : (a == 13) = false := beq_f ha
          rw [if_neg (by omega)] at hz
          have HZ2 := Aside0.mk hz
          clear hz ha
          go_wp2
          go_ret
          exact ⟨by rw [← HX.out, ← HZ2.out]; rfl, Keeps.refl _ _⟩
      | _ :: _ :: _ :: _ :: _, HN, HC, HZ => exact absurd HN.out (by simp; omega)

set_option maxHeartbeats 4000000 in
set_option maxRecDepth 100000 in
theorem rpair_any (base q : Nat) (S : Nat → Prop) (s : RV) (w : World) (h : RefAt w base S q s) (hl : s.Hex.length ≤ 3) (he : s.Esc = 0 ∨ s.Esc = 1 ∨ s.Esc = 2) :
    Calls Try.prog 41 #[.pointer (some ⟨q, 0, none⟩)] w fun e w' => e = .returned (.string (strOfNums (pairL s.Esc s.Hex))) ∧ Keeps (fun _ => False) w w' := by
  obtain ⟨A0, c0, A1, c1, A2, c2, h1, h2, h3, h4⟩ := h.row
  have k2 : w.cell? ⟨q, 2, none⟩ = some (.int .i64 s.Esc) := (blk_cell h1 2).trans rfl
  have k3 : w.cell? ⟨q, 3, none⟩ = some (.slice A2 s.Hex.length c2) := (blk_cell h1 3).trans rfl
  obtain ⟨O, B, E, H, W, V⟩ := s
  simp only at k2 k3 hl he
  clear h h1 h2 h3 h4
  obtain ⟨n, hn⟩ : ∃ n, H.length = n := ⟨_, rfl⟩
  rw [hn] at k3 hl
  have e0 : pairL E H = if E = 0 then [92, 117, 100, 99, 48, 48, 34] else if E = 1 then [117, 100, 99, 48, 48, 34] else ([100, 99, 48, 48, 34] : List Int).drop n := by
    unfold pairL
    rw [hn]
  rw [show (Value.string (strOfNums (pairL E H))) = .string (strOfNums (if E = 0 then [92, 117, 100, 99, 48, 48, 34] else if E = 1 then [117, 100, 99, 48, 48, 34] else ([100, 99, 48, 48, 34] : List Int).drop n)) by rw [e0]]
  clear e0 hn
  rcases he with e | e | e
  · subst e
    go_enter Try.func41, Try.ntmps41
    go_wp2
    go_ret
    exact ⟨rfl, Keeps.refl _ _⟩
  · subst e
    go_enter Try.func41, Try.ntmps41
    go_wp2
    go_ret
    exact ⟨rfl, Keeps.refl _ _⟩
  · subst e
    have hn : n = 0 ∨ n = 1 ∨ n = 2 ∨ n = 3 := by omega
    rcases hn with e | e | e | e
    all_goals
      subst e
      go_enter Try.func41, Try.ntmps41
      go_wp2
      go_ret
      exact ⟨rfl, Keeps.refl _ _⟩
def lenOf : Value → Nat
  | .slice _ n _ => n
  | _ => 0
theorem byt_snoc {b : List Int} {x : Int} (h : Byt b) (hx : 0 ≤ x ∧ x ≤ 255) : Byt (b ++ [x]) := byt_app h (byt_cons hx (fun _ h => by simp at h))
set_option maxHeartbeats 4000000 in
set_option maxRecDepth 100000 in
theorem rrest_any (base q : Nat) (S : Nat → Prop) (s : RV) (w : World) (h : RefAt w base S q s) (hby : Byt s.B) (hw : howV s.B = 1) :
    Calls Try.prog 40 #[.pointer (some ⟨q, 0, none⟩)] w fun e w' => e = .returned (.string (strOfNums (contV 3 s.B ++ [34]))) ∧ Keeps (fun _ => False) w w' := by
  obtain ⟨A0, c0, A1, c1, A2, c2, h1, h2, h3, h4⟩ := h.row
  have k1 : w.cell? ⟨q, 1, none⟩ = some (.slice A1 s.B.length c1) := (blk_cell h1 1).trans rfl
  have H1 := Aside0.mk h1
  have H3 := Aside0.mk h3
  have hlt := h.lt
  have hlB := howV_one_len hw
  obtain ⟨O, B, E, H, W, V⟩ := s
  simp only at k1 hby hw hlB H1 H3
  have HBY := Aside0.mk hby
  have HW := Aside0.mk hw
  obtain ⟨Z, hZ⟩ : ∃ Z, contV 3 B = Z := ⟨_, rfl⟩
  rw [hZ]
  have HZ := Aside0.mk hZ
  clear h h1 h2 h3 h4 hby hw hZ
  go_enter Try.func40, Try.ntmps40
  go_wp2_with (
    ((with_reducible refine gate_builtin (b := .append) (xs := #[.tmp 5, .tmp 9]) rfl ?_); at_builtin; refine app_row (Value.int .u8) (0 : Int) w.heap.size rfl (.tmp 5) (.tmp 9) 22 5 (.int .u8 0) 1 rfl Try.underlying22 info5 rfl (by decide) (.slice (some ⟨w.heap.size, 0, none⟩) 0 0) [] B B rfl A1 B.length c1 (fun k => w.heap.size ≤ k) rfl rfl (Kd.R_of_own (own_lit w w.heap.size 5 .u8 [] (Nat.le_refl _) (by simp)) (fun k hk => by simp [Value.ownBlock] at hk; omega)) (Kd.C_alloc (Kd.R_reads' H3.out).2.2 _) (by simp) (by simp; omega) ?_; intro B1 d1 w1 hr1 hk1; have HR1 := Aside0.mk (Kd.R_mono hr1 (ok' := fun k => w.heap.size ≤ k) (fun k hk => hk.elim id (fun hn => by have := hn.1; simp at this; omega))); have HK1 := Aside0.mk (((Keeps.refl (fun _ => False) w).alloc _).trans hk1 (fun k hk => .inr (by simp [Value.ownBlock] at hk; omega))); clear hr1 hk1))
  go_loopw [3] (fun v wr => ∃ (b p : List Int) (n : Nat) (A : Option Addr) (c : Nat), v = .slice A b.length c ∧ Aside0 (Kd.R (Kd.int .u8) 5 wr w.heap.size (fun k => w.heap.size ≤ k) (.slice A b.length c) b) ∧ Aside0 (Keeps (fun _ => False) w wr) ∧ Aside0 (Byt b ∧ b = B ++ p ∧ p ++ contV n b = Z ∧ 4 ≤ b.length + n ∧ howV b ≠ 0) ∧ b.length ≤ 4) (fun v _ => 4 - lenOf v)
  case atStart => exact ⟨B, [], 3, B1, d1, rfl, ⟨HR1.out⟩, ⟨HK1.out⟩, ⟨HBY.out, by simp, by rw [HZ.out]; rfl, by omega, by rw [HW.out]; decide⟩, by omega⟩
  case round =>
    obtain ⟨b, p, n, A, c, rfl, HR, HK, HB, hlb⟩ := hrel
    have hH := how_val 0 b HB.out.1 (by omega)
    by_cases h1 : howV b = 1
    · rw [h1] at hH
      have HH := Aside0.mk hH
      have HW1 := Aside0.mk h1
      clear h1 hH
      go_wp2_with (go_at_call 58; refine (orthoepyref02_How.calls 8 A c b 1 _ (Kd.R_reads' HR.out).2.2 (Kd.R_reads' HR.out).2.1 HH.out).mono ?_; rintro e w3 ⟨rfl, hd⟩; obtain ⟨nd, hd⟩ := hd.out; subst hd)
      have HR3 := Aside0.mk (((Keeps.refl (fun _ => False) wr).drewN nd).R HR.out (fun _ _ => id))
      have HK3 := Aside0.mk (HK.out.drewN nd)
      have hb3 := HK3.out.size
      clear hd
      generalize wr.drewN nd = w3 at HR3 HK3 hb3 ⊢
      obtain ⟨⟨n1, n2, n3⟩, n4, _⟩ := next_ok b HB.out.1 HW1.out
      obtain ⟨X, hX⟩ : ∃ X, nextB b = X := ⟨_, rfl⟩
      rw [hX] at n1 n2 n3 n4
      have N1 := Aside0.mk n1
      have N4 := Aside0.mk n4
      have HX := Aside0.mk hX
      clear n1 n4 hX
      go_loopw [4] (fun x wi => ∃ y : Int, x = .int .u8 y ∧ 128 ≤ y ∧ y ≤ X ∧ Aside0 (Keeps (fun _ => False) w3 wi)) (fun x _ => 256 - (intOf x).toNat)
      case atStart => exact ⟨128, rfl, by omega, n2, ⟨Keeps.refl _ _⟩⟩
      case round =>
        obtain ⟨y, rfl, y1, y2, HKi⟩ := hrel
        have HRi := Aside0.mk (HKi.out.R HR3.out (fun _ _ => id))
        have hbi : w.heap.size ≤ wr.heap.size := Nat.le_trans hb3 HKi.out.size
        have hyw : Byt (b ++ [y]) := byt_snoc HB.out.1 (by omega)
        have hlz : (b ++ [y]).length ≤ 5 := by simp; omega
        have hH2 := how_val 0 (b ++ [y]) hyw (by omega)
        obtain ⟨Zb, hZb⟩ : ∃ Zb, b ++ [y] = Zb := ⟨_, rfl⟩
        rw [hZb] at hH2 hlz
        have HZb := Aside0.mk hZb
        have HH2 := Aside0.mk hH2
        clear hyw hZb hH2
        by_cases hyX : y = X
        · subst hyX
          have hne : howV Zb ≠ 0 := by rw [← HZb.out]; exact N1.out
          have t0 : (howV Zb == 0) = false := beq_f hne
          obtain ⟨n, rfl⟩ : ∃ m, n = m + 1 := ⟨n - 1, by have := howV_one_len HW1.out; have := HB.out.2.2.2.1; omega⟩
          have hb31 : b.length ≤ 3 := by have := howV_one_len HW1.out; omega
          go_wp2_with (first
          | ((with_reducible refine gate_builtin (b := .append) (xs := #[.tmp 14, .tmp 15]) rfl ?_); at_builtin; refine app_row (Value.int .u8) (0 : Int) w.heap.size rfl (.tmp 14) (.tmp 15) 22 5 (.int .u8 0) 1 rfl Try.underlying22 info5 rfl (by decide) (.slice (some ⟨wr.heap.size, 0, none⟩) 0 0) [] b b rfl A b.length c (fun k => w3.heap.size ≤ k) rfl rfl (Kd.R_of_own (own_lit wr w.heap.size 5 .u8 [] hbi (by simp)) (fun k hk => by have q2 := HKi.out.size; simp [Value.ownBlock] at hk; omega)) (Kd.C_alloc (Kd.R_reads' HRi.out).2.2 _) (by simp; omega) (by simp; omega) ?_; intro B2 d2 w5 hr5 hk5; have HR5 := Aside0.mk (Kd.R_mono hr5 (ok' := fun k => w3.heap.size ≤ k) (fun k hk => hk.elim id (fun hn => by have q1 := hn.1; have q2 := HKi.out.size; simp at q1; omega))); have HK5 := Aside0.mk ((HKi.out.alloc _).trans hk5 (fun k hk => .inr (by have q2 := HKi.out.size; simp [Value.ownBlock] at hk; omega))); clear hr5 hk5)
          | ((with_reducible refine gate_builtin (b := .append) (xs := #[.tmp 16, .tmp 18]) rfl ?_); at_builtin; refine app_row (Value.int .u8) (0 : Int) w.heap.size rfl (.tmp 16) (.tmp 18) 22 5 (.int .u8 0) 1 rfl Try.underlying22 info5 rfl (by decide) (.slice B2 b.length d2) b [y] Zb HZb.out (some ⟨w5.heap.size, 0, none⟩) 1 1 (fun k => w3.heap.size ≤ k) rfl rfl (Kd.R_alloc HR5.out _) (C_one (Value.int .u8) 0 w5 5 y) (by have := HK5.out.size; simp; omega) (by simp; omega) ?_; intro B3 d3 w6 hr6 hk6; have HR6 := Aside0.mk hr6; have HK6 := Aside0.mk ((HK5.out.alloc _).trans hk6 (fun k hk => .inr (HR5.out.1 k hk.symm))); clear hr6 hk6)
          | (go_at_call 58; refine (orthoepyref02_How.calls 8 B3 d3 Zb (howV Zb) _ (Kd.R_reads' HR6.out).2.2 (Kd.R_reads' HR6.out).2.1 HH2.out).mono ?_; rintro e w7 ⟨rfl, hd⟩; obtain ⟨nd, hd⟩ := hd.out; subst hd)
            | ((with_reducible refine gate_builtin (b := .append) (xs := #[.tmp 24, .tmp 26]) rfl ?_); at_builtin; refine app_row (Value.int .u8) (0 : Int) w.heap.size rfl (.tmp 24) (.tmp 26) 22 5 (.int .u8 0) 1 rfl Try.underlying22 info5 rfl (by decide) (.slice A b.length c) b [y] Zb HZb.out (some ⟨(w6.drewN nd).heap.size, 0, none⟩) 1 1 (fun k => w.heap.size ≤ k) rfl rfl (Kd.R_alloc ((HK6.out.drewN nd).R HR3.out (fun _ _ => id)) _) (C_one (Value.int .u8) 0 (w6.drewN nd) 5 y) (by have := HK6.out.size; simp; omega) (by simp; omega) ?_; intro B4 d4 w8 hr8 hk8; have HR8 := Aside0.mk hr8; have HK8 := Aside0.mk ((((HK3.out.trans (HK6.out.drewN nd) (fun _ q => q.elim)).alloc _).trans hk8 (fun k hk => .inr (HR3.out.1 k hk.symm)))); clear hr8 hk8))
          go_roundw
          case rel =>
            obtain ⟨q1, q2, q3, q4, q5⟩ := HB.out
            refine ⟨Zb, p ++ [y], n, B4, d4, rfl, ⟨Kd.R_mono HR8.out (fun k hk => hk.elim id (fun hn => by have q7 := hn.1; have q8 := HK6.out.size; simp at q7; omega))⟩, ⟨HK8.out⟩, ⟨?_, ?_, ?_, ?_, hne⟩, ?_⟩
            · rw [← HZb.out]; exact byt_snoc q1 (by omega)
            · rw [← HZb.out, q2, List.append_assoc]
            · rw [← q3]
              simp only [contV, HW1.out, if_true, HX.out, HZb.out]
              simp
            · rw [← HZb.out]; simp; omega
            · rw [← HZb.out]; simp; omega
          case measure => simp [lenOf, ← HZb.out]; omega
        · have he0 : howV Zb = 0 := by rw [← HZb.out]; exact N4.out y y1 (by omega)
          rw [he0] at HH2
          clear he0
          go_wp2_with (first
            | ((with_reducible refine gate_builtin (b := .append) (xs := #[.tmp 14, .tmp 15]) rfl ?_); at_builtin; refine app_row (Value.int .u8) (0 : Int) w.heap.size rfl (.tmp 14) (.tmp 15) 22 5 (.int .u8 0) 1 rfl Try.underlying22 info5 rfl (by decide) (.slice (some ⟨wr.heap.size, 0, none⟩) 0 0) [] b b rfl A b.length c (fun k => w3.heap.size ≤ k) rfl rfl (Kd.R_of_own (own_lit wr w.heap.size 5 .u8 [] hbi (by simp)) (fun k hk => by have q2 := HKi.out.size; simp [Value.ownBlock] at hk; omega)) (Kd.C_alloc (Kd.R_reads' HRi.out).2.2 _) (by simp; omega) (by simp; omega) ?_; intro B2 d2 w5 hr5 hk5; have HR5 := Aside0.mk (Kd.R_mono hr5 (ok' := fun k => w3.heap.size ≤ k) (fun k hk => hk.elim id (fun hn => by have q1 := hn.1; have q2 := HKi.out.size; simp at q1; omega))); have HK5 := Aside0.mk ((HKi.out.alloc _).trans hk5 (fun k hk => .inr (by have q2 := HKi.out.size; simp [Value.ownBlock] at hk; omega))); clear hr5 hk5)
            | ((with_reducible refine gate_builtin (b := .append) (xs := #[.tmp 16, .tmp 18]) rfl ?_); at_builtin; refine app_row (Value.int .u8) (0 : Int) w.heap.size rfl (.tmp 16) (.tmp 18) 22 5 (.int .u8 0) 1 rfl Try.underlying22 info5 rfl (by decide) (.slice B2 b.length d2) b [y] Zb HZb.out (some ⟨w5.heap.size, 0, none⟩) 1 1 (fun k => w3.heap.size ≤ k) rfl rfl (Kd.R_alloc HR5.out _) (C_one (Value.int .u8) 0 w5 5 y) (by have := HK5.out.size; simp; omega) (by simp; omega) ?_; intro B3 d3 w6 hr6 hk6; have HR6 := Aside0.mk hr6; have HK6 := Aside0.mk ((HK5.out.alloc _).trans hk6 (fun k hk => .inr (HR5.out.1 k hk.symm))); clear hr6 hk6)
            | (go_at_call 58; refine (orthoepyref02_How.calls 8 B3 d3 Zb 0 _ (Kd.R_reads' HR6.out).2.2 (Kd.R_reads' HR6.out).2.1 HH2.out).mono ?_; rintro e w7 ⟨rfl, hd⟩; obtain ⟨nd, hd⟩ := hd.out; subst hd))
          go_roundw
          case rel => exact ⟨y + 1, rfl, by omega, by omega, ⟨HK6.out.drewN _⟩⟩
          case measure => simp [intOf]; omega
    · have h2 : howV b = 2 := by have := how_range b; have := HB.out.2.2.2.2; omega
      rw [h2] at hH
      obtain ⟨q1, q2, q3, q4, q5⟩ := HB.out
      have hcon : contV n b = [] := by
        cases n with
        | zero => rfl
        | succ n => simp only [contV]; rw [if_neg h1]
      rw [hcon, List.append_nil] at q3
      subst q3
      have hdr : b.drop B.length = p := by rw [q2]; simp
      have HD := Aside0.mk hdr
      have HH := Aside0.mk hH
      have hbl : B.length ≤ b.length := by rw [q2]; simp
      have HQ := Aside0.mk q2
      have hp4 : p.length ≤ 4 := by have := congrArg List.length q2; simp at this; omega
      have kq := HK.out.blk H1.out id
      have k2 : wr.cell? ⟨q, 1, none⟩ = some (.slice A1 B.length c1) := (blk_cell kq 1).trans rfl
      obtain ⟨i8, hi8, _, hsz8, _⟩ := info_parts info5
      obtain ⟨A8, hcut8, hA8, hC8⟩ := print_drop_of (P := Try.prog) (Value.int .u8) (0 : Int) 22 5 .i64 Try.underlying22 hi8 hsz8 A c b (B.length : Int) (by omega) (by omega) (Kd.R_reads' HR.out).2.1
      rw [Int.toNat_natCast, HD.out] at hcut8 hA8 hC8
      have hcv : ∀ W, Keeps (fun _ => False) wr W → (convert 22 9 (.slice A8 p.length (c - B.length))).run Try.prog W = .ok (.string (strOfNums p)) W := fun W hW =>
        Kd.C_string (P := Try.prog) (c := c - B.length) Try.underlying22 Try.underlying5 Try.underlying9 (Kd.C_of_reads (h1 := fun _ => rfl) (hA8 W (Kd.reads_of_C (Kd.R_reads' (hW.R HR.out (fun _ _ => id))).2.2)))
      have HCV := Aside0.mk hcv
      obtain ⟨X, hX⟩ : ∃ X, strOfNums p = X := ⟨_, rfl⟩
      have hXs : X.size ≤ 4 := by rw [← hX, str_size]; exact hp4
      simp only [hX] at HCV
      have HX := Aside0.mk hX
      clear q1 q2 q4 q5 hcon h1 h2 hH hdr hbl kq hi8 hsz8 hA8 hC8 hcv hX
      go_wp2_with (go_at_call 58; refine (orthoepyref02_How.calls 8 A c b 2 _ (Kd.R_reads' HR.out).2.2 (Kd.R_reads' HR.out).2.1 HH.out).mono ?_; rintro e w3 ⟨rfl, hd⟩; obtain ⟨nd, hd⟩ := hd.out; subst hd; have hcv := HCV.out (wr.drewN nd) ((Keeps.refl _ wr).drewN nd))
      go_ret
      refine ⟨?_, HK.out.drewN _⟩
      have e34 := str_app p [34]
      rw [HX.out] at e34
      rw [← e34]
      rfl
set_option maxHeartbeats 4000000 in
set_option maxRecDepth 100000 in
theorem rmore_any (base q : Nat) (S : Nat → Prop) (s : RV) (w : World) (h : RefAt w base S q s) (ok : s.Ok) (he : s.Esc = 0 ∨ s.Esc = 1 ∨ s.Esc = 2) (ho : s.Over = false) :
    Calls Try.prog 17 #[.pointer (some ⟨q, 0, none⟩)] w fun e w' => e = .returned (.string (strOfNums (moreL s))) ∧ Keeps (fun _ => False) w w' := by
  obtain ⟨A0, c0, A1, c1, A2, c2, h1, h2, h3, h4⟩ := h.row
  have k1 : w.cell? ⟨q, 1, none⟩ = some (.slice A1 s.B.length c1) := (blk_cell h1 1).trans rfl
  have k2 : w.cell? ⟨q, 2, none⟩ = some (.int .i64 s.Esc) := (blk_cell h1 2).trans rfl
  have k4 : w.cell? ⟨q, 4, none⟩ = some (.int .u16 s.Wait) := (blk_cell h1 4).trans rfl
  have k5 : w.cell? ⟨q, 5, none⟩ = some (.bool s.Over) := (blk_cell h1 5).trans rfl
  rw [ho] at k5
  have hre := rrest_any base q S s w h ok.byt.1
  have hpa := rpair_any base q S s w h ok.hex.1 he
  have hfo := rfour_any base q S s w h ok.hex.1
  have hfl : (strOfNums (fourL s.Hex)).size ≤ 20 := by
    rw [str_size]
    unfold fourL halfL
    (repeat' split) <;> simp
  unfold moreL
  clear h h1 h2 h3 h4
  by_cases c1' : 0 < s.B.length
  · have t1 : decide (0 < s.B.length) = true := decide_eq_true c1'
    have hw : howV s.B = 1 := ok.byt.2.resolve_left (fun q => by rw [q] at c1'; exact absurd c1' (by decide))
    rw [if_pos c1']
    have HC := Aside0.mk (hre hw)
    clear hre hpa hfo hw ok c1' he ho
    go_enter Try.func17, Try.ntmps17
    go_wp2_with (go_at_call 40; refine HC.out.mono ?_; rintro e w1 ⟨rfl, hk⟩; have HK := Aside0.mk hk; clear hk)
    go_ret
    exact ⟨rfl, HK.out⟩
  · have t1 : decide (0 < s.B.length) = false := decide_eq_false c1'
    rw [if_neg c1']
    by_cases c2' : 0 < s.Wait
    · have t2 : decide (0 < s.Wait) = true := decide_eq_true c2'
      rw [if_pos c2']
      have HC := Aside0.mk hpa
      clear hre hpa hfo ok c1' c2' he ho
      go_enter Try.func17, Try.ntmps17
      go_wp2_with (go_at_call 41; refine HC.out.mono ?_; rintro e w1 ⟨rfl, hk⟩; have HK := Aside0.mk hk; clear hk)
      go_ret
      exact ⟨rfl, HK.out⟩
    · have t2 : decide (0 < s.Wait) = false := decide_eq_false c2'
      rw [if_neg c2']
      have HC := Aside0.mk hfo
      rcases he with e | e | e
      · rw [e] at k2 ⊢
        rw [if_neg (by decide), if_neg (by decide)]
        clear hre hpa hfo ok c1' c2' ho e
        go_enter Try.func17, Try.ntmps17
        go_wp2
        go_ret
        exact ⟨rfl, Keeps.refl _ _⟩
      · rw [e] at k2 ⊢
        rw [if_pos rfl]
        clear hre hpa hfo ok c1' c2' ho e
        go_enter Try.func17, Try.ntmps17
        go_wp2
        go_ret
        exact ⟨rfl, Keeps.refl _ _⟩
      · rw [e] at k2 ⊢
        rw [if_neg (by decide), if_pos rfl]
        clear hre hpa hfo ok c1' c2' ho e
        obtain ⟨X, hX⟩ : ∃ X, strOfNums (fourL s.Hex) = X := ⟨_, rfl⟩
        rw [hX] at hfl HC
        have HX := Aside0.mk hX
        clear hX
        go_enter Try.func17, Try.ntmps17
        go_wp2_with (go_at_call 42; refine HC.out.mono ?_; rintro e w1 ⟨rfl, hk⟩; have HK := Aside0.mk hk; clear hk)
        go_ret
        have e34 := str_app (fourL s.Hex) [34]
        rw [HX.out] at e34
        exact ⟨by rw [← e34]; rfl, HK.out⟩

end Go.Proofs.Ytgggjfbgcadboaa.Pure
