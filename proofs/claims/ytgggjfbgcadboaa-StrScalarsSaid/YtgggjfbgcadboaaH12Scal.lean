/- StrScalars: each scalar by its bytes. -/
import Derived.Test.YtgggjfbgcadboaaPAllx1
import Derived.Test.YtgggjfbgcadboaaPAllx2
import Derived.Test.YtgggjfbgcadboaaPAllx5
import Derived.Test.YtgggjfbgcadboaaHKit
import Derived.Test.YtgggjfbgcadboaaLUtf
import Derived.Test.YtgggjfbgcadboaaLRef
import Derived.Test.YtgggjfbgcadboaaH12Plays
import Derived.Test.YtgggjfbgcadboaaH12U
import Derived.Test.YtgggjfbgcadboaaHQuote
import Derived.Outline
import Derived.OwnWalk
namespace Go.Proofs.Ytgggjfbgcadboaa.Pure
open Go.RowKit Go.Proofs.Ytgggjfbgcadboaa.PAll Go.Proofs.YtgggjfbgcadboaaW.PrintWords Go.Proofs.YtgggjfbgcadboaaW.PrintLast Go.Proofs.YtgggjfbgcadboaaW.PrintMore
set_option linter.unusedVariables false
set_option linter.unusedSimpArgs false

/-! ### Scalars by numbers -/
theorem place_val (n m : Int) (hm : 0 < m) (hm' : m < 4000000000000000000) : orthoepylaw00_Place.f n m = some (n % m) := by
  unfold orthoepylaw00_Place.f
  rw [if_neg (by omega)]
  have h1 := Int.tmod_lt_of_pos n hm
  have h2 := Int.lt_tmod_of_pos n hm
  have h3 : n.tmod m % m = n % m := by rw [Int.tmod_def, Int.sub_mul_emod_self_left]
  by_cases h : Int.tmod n m < 0
  · rw [if_pos h]
    have e : wrap64 (Int.tmod n m + m) = Int.tmod n m + m := by unfold wrap64; omega
    rw [e, ← h3]
    congr 1
    rw [← Int.add_emod_right, Int.emod_eq_of_lt (by omega) (by omega)]
  · rw [if_neg h, ← h3, Int.emod_eq_of_lt (by omega) (by omega)]
theorem rune_val (n : Int) : ∃ c, orthoepylaw00_Rune.f n = some c ∧ 0 ≤ c ∧ c ≤ 2147483647 := by
  have h0 := Int.emod_nonneg n (b := 1099511627776) (by decide)
  have h1 := Int.emod_lt_of_pos n (b := 1099511627776) (by decide)
  refine ⟨runeV (n % 1099511627776), ?_, runeV_bound _ h0⟩
  unfold orthoepylaw00_Rune.f
  rw [place_val n _ (by decide) (by decide)]
  simp only [Option.bind_some]
  rw [if_pos ⟨h0, h1⟩]

/-! ### StrScalars, walked -/
theorem enc_len (c : Int) (hs : isScal c = true) : 1 ≤ (encV c).length ∧ (encV c).length ≤ 4 := by
  refine ⟨?_, (encV_byt c).2⟩
  unfold encV
  rw [if_pos hs]
  (repeat' split) <;> simp
theorem Same.refl0 (w : World) : Same w w := ⟨Keeps.refl _ _⟩
/-- What the law's push leaves: how many scalars, whether something is begun, what it has said. -/
structure Left (p r : Nat) (w w' : World) (n : Int) (b : Bool) (x : ByteArray) : Prop where
  keeps : Keeps (Mine (fun _ => False) p r) w w'
  len : ∀ W, Same w' W → Calls Try.prog 12 #[.pointer (some ⟨p, 0, none⟩)] W fun e w2 => e = .returned (.int .i64 n) ∧ W = w2
  inside : ∀ W, Same w' W → Calls Try.prog 13 #[.pointer (some ⟨p, 0, none⟩)] W fun e w2 => e = .returned (.bool b) ∧ W = w2
  text : ∀ W, Same w' W → Calls Try.prog 15 #[.pointer (some ⟨p, 0, none⟩)] W fun e w2 => e = .returned (.string x) ∧ W = w2
theorem scal_push (base p r : Nat) (w : World) (L : List Int) (X : ByteArray) (hX : strOfNums L = X) (hL : Byt L) (hl : L.length ≤ 100000) (h : StrAt w base (fun _ => False) p r SV.zero) (i : Int) (c : Int) (o : Bool) (t : RV) (n : Int) (b : Bool) (x : ByteArray)
    (hp : ∃ k : Nat, (k : Int) = i ∧ playV RV.zero L 0 = (k, c, o, t)) (hn : (t.Out.length : Int) = n) (hb : t.inside = b) (hx : strOfNums (textV t.Out) = x) :
    Calls Try.prog 18 #[.pointer (some ⟨p, 0, none⟩), .string X] w fun e w' => e = .returned (.tuple #[.int .i64 i, .int .i64 c, .bool o]) ∧ Left p r w w' n b x := by
  subst hX
  have hb' := bnums_nums L hL
  obtain ⟨k, rfl, hp⟩ := hp
  refine (play_any base p r 0 _ SV.zero RV.zero _ w h (Sim.zero 0) (by rw [str_size]; omega)).mono ?_
  rw [hb', hp]
  rintro e w' ⟨s', rfl, hk, hs, hm⟩
  refine ⟨rfl, hk, fun W hW => ?_, fun W hW => ?_, fun W hW => ?_⟩
  · have a1 := len_any _ p r _ s' W (hs.keep hW.out id id (fun _ _ => id))
    rw [hm.n, hn] at a1
    exact a1.mono (fun _ _ q => ⟨q.1, q.2.symm⟩)
  · have a2 := inside_any _ p r _ s' W (hs.keep hW.out id id (fun _ _ => id))
    rw [hm.inside, hb] at a2
    exact a2.mono (fun _ _ q => ⟨q.1, q.2.symm⟩)
  · have a3 := text_any _ p r _ s' W (hs.keep hW.out id id (fun _ _ => id))
    rw [hm.text, hx] at a3
    exact a3.mono (fun _ _ q => ⟨q.1, q.2.symm⟩)
theorem mine_old {p r : Nat} {w w1 w2 w3 : World} (h1 : Keeps (fun _ => False) w w1) (h2 : Keeps (Mine (fun _ => False) p r) w1 w2) (h3 : Keeps (fun _ => False) w2 w3) (hp : w.heap.size ≤ p ∧ w.heap.size ≤ r) : Below w.heap.size w w3 :=
  ((h1.trans h2 (fun k hk => .inr (by rcases mine_f hk with e | e <;> omega))).trans h3 (fun _ q => q.elim)).below (fun _ q => q.elim) (Nat.le_refl _)
set_option maxHeartbeats 4000000 in
set_option maxRecDepth 100000 in
theorem scalars_none (n c : Int) (w : World) (hc : orthoepylaw00_Rune.f n = some c) (hs : isScal c = false) :
    Calls Try.prog 7 #[.int .i64 n] w fun e w' => e = .returned (.bool true) ∧ Below w.heap.size w w' := by
  have HC := Aside0.mk hc
  have his := ris_val c
  rw [hs] at his
  have HIS := Aside0.mk his
  clear hc hs his
  go_enter Try.func7, Try.ntmps7
  go_wp2_with (first
    | (go_at_call 27; refine (orthoepylaw00_Rune.calls n c _ HC.out).mono ?_; rintro e w1 ⟨rfl, hd⟩; obtain ⟨n1, hd⟩ := hd.out; subst hd)
    | (go_at_call 28; refine (orthoepyref01_Is.calls c false _ HIS.out).mono ?_; rintro e w2 ⟨rfl, hd⟩; obtain ⟨n2, hd⟩ := hd.out; subst hd)
    | (go_at_call 9; refine (awake_any _).mono ?_; rintro e w6 ⟨rfl, hk⟩; have HK6 := Aside0.mk hk; clear hk))
  go_ret
  exact ⟨rfl, (((Keeps.refl (fun _ => False) w).drewN _).trans HK6.out (fun _ q => q.elim)).below (fun _ q => q.elim) (Nat.le_refl _)⟩
set_option maxHeartbeats 4000000 in
set_option maxRecDepth 100000 in
theorem scalars_low (n c : Int) (w : World) (hc : orthoepylaw00_Rune.f n = some c) (hs : isScal c = true) (h : c < 32) :
    Calls Try.prog 7 #[.int .i64 n] w fun e w' => e = .returned (.bool true) ∧ Below w.heap.size w w' := by
  have hsc : 0 ≤ c ∧ c ≤ 1114111 := by
    have := hs
    simp only [isScal, decide_eq_true_eq] at this
    omega
  have HC := Aside0.mk hc
  have his := ris_val c
  rw [hs] at his
  have HIS := Aside0.mk his
  have hbv := rbytes_val c (by omega) (by omega)
  have hel := enc_len c hs
  have hey := (encV_byt c).1
  have hbn := bnums_nums (encV c) hey
  have he : encV c = [c] := by unfold encV; rw [if_pos hs, if_pos (by omega)]
  have hp : ∃ k : Nat, (k : Int) = 0 ∧ playV RV.zero (encV c) 0 = (k, 2, false, RV.zero) := ⟨0, rfl, by
    rw [he]
    show (if _ then _ else _) = _
    have e : rpushV RV.zero c = (false, 2, RV.zero) := by unfold rpushV; rw [if_pos (.inr h)]
    rw [if_pos (by rw [e]; simp), e]⟩
  obtain ⟨L, hL⟩ : ∃ L, encV c = L := ⟨_, rfl⟩
  rw [hL] at hbv hel hey hbn hp
  obtain ⟨X, hX⟩ : ∃ X, strOfNums L = X := ⟨_, rfl⟩
  have hXs : X.size = L.length := by rw [← hX, str_size]
  have HPUSH := Aside0.mk (fun p r W h => scal_push w.heap.size p r W L X hX hey (by omega) h 0 2 false RV.zero 0 false ⟨#[]⟩ hp rfl rfl rfl)
  have HX := Aside0.mk hX
  have HB := Aside0.mk hbv
  have t1 : decide (c < 32) = true := decide_eq_true h
  clear hc hs his hbv hel hey hbn hp hX he h hL
  go_enter Try.func7, Try.ntmps7
  go_wp2_with (first
    | (go_at_call 27; refine (orthoepylaw00_Rune.calls n c _ HC.out).mono ?_; rintro e w1 ⟨rfl, hd⟩; obtain ⟨n1, hd⟩ := hd.out; subst hd)
    | (go_at_call 28; refine (orthoepyref01_Is.calls c true _ HIS.out).mono ?_; rintro e w2 ⟨rfl, hd⟩; obtain ⟨n2, hd⟩ := hd.out; subst hd)
    | (go_at_call 8; refine (new_any w.heap.size _ (by simp)).mono ?_; rintro e w3 ⟨p, r, rfl, hk, hs, g1, g2⟩; have HK3 := Aside0.mk (((Keeps.refl (fun _ => False) w).drewN _).trans hk (fun _ q => q.elim)); have HS3 := Aside0.mk hs; clear hk hs g1 g2)
    | (go_at_call 29; refine (orthoepyref02_Bytes.calls c L _ HB.out).mono ?_; rintro e w4 ⟨v1, rfl, hr1, hB1⟩; obtain ⟨B1, d1, e1⟩ := Kd.R_slice hr1; subst e1; have hc := Kd.C_string (P := Try.prog) (c := d1) Try.underlying22 Try.underlying5 Try.underlying9 (Kd.R_reads' hr1).2.2; rw [HX.out] at hc; have HK4 := Aside0.mk (Keeps.of_below hB1 (fun _ => False)); have HS4 := Aside0.mk (HS3.out.keep (Keeps.of_below hB1 (fun _ => False)) id id (fun _ q => q.elim)); clear hr1 hB1)
    | (go_at_call 18; refine (HPUSH.out p r _ HS4.out).mono ?_; rintro e w5 ⟨rfl, hl⟩; have HL := Aside0.mk hl; clear hl)
    | (go_at_call 12; refine (HL.out.len _ (by repeat (first | exact Same.refl0 _ | apply Same.drewN | apply Same.drew))).mono ?_; rintro e w' ⟨rfl, rfl⟩)
    | (go_at_call 9; refine (awake_any _).mono ?_; rintro e w6 ⟨rfl, hk⟩; have HK6 := Aside0.mk hk; clear hk))
  go_ret
  exact ⟨rfl, mine_old (HK3.out.trans HK4.out (fun _ q => q.elim)) HL.out.keeps ((((Keeps.refl (fun _ => False) w5)).trans HK6.out (fun _ q => q.elim))) HS3.out.base_.2⟩
set_option maxHeartbeats 4000000 in
set_option maxRecDepth 100000 in
theorem scalars_quote (n c : Int) (w : World) (hc : orthoepylaw00_Rune.f n = some c) (hs : isScal c = true) (h : c = 34) :
    Calls Try.prog 7 #[.int .i64 n] w fun e w' => e = .returned (.bool true) ∧ Below w.heap.size w w' := by
  have hsc : 0 ≤ c ∧ c ≤ 1114111 := by
    have := hs
    simp only [isScal, decide_eq_true_eq] at this
    omega
  have HC := Aside0.mk hc
  have his := ris_val c
  rw [hs] at his
  have HIS := Aside0.mk his
  have hbv := rbytes_val c (by omega) (by omega)
  have hel := enc_len c hs
  have hey := (encV_byt c).1
  have hbn := bnums_nums (encV c) hey
  have he : encV c = [c] := by unfold encV; rw [if_pos hs, if_pos (by omega)]
  have hp : ∃ k : Nat, (k : Int) = 0 ∧ playV RV.zero (encV c) 0 = (k, 0, true, { RV.zero with Over := true }) := ⟨0, rfl, by
    rw [he, h]
    rfl⟩
  obtain ⟨L, hL⟩ : ∃ L, encV c = L := ⟨_, rfl⟩
  rw [hL] at hbv hel hey hbn hp
  obtain ⟨X, hX⟩ : ∃ X, strOfNums L = X := ⟨_, rfl⟩
  have hXs : X.size = L.length := by rw [← hX, str_size]
  have HPUSH := Aside0.mk (fun p r W h => scal_push w.heap.size p r W L X hX hey (by omega) h 0 0 true { RV.zero with Over := true } 0 false ⟨#[]⟩ hp rfl rfl rfl)
  have HX := Aside0.mk hX
  have HB := Aside0.mk hbv
  have t1 : decide (c < 32) = false := decide_eq_false (by omega)
  have t2 : (c == 34) = true := beq_iff_eq.mpr h
  have t3 : ((⟨#[]⟩ : ByteArray) == ⟨#[]⟩) = true := rfl
  clear hc hs his hbv hel hey hbn hp hX he h hL
  go_enter Try.func7, Try.ntmps7
  go_wp2_with (first
    | (go_at_call 27; refine (orthoepylaw00_Rune.calls n c _ HC.out).mono ?_; rintro e w1 ⟨rfl, hd⟩; obtain ⟨n1, hd⟩ := hd.out; subst hd)
    | (go_at_call 28; refine (orthoepyref01_Is.calls c true _ HIS.out).mono ?_; rintro e w2 ⟨rfl, hd⟩; obtain ⟨n2, hd⟩ := hd.out; subst hd)
    | (go_at_call 8; refine (new_any w.heap.size _ (by simp)).mono ?_; rintro e w3 ⟨p, r, rfl, hk, hs, g1, g2⟩; have HK3 := Aside0.mk (((Keeps.refl (fun _ => False) w).drewN _).trans hk (fun _ q => q.elim)); have HS3 := Aside0.mk hs; clear hk hs g1 g2)
    | (go_at_call 29; refine (orthoepyref02_Bytes.calls c L _ HB.out).mono ?_; rintro e w4 ⟨v1, rfl, hr1, hB1⟩; obtain ⟨B1, d1, e1⟩ := Kd.R_slice hr1; subst e1; have hc := Kd.C_string (P := Try.prog) (c := d1) Try.underlying22 Try.underlying5 Try.underlying9 (Kd.R_reads' hr1).2.2; rw [HX.out] at hc; have HK4 := Aside0.mk (Keeps.of_below hB1 (fun _ => False)); have HS4 := Aside0.mk (HS3.out.keep (Keeps.of_below hB1 (fun _ => False)) id id (fun _ q => q.elim)); clear hr1 hB1)
    | (go_at_call 18; refine (HPUSH.out p r _ HS4.out).mono ?_; rintro e w5 ⟨rfl, hl⟩; have HL := Aside0.mk hl; clear hl)
    | (go_at_call 15; refine (HL.out.text _ (by repeat (first | exact Same.refl0 _ | apply Same.drewN | apply Same.drew))).mono ?_; rintro e w' ⟨rfl, rfl⟩)
    | (go_at_call 9; refine (awake_any _).mono ?_; rintro e w6 ⟨rfl, hk⟩; have HK6 := Aside0.mk hk; clear hk))
  go_ret
  exact ⟨rfl, mine_old (HK3.out.trans HK4.out (fun _ q => q.elim)) HL.out.keeps ((((Keeps.refl (fun _ => False) w5)).trans HK6.out (fun _ q => q.elim))) HS3.out.base_.2⟩
set_option maxHeartbeats 4000000 in
set_option maxRecDepth 100000 in
theorem scalars_sign (n c : Int) (w : World) (hc : orthoepylaw00_Rune.f n = some c) (hs : isScal c = true) (h : c = 92) :
    Calls Try.prog 7 #[.int .i64 n] w fun e w' => e = .returned (.bool true) ∧ Below w.heap.size w w' := by
  have hsc : 0 ≤ c ∧ c ≤ 1114111 := by
    have := hs
    simp only [isScal, decide_eq_true_eq] at this
    omega
  have HC := Aside0.mk hc
  have his := ris_val c
  rw [hs] at his
  have HIS := Aside0.mk his
  have hbv := rbytes_val c (by omega) (by omega)
  have hel := enc_len c hs
  have hey := (encV_byt c).1
  have hbn := bnums_nums (encV c) hey
  have he : encV c = [c] := by unfold encV; rw [if_pos hs, if_pos (by omega)]
  have hp : ∃ k : Nat, (k : Int) = 1 ∧ playV RV.zero (encV c) 0 = (k, 0, false, { RV.zero with Esc := 1 }) := ⟨1, rfl, by
    rw [he, h]
    rfl⟩
  obtain ⟨L, hL⟩ : ∃ L, encV c = L := ⟨_, rfl⟩
  rw [hL] at hbv hel hey hbn hp
  obtain ⟨X, hX⟩ : ∃ X, strOfNums L = X := ⟨_, rfl⟩
  have hXs : X.size = L.length := by rw [← hX, str_size]
  have HPUSH := Aside0.mk (fun p r W h => scal_push w.heap.size p r W L X hX hey (by omega) h 1 0 false { RV.zero with Esc := 1 } 0 true ⟨#[]⟩ hp rfl rfl rfl)
  have HX := Aside0.mk hX
  have HB := Aside0.mk hbv
  have t1 : decide (c < 32) = false := decide_eq_false (by omega)
  have t2 : (c == 34) = false := beq_f (by omega)
  have t3 : (c == 92) = true := beq_iff_eq.mpr h
  clear hc hs his hbv hel hey hbn hp hX he h hL
  go_enter Try.func7, Try.ntmps7
  go_wp2_with (first
    | (go_at_call 27; refine (orthoepylaw00_Rune.calls n c _ HC.out).mono ?_; rintro e w1 ⟨rfl, hd⟩; obtain ⟨n1, hd⟩ := hd.out; subst hd)
    | (go_at_call 28; refine (orthoepyref01_Is.calls c true _ HIS.out).mono ?_; rintro e w2 ⟨rfl, hd⟩; obtain ⟨n2, hd⟩ := hd.out; subst hd)
    | (go_at_call 8; refine (new_any w.heap.size _ (by simp)).mono ?_; rintro e w3 ⟨p, r, rfl, hk, hs, g1, g2⟩; have HK3 := Aside0.mk (((Keeps.refl (fun _ => False) w).drewN _).trans hk (fun _ q => q.elim)); have HS3 := Aside0.mk hs; clear hk hs g1 g2)
    | (go_at_call 29; refine (orthoepyref02_Bytes.calls c L _ HB.out).mono ?_; rintro e w4 ⟨v1, rfl, hr1, hB1⟩; obtain ⟨B1, d1, e1⟩ := Kd.R_slice hr1; subst e1; have hc := Kd.C_string (P := Try.prog) (c := d1) Try.underlying22 Try.underlying5 Try.underlying9 (Kd.R_reads' hr1).2.2; rw [HX.out] at hc; have HK4 := Aside0.mk (Keeps.of_below hB1 (fun _ => False)); have HS4 := Aside0.mk (HS3.out.keep (Keeps.of_below hB1 (fun _ => False)) id id (fun _ q => q.elim)); clear hr1 hB1)
    | (go_at_call 18; refine (HPUSH.out p r _ HS4.out).mono ?_; rintro e w5 ⟨rfl, hl⟩; have HL := Aside0.mk hl; clear hl)
    | (go_at_call 13; refine (HL.out.inside _ (by repeat (first | exact Same.refl0 _ | apply Same.drewN | apply Same.drew))).mono ?_; rintro e w' ⟨rfl, rfl⟩)
    | (go_at_call 12; refine (HL.out.len _ (by repeat (first | exact Same.refl0 _ | apply Same.drewN | apply Same.drew))).mono ?_; rintro e w' ⟨rfl, rfl⟩)
    | (go_at_call 9; refine (awake_any _).mono ?_; rintro e w6 ⟨rfl, hk⟩; have HK6 := Aside0.mk hk; clear hk))
  go_ret
  exact ⟨rfl, mine_old (HK3.out.trans HK4.out (fun _ q => q.elim)) HL.out.keeps ((((Keeps.refl (fun _ => False) w5)).trans HK6.out (fun _ q => q.elim))) HS3.out.base_.2⟩
set_option maxHeartbeats 4000000 in
set_option maxRecDepth 100000 in
theorem scalars_non (n c : Int) (w : World) (hc : orthoepylaw00_Rune.f n = some c) (hs : isScal c = true) (h : isNon c = true) :
    Calls Try.prog 7 #[.int .i64 n] w fun e w' => e = .returned (.bool true) ∧ Below w.heap.size w w' := by
  have hsc : 0 ≤ c ∧ c ≤ 1114111 := by
    have := hs
    simp only [isScal, decide_eq_true_eq] at this
    omega
  have HC := Aside0.mk hc
  have his := ris_val c
  rw [hs] at his
  have HIS := Aside0.mk his
  have hbv := rbytes_val c (by omega) (by omega)
  have hel := enc_len c hs
  have hey := (encV_byt c).1
  have hbn := bnums_nums (encV c) hey
  have hbig : 64976 ≤ c := by
    have := (isNon_iff c).1 h
    omega
  have h3 : 2 < (encV c).length := by
    unfold encV
    rw [if_pos hs, if_neg (by omega), if_neg (by omega)]
    split <;> simp
  have hp : ∃ k : Nat, (k : Int) = ((encV c).length : Int) - 1 ∧ playV RV.zero (encV c) 0 = (k, 6, false, ⟨[], (encV c).dropLast, 0, [], 0, false⟩) := ⟨(encV c).length - 1, by omega, by
    have := (play_chain [] [] c (encV c) [] [] 0 (chain_enc c hs (by omega))).2 h
    rw [List.append_nil] at this
    refine this.trans ?_
    simp⟩
  have hin : ((⟨[], (encV c).dropLast, 0, [], 0, false⟩ : RV).inside) = true := by
    unfold RV.inside
    rw [show decide (0 < (encV c).dropLast.length) = true from decide_eq_true (by rw [List.length_dropLast]; omega)]
    rfl
  have hnn := rnon_val c
  rw [h] at hnn
  have HN := Aside0.mk hnn
  obtain ⟨L, hL⟩ : ∃ L, encV c = L := ⟨_, rfl⟩
  rw [hL] at hbv hel hey hbn hp h3 hin
  obtain ⟨X, hX⟩ : ∃ X, strOfNums L = X := ⟨_, rfl⟩
  have hXs : X.size = L.length := by rw [← hX, str_size]
  have HPUSH := Aside0.mk (fun p r W h => scal_push w.heap.size p r W L X hX hey (by omega) h ((L.length : Int) - 1) 6 false _ 0 true ⟨#[]⟩ hp rfl hin rfl)
  have HX := Aside0.mk hX
  have HB := Aside0.mk hbv
  have t1 : decide (c < 32) = false := decide_eq_false (by omega)
  have t2 : (c == 34) = false := beq_f (by omega)
  have t3 : (c == 92) = false := beq_f (by omega)
  have hXs3 : 2 < X.size := by omega
  have hXs4 : X.size ≤ 4 := by omega
  have t4 : decide ((1 : Int) < (X.size : Int)) = true := decide_eq_true (by omega)
  rw [← hXs] at HPUSH
  clear hc hs his hbv hel hey hbn hp hX h hL hnn hbig h3 hin hXs
  go_enter Try.func7, Try.ntmps7
  go_wp2_with (first
    | (go_at_call 27; refine (orthoepylaw00_Rune.calls n c _ HC.out).mono ?_; rintro e w1 ⟨rfl, hd⟩; obtain ⟨n1, hd⟩ := hd.out; subst hd)
    | (go_at_call 28; refine (orthoepyref01_Is.calls c true _ HIS.out).mono ?_; rintro e w2 ⟨rfl, hd⟩; obtain ⟨n2, hd⟩ := hd.out; subst hd)
    | (go_at_call 8; refine (new_any w.heap.size _ (by simp)).mono ?_; rintro e w3 ⟨p, r, rfl, hk, hs, g1, g2⟩; have HK3 := Aside0.mk (((Keeps.refl (fun _ => False) w).drewN _).trans hk (fun _ q => q.elim)); have HS3 := Aside0.mk hs; clear hk hs g1 g2)
    | (go_at_call 29; refine (orthoepyref02_Bytes.calls c L _ HB.out).mono ?_; rintro e w4 ⟨v1, rfl, hr1, hB1⟩; obtain ⟨B1, d1, e1⟩ := Kd.R_slice hr1; subst e1; have hc := Kd.C_string (P := Try.prog) (c := d1) Try.underlying22 Try.underlying5 Try.underlying9 (Kd.R_reads' hr1).2.2; rw [HX.out] at hc; have HK4 := Aside0.mk (Keeps.of_below hB1 (fun _ => False)); have HS4 := Aside0.mk (HS3.out.keep (Keeps.of_below hB1 (fun _ => False)) id id (fun _ q => q.elim)); clear hr1 hB1)
    | (go_at_call 18; refine (HPUSH.out p r _ HS4.out).mono ?_; rintro e w5 ⟨rfl, hl⟩; have HL := Aside0.mk hl; clear hl)
    | (go_at_call 26; refine (orthoepyref01_Nonchar.calls c true _ HN.out).mono ?_; rintro e w2 ⟨rfl, hd⟩; obtain ⟨n6, hd⟩ := hd.out; subst hd)
    | (go_at_call 12; refine (HL.out.len _ (by repeat (first | exact Same.refl0 _ | apply Same.drewN | apply Same.drew))).mono ?_; rintro e w' ⟨rfl, rfl⟩)
    | (go_at_call 13; refine (HL.out.inside _ (by repeat (first | exact Same.refl0 _ | apply Same.drewN | apply Same.drew))).mono ?_; rintro e w' ⟨rfl, rfl⟩)
    | (go_at_call 9; refine (awake_any _).mono ?_; rintro e w6 ⟨rfl, hk⟩; have HK6 := Aside0.mk hk; clear hk))
  go_ret
  exact ⟨rfl, mine_old (HK3.out.trans HK4.out (fun _ q => q.elim)) HL.out.keeps ((((Keeps.refl (fun _ => False) w5).drewN n6).trans HK6.out (fun _ q => q.elim))) HS3.out.base_.2⟩
set_option maxHeartbeats 4000000 in
set_option maxRecDepth 100000 in
theorem scalars_say (n c : Int) (w : World) (hc : orthoepylaw00_Rune.f n = some c) (hs : isScal c = true) (h0 : 32 ≤ c) (h2 : c ≠ 34) (h3 : c ≠ 92) (h : isNon c = false) :
    Calls Try.prog 7 #[.int .i64 n] w fun e w' => e = .returned (.bool true) ∧ Below w.heap.size w w' := by
  have hsc : 0 ≤ c ∧ c ≤ 1114111 := by
    have := hs
    simp only [isScal, decide_eq_true_eq] at this
    omega
  have HC := Aside0.mk hc
  have his := ris_val c
  rw [hs] at his
  have HIS := Aside0.mk his
  have hbv := rbytes_val c (by omega) (by omega)
  have hel := enc_len c hs
  have hey := (encV_byt c).1
  have hbn := bnums_nums (encV c) hey
  have hp : ∃ k : Nat, (k : Int) = ((encV c).length : Int) ∧ playV RV.zero (encV c) 0 = (k, 0, false, ⟨[c], [], 0, [], 0, false⟩) := ⟨(encV c).length, rfl, by
    have := play_scal [] [] c [] 0 hs h0 h2 h3 h
    rw [List.append_nil, Nat.zero_add] at this
    exact this⟩
  have hnn := rnon_val c
  rw [h] at hnn
  have HN := Aside0.mk hnn
  have htx : strOfNums (textV [c]) = strOfNums (encV c) := by simp [textV]
  obtain ⟨L, hL⟩ : ∃ L, encV c = L := ⟨_, rfl⟩
  rw [hL] at hbv hel hey hbn hp htx
  obtain ⟨X, hX⟩ : ∃ X, strOfNums L = X := ⟨_, rfl⟩
  have hXs : X.size = L.length := by rw [← hX, str_size]
  have HPUSH := Aside0.mk (fun p r W h => scal_push w.heap.size p r W L X hX hey (by omega) h (L.length : Int) 0 false _ 1 false X hp rfl rfl (htx.trans hX))
  have HX := Aside0.mk hX
  have HB := Aside0.mk hbv
  have hq := fun W => rquote_any X W (by omega)
  have hqs : 3 ≤ (strOfNums (quoteL (bnums X))).size := by
    rw [str_size]
    have hb2 : bnums X = L := by rw [← hX]; exact hbn
    rw [hb2]
    unfold quoteL
    cases L with
    | nil => simp at hel
    | cons a l =>
      have : 1 ≤ (qB a).length := by
        unfold qB oneL
        (repeat' split) <;> simp
      simp
      omega
  obtain ⟨Q, hQ⟩ : ∃ Q, strOfNums (quoteL (bnums X)) = Q := ⟨_, rfl⟩
  simp only [hQ] at hq hqs
  have HQ := Aside0.mk hq
  have t1 : decide (c < 32) = false := decide_eq_false (by omega)
  have t2 : (c == 34) = false := beq_f h2
  have t3 : (c == 92) = false := beq_f h3

  have t6 : decide ((3 : Int) ≤ (Q.size : Int)) = true := decide_eq_true (by omega)
  clear hc hs his hbv hel hey hbn hp hX h hL hnn hXs htx hq hQ
  go_enter Try.func7, Try.ntmps7
  go_wp2_with (first
    | (go_at_call 27; refine (orthoepylaw00_Rune.calls n c _ HC.out).mono ?_; rintro e w1 ⟨rfl, hd⟩; obtain ⟨n1, hd⟩ := hd.out; subst hd)
    | (go_at_call 28; refine (orthoepyref01_Is.calls c true _ HIS.out).mono ?_; rintro e w2 ⟨rfl, hd⟩; obtain ⟨n2, hd⟩ := hd.out; subst hd)
    | (go_at_call 8; refine (new_any w.heap.size _ (by simp)).mono ?_; rintro e w3 ⟨p, r, rfl, hk, hs, g1, g2⟩; have HK3 := Aside0.mk (((Keeps.refl (fun _ => False) w).drewN _).trans hk (fun _ q => q.elim)); have HS3 := Aside0.mk hs; clear hk hs g1 g2)
    | (go_at_call 29; refine (orthoepyref02_Bytes.calls c L _ HB.out).mono ?_; rintro e w4 ⟨v1, rfl, hr1, hB1⟩; obtain ⟨B1, d1, e1⟩ := Kd.R_slice hr1; subst e1; have hc := Kd.C_string (P := Try.prog) (c := d1) Try.underlying22 Try.underlying5 Try.underlying9 (Kd.R_reads' hr1).2.2; rw [HX.out] at hc; have HK4 := Aside0.mk (Keeps.of_below hB1 (fun _ => False)); have HS4 := Aside0.mk (HS3.out.keep (Keeps.of_below hB1 (fun _ => False)) id id (fun _ q => q.elim)); clear hr1 hB1)
    | (go_at_call 18; refine (HPUSH.out p r _ HS4.out).mono ?_; rintro e w5 ⟨rfl, hl⟩; have HL := Aside0.mk hl; clear hl)
    | (go_at_call 26; refine (orthoepyref01_Nonchar.calls c false _ HN.out).mono ?_; rintro e w2 ⟨rfl, hd⟩; obtain ⟨n6, hd⟩ := hd.out; subst hd)
    | (go_at_call 15; refine (HL.out.text _ (by repeat (first | exact Same.refl0 _ | apply Same.drewN | apply Same.drew))).mono ?_; rintro e w' ⟨rfl, rfl⟩)
    | (go_at_call 12; refine (HL.out.len _ (by repeat (first | exact Same.refl0 _ | apply Same.drewN | apply Same.drew))).mono ?_; rintro e w' ⟨rfl, rfl⟩)
    | (go_at_call 13; refine (HL.out.inside _ (by repeat (first | exact Same.refl0 _ | apply Same.drewN | apply Same.drew))).mono ?_; rintro e w' ⟨rfl, rfl⟩)
    | (go_at_call 30; refine (HQ.out _).mono ?_; rintro e w' ⟨rfl, n7, rfl⟩)
    | (go_at_call 9; refine (awake_any _).mono ?_; rintro e w6 ⟨rfl, hk⟩; have HK6 := Aside0.mk hk; clear hk))
  go_ret
  exact ⟨rfl, mine_old (HK3.out.trans HK4.out (fun _ q => q.elim)) HL.out.keeps ((((Keeps.refl (fun _ => False) w5).drewN (n6 + n7)).trans HK6.out (fun _ q => q.elim))) HS3.out.base_.2⟩
theorem orthoepylaw12_StrScalars.walk (a0 : Int) (w : World) (w0 : (Lit.int .i64 a0).wf = true) :
    Calls Try.prog 7 #[.int .i64 a0] w fun e w' => e = .returned (.bool true) ∧ Below w.heap.size w w' := by
  obtain ⟨c, hc, _⟩ := rune_val a0
  cases hs : isScal c with
  | false => exact scalars_none a0 c w hc hs
  | true =>
    by_cases h1 : c < 32
    · exact scalars_low a0 c w hc hs h1
    by_cases h2 : c = 34
    · exact scalars_quote a0 c w hc hs h2
    by_cases h3 : c = 92
    · exact scalars_sign a0 c w hc hs h3
    cases h : isNon c with
    | true => exact scalars_non a0 c w hc hs h
    | false => exact scalars_say a0 c w hc hs (by omega) h2 h3 h

end Go.Proofs.Ytgggjfbgcadboaa.Pure
