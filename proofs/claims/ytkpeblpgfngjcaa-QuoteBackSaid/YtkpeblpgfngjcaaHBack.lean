/- quote.Back, the Back of the document, the examples. -/
import Derived.Test.YtkpeblpgfngjcaaPAllx1
import Derived.Test.YtkpeblpgfngjcaaPAllx2
import Derived.Test.YtkpeblpgfngjcaaPAllx3
import Derived.Test.YtkpeblpgfngjcaaPAllx4
import Derived.Test.YtkpeblpgfngjcaaPAllx5
import Derived.Test.YtkpeblpgfngjcaaHKit
import Derived.Test.YtkpeblpgfngjcaaLUtf
import Derived.Test.YtkpeblpgfngjcaaLRef
import Derived.Test.YtkpeblpgfngjcaaH12U
import Derived.Test.YtkpeblpgfngjcaaHQuote
import Derived.Test.YtkpeblpgfngjcaaHForms
import Derived.Test.YtkpeblpgfngjcaaHBuild
import Derived.Outline
import Derived.OwnWalk
import Derived.Laws.DeepStrings4
import Derived.Lib.Strings
import Derived.Laws.IdiomStrings
namespace Go.Proofs.Ytkpeblpgfngjcaa.Pure
open Go.RowKit Go.Proofs.Ytkpeblpgfngjcaa.PAll Go.Proofs.YtkpeblpgfngjcaaW.PrintWords Go.Proofs.YtkpeblpgfngjcaaW.PrintLast Go.Proofs.YtkpeblpgfngjcaaW.PrintMore
set_option linter.unusedVariables false
set_option linter.unusedSimpArgs false

/-! ### What a quoted says: both, walked -/
def backZ (Z : Nat × Int × Bool × RV) (n : Nat) : List Int × Bool := if Z.2.1 = 0 ∧ Z.2.2.1 = true ∧ Z.1 + 1 = n then (textV Z.2.2.2.Out, true) else ([], false)
def backL (l : List Int) : List Int × Bool := backZ (playV RV.zero l 0) l.length
def backV : List Int → List Int × Bool
  | [] => ([], false)
  | x :: l => if x = 34 then backL l else ([], false)
theorem backZ_no {Z : Nat × Int × Bool × RV} {n : Nat} (h : ¬ (Z.2.1 = 0 ∧ Z.2.2.1 = true ∧ Z.1 + 1 = n)) : backZ Z n = ([], false) := if_neg h
theorem bnums_byt (s : ByteArray) : Byt (bnums s) := fun y hy => by
  obtain ⟨b, _, rfl⟩ := List.mem_map.1 hy
  have := b.toNat_lt
  omega
theorem bnums_cons (s : ByteArray) (h : 0 < s.size) : bnums s = ((s[0]'h).toNat : Int) :: (bnums s).drop 1 := by
  have := bnums_drop s 0 h
  simpa using this
set_option maxHeartbeats 1000000 in
set_option maxRecDepth 100000 in
theorem cut_yes (q X : ByteArray) (h : 0 < q.size) (hx : ((q[0]'h).toNat : Int) = 34) (hX : q.extract 1 q.size = X) (w : World) :
    Calls Try.prog 25 #[.string q, .string ⟨#[34]⟩] w fun e w' => e = .returned (.tuple #[.string X, .bool true]) ∧ w = w' := by
  have hex := ext_one q 0 h
  rw [hx] at hex
  have h1 : q.extract 0 1 = ⟨#[34]⟩ := hex
  have hsz : decide (1 ≤ q.size) = true := decide_eq_true h
  have h2 : (1 : Int) ≤ (q.size : Int) := by omega
  have h3 : decide ((1 : Int) ≤ (q.size : Int)) = true := decide_eq_true h2
  clear hex hx
  go_enter Try.func25, Try.ntmps25
  go_wp2
  go_ret2
  exact ⟨rfl, rfl⟩
set_option maxHeartbeats 1000000 in
set_option maxRecDepth 100000 in
theorem cut_none (q : ByteArray) (h : q.size = 0) (w : World) :
    Calls Try.prog 25 #[.string q, .string ⟨#[34]⟩] w fun e w' => e = .returned (.tuple #[.string q, .bool false]) ∧ w = w' := by
  have h3 : decide (1 ≤ q.size) = false := decide_eq_false (by omega)
  have h4 : decide ((1 : Int) ≤ (q.size : Int)) = false := decide_eq_false (by omega)
  clear h
  go_enter Try.func25, Try.ntmps25
  go_wp2
  go_ret2
  exact ⟨rfl, rfl⟩
set_option maxHeartbeats 1000000 in
set_option maxRecDepth 100000 in
theorem cut_no (q : ByteArray) (h : 0 < q.size) (hx : ((q[0]'h).toNat : Int) ≠ 34) (w : World) :
    Calls Try.prog 25 #[.string q, .string ⟨#[34]⟩] w fun e w' => e = .returned (.tuple #[.string q, .bool false]) ∧ w = w' := by
  have hex := ext_one q 0 h
  have hne : q.extract 0 1 ≠ ⟨#[34]⟩ := fun e => by
    have h2 : bnums (q.extract 0 1) = [34] := by rw [e]; rfl
    rw [show q.extract 0 1 = q.extract 0 (0 + 1) from rfl, hex, bnums_nums _ (byt_cons (by have := (q[0]'h).toNat_lt; omega) (fun _ h => by simp at h))] at h2
    exact hx (List.cons.inj h2).1
  have h1 : ((q.extract 0 1).toList == [34]) = false := beq_eq_false_iff_ne.mpr (fun e => hne (by
    rw [Lib.toList_data] at e
    apply ByteArray.ext
    apply Array.ext'
    exact e))
  have h2 : (1 : Int) ≤ (q.size : Int) := by omega
  have h3 : decide ((1 : Int) ≤ (q.size : Int)) = true := decide_eq_true h2
  have h5 : decide (1 ≤ q.size) = true := decide_eq_true h
  clear hex hx
  go_enter Try.func25, Try.ntmps25
  go_wp2
  go_ret2
  exact ⟨rfl, rfl⟩
theorem below_step {B p r : Nat} {S : Nat → Prop} {w wr w' : World} (h : Below B w wr) (hk : Keeps (Mine S p r) wr w') (hS : ∀ k, S k → B ≤ k) (hp : B ≤ p ∧ B ≤ r) (hB : B ≤ wr.heap.size) : Below B w w' :=
  h.trans (hk.below (fun k q => by
    rcases q with q | q | q
    · rw [q]; exact hp.1
    · rw [q]; exact hp.2
    · exact hS k q) hB)
theorem more_ge {B : Nat} {S : Nat → Prop} {w w' : World} (hS : ∀ k, S k → B ≤ k) (hB : B ≤ w.heap.size) : ∀ k, More S w w' k → B ≤ k := fun k q => q.elim (hS k) (fun q => Nat.le_trans hB q.1)
set_option maxHeartbeats 4000000 in
set_option maxRecDepth 100000 in
theorem qback_any (q : ByteArray) (w : World) (hs : q.size ≤ 100000) :
    Calls Try.prog 11 #[.string q] w fun e w' => e = .returned (.tuple #[.string (strOfNums (backV (bnums q)).1), .bool (backV (bnums q)).2]) ∧ Keeps (fun _ => False) w w' := by
  by_cases h0 : q.size = 0
  · have e : bnums q = [] := List.eq_nil_of_length_eq_zero (by rw [bnums_len]; exact h0)
    rw [e]
    have HC := Aside0.mk (cut_none q h0)
    clear e h0
    go_enter Try.func11, Try.ntmps11
    go_wp2_with (go_at_call 25; refine (HC.out _).mono ?_; rintro e w' ⟨rfl, rfl⟩)
    go_ret2
    exact ⟨rfl, Keeps.refl _ _⟩
  have hpos : 0 < q.size := by omega
  rw [bnums_cons q hpos]
  by_cases hx : ((q[0]'hpos).toNat : Int) = 34
  · have hX : ∃ X, q.extract 1 q.size = X ∧ bnums X = (bnums q).drop 1 := ⟨_, rfl, by unfold bnums; simp [List.map_drop]; exact List.take_of_length_le (by simp)⟩
    obtain ⟨X, hX, hbX⟩ := hX
    have HC := Aside0.mk (cut_yes q X hpos hx hX)
    have hXs : X.size + 1 = q.size := by
      have h1 := congrArg List.length hbX
      rw [bnums_len, List.length_drop, bnums_len] at h1
      omega
    have hXl : X.size ≤ 100000 := by omega
    rw [← hbX]
    have eB : backV (((q[0]'hpos).toNat : Int) :: bnums X) = backZ (playV RV.zero (bnums X) 0) X.size := by
      show (if _ then _ else _) = _
      rw [if_pos hx]
      unfold backL
      rw [bnums_len]
    rw [eB]
    obtain ⟨Z, hZ⟩ : ∃ Z, playV RV.zero (bnums X) 0 = Z := ⟨_, rfl⟩
    rw [hZ]
    have HZ := Aside0.mk hZ
    obtain ⟨R, hR⟩ : ∃ R, backZ Z X.size = R := ⟨_, rfl⟩
    rw [hR]
    have HR := Aside0.mk hR
    clear hZ hR eB hbX hXs hX hx
    go_enter Try.func11, Try.ntmps11
    go_wp2_with (first
      | (go_at_call 25; refine (HC.out _).mono ?_; rintro e w' ⟨rfl, rfl⟩)
      | (go_at_call 26; refine (new_any w.heap.size _ (Nat.le_refl _)).mono ?_; rintro e w1 ⟨p, r, rfl, hk, hs, g1, g2⟩; have HK1 := Aside0.mk hk; have HS1 := Aside0.mk hs; clear hk hs g1 g2))
    go_loopw [20] (fun i wr => ∃ (k : Nat) (s' : SV) (t' : RV) (S : Nat → Prop), k ≤ X.size ∧ i = .int .i64 k ∧ Aside0 (StrAt wr w.heap.size S p r s') ∧ Aside0 (∀ k, S k → w.heap.size ≤ k) ∧ Aside0 (Sim k s' t') ∧ Aside0 (Below w.heap.size w wr) ∧ Aside0 (playV t' ((bnums X).drop k) k = Z)) (fun i _ => X.size - (intOf i).toNat)
    case atStart => exact ⟨0, SV.zero, RV.zero, _, Nat.zero_le _, rfl, ⟨HS1.out⟩, ⟨fun _ q => q.elim⟩, ⟨Sim.zero 0⟩, ⟨HK1.out.below (fun _ q => q.elim) (Nat.le_refl _)⟩, ⟨HZ.out⟩⟩
    case round =>
      obtain ⟨k, s', t', S, hk, rfl, HA, HSS, HM, HW, HP⟩ := hrel
      by_cases hlt : k < X.size
      · have hlt1 : (k : Int) < (X.size : Int) := by omega
        have hlt2 : decide (k < X.size) = true := decide_eq_true hlt
        obtain ⟨x, hx0⟩ : ∃ x : Int, ((X[k]'hlt).toNat : Int) = x := ⟨_, rfl⟩
        have hx : 0 ≤ x ∧ x ≤ 255 := by
          have := (X[k]'hlt).toNat_lt
          omega
        have hp := HP.out
        rw [bnums_drop X k hlt, hx0] at hp
        have hidx : (Instr.index 9 (.string X) (.int .i64 (k : Int))).run Try.prog = fun w => .ok (.int .u8 x) w := by
          funext w
          rw [run_index_string w _ _ _ _ Try.underlying9, dif_pos ⟨by omega, hlt1⟩]
          simp only [Int.toNat_natCast, hx0]
        obtain ⟨tt, hT, e1, e2, hsim⟩ := sim_step HM.out x hx.1 hx.2
        have hc := push_any w.heap.size p r (0 + 5) S s' x tt wr HA.out (HM.out.okS (by omega)) hx hT
        rw [e1, e2] at hc
        obtain ⟨tn, htn⟩ : ∃ y, (rpushV t' x).2.2 = y := ⟨_, rfl⟩
        obtain ⟨cq, hcq⟩ : ∃ y, (rpushV t' x).2.1 = y := ⟨_, rfl⟩
        obtain ⟨ov, hov⟩ : ∃ y, (rpushV t' x).1 = y := ⟨_, rfl⟩
        obtain ⟨sn, hsn⟩ : ∃ y, (pushV s' x tt).2.2 = y := ⟨_, rfl⟩
        rw [htn, hsn] at hsim
        rw [hcq, hov, hsn] at hc
        simp only [playV, htn, hcq, hov] at hp
        have HCC := Aside0.mk hc
        have HP2 := Aside0.mk hp
        have HN := Aside0.mk hsim
        have hbr := HW.out.size
        have hst : ∀ w3, Keeps (Mine S p r) wr w3 → Below w.heap.size w w3 := fun w3 hk3 => below_step HW.out hk3 HSS.out HA.out.base_.2 hbr
        have HST := Aside0.mk hst
        clear hc hp hsim hT e1 e2 htn hcq hov hsn hx0 hst
        by_cases hq : cq = 0
        · subst hq
          cases ov with
          | true =>
            have hz := HP2.out
            rw [if_pos (Or.inr (by simp))] at hz
            by_cases hend : k + 1 < X.size
            · have t1 : decide ((k : Int) + 1 < (X.size : Int)) = true := decide_eq_true (by omega)
              have hr := HR.out
              rw [← hz, backZ_no (fun q => by have := q.2.2; simp at this; omega)] at hr
              have HR2 := Aside0.mk hr
              clear hz hr
              go_wp2_with (go_at_call 27; refine HCC.out.mono ?_; rintro e w3 ⟨rfl, hk3, hs3⟩; have HK3 := Aside0.mk hk3; clear hk3 hs3)
              go_ret2
              rw [← HR2.out]
              exact ⟨rfl, Keeps.of_below (HST.out _ HK3.out) _⟩
            · have t1 : decide ((k : Int) + 1 < (X.size : Int)) = false := decide_eq_false (by omega)
              have hr := HR.out
              rw [← hz] at hr
              unfold backZ at hr
              rw [if_pos ⟨rfl, rfl, by simp; omega⟩] at hr
              have HR2 := Aside0.mk hr
              clear hz hr
              go_wp2_with (first
                | (go_at_call 27; refine HCC.out.mono ?_; rintro e w3 ⟨rfl, hk3, hs3⟩; have HK3 := Aside0.mk hk3; have htx := text_any w.heap.size p r _ sn _ hs3; rw [HN.out.text] at htx; have HTX := Aside0.mk htx; clear hk3 hs3 htx)
                | (go_at_call 28; refine HTX.out.mono ?_; rintro e w' ⟨rfl, rfl⟩))
              go_ret2
              rw [← HR2.out]
              exact ⟨rfl, Keeps.of_below (HST.out _ HK3.out) _⟩
          | false =>
            go_wp2_with (go_at_call 27; refine HCC.out.mono ?_; rintro e w3 ⟨rfl, hk3, hs3⟩; have HK3 := Aside0.mk hk3; have HS3 := Aside0.mk hs3; clear hk3 hs3)
            go_roundw
            case rel =>
              have hz := HP2.out
              rw [if_neg (by decide)] at hz
              exact ⟨k + 1, sn, tn, _, by omega, by go_num, ⟨HS3.out⟩, ⟨more_ge HSS.out HW.out.size⟩, ⟨HN.out⟩, ⟨HST.out _ HK3.out⟩, ⟨hz⟩⟩
            case measure => simp [intOf]; omega
        · have tq : (cq == 0) = false := beq_f hq
          have hz := HP2.out
          rw [if_pos (.inl hq)] at hz
          have hr := HR.out
          rw [← hz, backZ_no (fun q => hq q.1)] at hr
          have HR2 := Aside0.mk hr
          clear hz hr
          go_wp2_with (go_at_call 27; refine HCC.out.mono ?_; rintro e w3 ⟨rfl, hk3, hs3⟩; have HK3 := Aside0.mk hk3; clear hk3 hs3)
          go_ret2
          rw [← HR2.out]
          exact ⟨rfl, Keeps.of_below (HST.out _ HK3.out) _⟩
      · have hlt2 : decide (k < X.size) = false := decide_eq_false hlt
        have hz := HP.out
        rw [bnums_end X k (by omega)] at hz
        have hr := HR.out
        rw [← hz, backZ_no (fun q => by have := q.2.1; simp [playV] at this)] at hr
        have HR2 := Aside0.mk hr
        clear hz hr
        go_wp2
        go_ret2
        rw [← HR2.out]
        exact ⟨rfl, Keeps.of_below HW.out _⟩
  · have e : backV (((q[0]'hpos).toNat : Int) :: (bnums q).drop 1) = ([], false) := by
      show (if _ then _ else _) = _
      rw [if_neg hx]
    rw [e]
    have HC := Aside0.mk (cut_no q hpos hx)
    clear e hx hpos h0
    go_enter Try.func11, Try.ntmps11
    go_wp2_with (go_at_call 25; refine (HC.out _).mono ?_; rintro e w' ⟨rfl, rfl⟩)
    go_ret2
    exact ⟨rfl, Keeps.refl _ _⟩
set_option maxHeartbeats 4000000 in
set_option maxRecDepth 100000 in
theorem rqback_any (q : ByteArray) (w : World) (hs : q.size ≤ 100000) :
    Calls Try.prog 12 #[.string q] w fun e w' => e = .returned (.tuple #[.string (strOfNums (backV (bnums q)).1), .bool (backV (bnums q)).2]) ∧ Keeps (fun _ => False) w w' := by
  by_cases h0 : q.size = 0
  · have e : bnums q = [] := List.eq_nil_of_length_eq_zero (by rw [bnums_len]; exact h0)
    rw [e]
    have t0 : ((q.size : Int) == 0) = true := beq_iff_eq.mpr (by omega)
    have t1 : (q.size == 0) = true := beq_iff_eq.mpr h0
    clear e
    go_enter Try.func12, Try.ntmps12
    go_wp2
    go_ret2
    exact ⟨rfl, Keeps.refl _ _⟩
  have hpos : 0 < q.size := by omega
  obtain ⟨x0, hx0⟩ : ∃ x : Int, ((q[0]'hpos).toNat : Int) = x := ⟨_, rfl⟩
  have hi0 : (Instr.index 9 (.string q) (.int .i64 0)).run Try.prog = fun w => .ok (.int .u8 x0) w := by
    funext w
    rw [run_index_string w _ _ _ _ Try.underlying9, dif_pos ⟨by omega, by omega⟩]
    simp only [Int.toNat_zero, hx0]
  have t0 : ((q.size : Int) == 0) = false := beq_f (by omega)
  have t1 : (q.size == 0) = false := beq_eq_false_iff_ne.mpr h0
  have hb0 := bnums_cons q hpos
  rw [hx0] at hb0
  by_cases hx : x0 = 34
  · obtain ⟨L, hL⟩ : ∃ L, (bnums q).drop 1 = L := ⟨_, rfl⟩
    have hLl : L.length + 1 = q.size := by rw [← hL, List.length_drop, bnums_len]; omega
    have eB : backV (bnums q) = backZ (playV RV.zero L 0) L.length := by
      rw [hb0, hL]
      show (if _ then _ else _) = _
      rw [if_pos hx]
      rfl
    rw [eB]
    obtain ⟨Z, hZ⟩ : ∃ Z, playV RV.zero L 0 = Z := ⟨_, rfl⟩
    rw [hZ]
    have HZ := Aside0.mk hZ
    obtain ⟨R, hR⟩ : ∃ R, backZ Z L.length = R := ⟨_, rfl⟩
    rw [hR]
    have HR := Aside0.mk hR
    have HL := Aside0.mk hL
    have HLL := Aside0.mk hLl
    have hlo : (1 : Int) ≤ (q.size : Int) := by omega
    subst hx
    have HX0 := Aside0.mk hx0
    clear hZ hR eB hL hLl hb0 hx0
    go_enter Try.func12, Try.ntmps12
    go_wp2
    go_loopw [5] (fun i wr => ∃ (k : Nat) (t' : RV) (S : Nat → Prop), k ≤ L.length ∧ i = .int .i64 ((k + 1 : Nat) : Int) ∧ Aside0 (RefAt wr w.heap.size S w.heap.size t') ∧ Aside0 (∀ k, S k → w.heap.size ≤ k) ∧ Aside0 (∃ s', Sim k s' t') ∧ Aside0 (Below w.heap.size w wr) ∧ Aside0 (playV t' (L.drop k) k = Z)) (fun i _ => q.size + 1 - (intOf i).toNat)
    case atStart => exact ⟨0, RV.zero, _, Nat.zero_le _, rfl, ⟨ref_new w.heap.size w (Nat.le_refl _)⟩, ⟨fun _ q => q.elim⟩, ⟨SV.zero, Sim.zero 0⟩, ⟨(Below.refl _ _).alloc (Nat.le_refl _) _⟩, ⟨HZ.out⟩⟩
    case round =>
      obtain ⟨k, t', S, hk, rfl, HA, HSS, HM, HW, HP⟩ := hrel
      have hll := HLL.out
      obtain ⟨j, hj⟩ : ∃ j, k + 1 = j := ⟨_, rfl⟩
      rw [hj]
      have hj1 : (1 : Int) ≤ (j : Int) := by omega
      by_cases hlt : j < q.size
      · have hlt1 : (j : Int) < (q.size : Int) := by omega
        have hlt2 : decide (j < q.size) = true := decide_eq_true hlt
        obtain ⟨x, hx0⟩ : ∃ x : Int, ((q[j]'hlt).toNat : Int) = x := ⟨_, rfl⟩
        have hx : 0 ≤ x ∧ x ≤ 255 := by
          have := (q[j]'hlt).toNat_lt
          omega
        have hp := HP.out
        have hdr : L.drop k = x :: L.drop (k + 1) := by
          rw [← HL.out, List.drop_drop, List.drop_drop, show 1 + k = j by omega, show 1 + (k + 1) = j + 1 by omega, bnums_drop q j hlt, hx0]
        rw [hdr] at hp
        have hidx : (Instr.index 9 (.string q) (.int .i64 (j : Int))).run Try.prog = fun w => .ok (.int .u8 x) w := by
          funext w
          rw [run_index_string w _ _ _ _ Try.underlying9, dif_pos ⟨by omega, hlt1⟩]
          simp only [Int.toNat_natCast, hx0]
        obtain ⟨s', hM⟩ := HM.out
        obtain ⟨tt, hT, e1, e2, hsim⟩ := sim_step hM x hx.1 hx.2
        have hc := rpush_any w.heap.size w.heap.size S t' x wr HA.out (hM.okR (by omega)) hx
        obtain ⟨tn, htn⟩ : ∃ y, (rpushV t' x).2.2 = y := ⟨_, rfl⟩
        obtain ⟨cq, hcq⟩ : ∃ y, (rpushV t' x).2.1 = y := ⟨_, rfl⟩
        obtain ⟨ov, hov⟩ : ∃ y, (rpushV t' x).1 = y := ⟨_, rfl⟩
        obtain ⟨sn, hsn⟩ : ∃ y, (pushV s' x tt).2.2 = y := ⟨_, rfl⟩
        rw [htn, hsn] at hsim
        rw [hcq, hov, htn] at hc
        simp only [playV, htn, hcq, hov] at hp
        have HCC := Aside0.mk hc
        have HP2 := Aside0.mk hp
        have HN := Aside0.mk hsim
        have hst : ∀ w3, Keeps (MineR S w.heap.size) wr w3 → Below w.heap.size w w3 := fun w3 hk3 => HW.out.trans (hk3.below (fun k q => q.elim (fun e => e ▸ Nat.le_refl _) (HSS.out k)) HW.out.size)
        have HST := Aside0.mk hst
        clear hc hp hsim hT e1 e2 htn hcq hov hsn hx0 hst hdr hM
        by_cases hq : cq = 0
        · subst hq
          cases ov with
          | true =>
            have hz := HP2.out
            rw [if_pos (Or.inr (by simp))] at hz
            by_cases hend : j + 1 < q.size
            · have t2 : decide ((j : Int) + 1 < (q.size : Int)) = true := decide_eq_true (by omega)
              have hr := HR.out
              rw [← hz, backZ_no (fun q => by have := q.2.2; simp at this; omega)] at hr
              have HR2 := Aside0.mk hr
              clear hz hr
              go_wp2_with (go_at_call 29; refine HCC.out.mono ?_; rintro e w3 ⟨rfl, hk3, hs3⟩; have HK3 := Aside0.mk hk3; clear hk3 hs3)
              go_ret2
              rw [← HR2.out]
              exact ⟨rfl, Keeps.of_below (HST.out _ HK3.out) _⟩
            · have t2 : decide ((j : Int) + 1 < (q.size : Int)) = false := decide_eq_false (by omega)
              have hr := HR.out
              rw [← hz] at hr
              unfold backZ at hr
              rw [if_pos ⟨rfl, rfl, by simp; omega⟩] at hr
              have HR2 := Aside0.mk hr
              clear hz hr
              go_wp2_with (first
                | (go_at_call 29; refine HCC.out.mono ?_; rintro e w3 ⟨rfl, hk3, hs3⟩; have HK3 := Aside0.mk hk3; have HTX := Aside0.mk (rtext_any w.heap.size w.heap.size _ tn _ hs3 HN.out.r32 (by have := HN.out.len; omega)); clear hk3 hs3)
                | (go_at_call 30; refine HTX.out.mono ?_; rintro e w4 ⟨rfl, hk4, _⟩; have HK4 := Aside0.mk hk4; clear hk4))
              go_ret2
              rw [← HR2.out]
              exact ⟨rfl, Keeps.of_below ((HST.out _ HK3.out).trans (HK4.out.below (fun _ q => q.elim) (HST.out _ HK3.out).size)) _⟩
          | false =>
            go_wp2_with (go_at_call 29; refine HCC.out.mono ?_; rintro e w3 ⟨rfl, hk3, hs3⟩; have HK3 := Aside0.mk hk3; have HS3 := Aside0.mk hs3; clear hk3 hs3)
            go_roundw
            case rel =>
              have hz := HP2.out
              rw [if_neg (by decide)] at hz
              exact ⟨k + 1, tn, _, by omega, by rw [← hj]; go_num, ⟨HS3.out⟩, ⟨more_ge HSS.out HW.out.size⟩, ⟨sn, HN.out⟩, ⟨HST.out _ HK3.out⟩, ⟨hz⟩⟩
            case measure => simp [intOf]; omega
        · have tq : (cq == 0) = false := beq_f hq
          have hz := HP2.out
          rw [if_pos (.inl hq)] at hz
          have hr := HR.out
          rw [← hz, backZ_no (fun q => hq q.1)] at hr
          have HR2 := Aside0.mk hr
          clear hz hr
          go_wp2_with (go_at_call 29; refine HCC.out.mono ?_; rintro e w3 ⟨rfl, hk3, hs3⟩; have HK3 := Aside0.mk hk3; clear hk3 hs3)
          go_ret2
          rw [← HR2.out]
          exact ⟨rfl, Keeps.of_below (HST.out _ HK3.out) _⟩
      · have hlt2 : decide (j < q.size) = false := decide_eq_false hlt
        have hz := HP.out
        rw [List.drop_eq_nil_of_le (by omega)] at hz
        have hr := HR.out
        rw [← hz, backZ_no (fun q => by have := q.2.1; simp [playV] at this)] at hr
        have HR2 := Aside0.mk hr
        clear hz hr
        go_wp2
        go_ret2
        rw [← HR2.out]
        exact ⟨rfl, Keeps.of_below HW.out _⟩
  · have e : backV (bnums q) = ([], false) := by
      rw [hb0]
      show (if _ then _ else _) = _
      rw [if_neg hx]
    rw [e]
    have t2 : (x0 == 34) = false := beq_f hx
    clear e hx hb0 hx0 h0
    go_enter Try.func12, Try.ntmps12
    go_wp2
    go_ret2
    exact ⟨rfl, Keeps.refl _ _⟩
set_option maxHeartbeats 2000000 in
theorem right_any (s : ByteArray) (w : World) (hs : s.size ≤ 1000000) :
    Calls Try.prog 13 #[.string s] w fun e w' => e = .returned (.bool (allV [] [] 0 (bnums s)).2.2) ∧ Keeps (fun _ => False) w w' := by
  obtain ⟨L, at_, b, hL⟩ : ∃ L at_ b, allV [] [] 0 (bnums s) = (L, at_, b) := ⟨_, _, _, rfl⟩
  rw [hL]
  have hby := bnums_byt s
  have hn : (bnums s).length = s.size := bnums_len s
  obtain ⟨K, hK⟩ : ∃ K : Nat, 3000000 ≤ K := ⟨3000000, Nat.le_refl _⟩
  have hv := rall_val K (bnums s) hby (by omega) (by omega)
  rw [hL] at hv
  have HV := Aside0.mk hv
  have HN := Aside0.mk hn
  have hcv := fun W : World => run_bytes_of_string (P := Try.prog) W 9 32 5 s Try.underlying9 Try.underlying32 Try.underlying5
  clear hn hv hL hK hby
  go_enter Try.func13, Try.ntmps13
  go_wp2_with (fail)
  have hC := Kd.C_drew (C_bytes w s 5 (grownCap w s.size 0 5) ((bytesRow s (grownCap w s.size 0 5)).size, (bytesRow s (grownCap w s.size 0 5)).size + 1) (by omega))
  have hcap : (bnums s).length ≤ grownCap w s.size 0 5 := by rw [HN.out]; exact grownCap_ge _ _ _ _
  have hcall := orthoepyref02_All.calls K _ _ (bnums s) L at_ b _ hC hcap HV.out
  rw [HN.out] at hcall
  refine hcall.mono ?_
  rintro e w1 ⟨v1, rfl, hr1, hB1⟩
  obtain ⟨A1, c1, e1⟩ := Kd.R_slice hr1
  subst e1
  have HB1 := Aside0.mk hB1
  clear hr1 hB1 hcall hcv
  go_wp2
  go_ret
  have hz : w.heap.size ≤ ((w.alloc (.cells (bytesRow s (grownCap w s.size 0 5)) 5 ((bytesRow s (grownCap w s.size 0 5)).size, (bytesRow s (grownCap w s.size 0 5)).size + 1))).drew).heap.size := by simp
  exact ⟨rfl, Keeps.of_below ((((Below.refl w.heap.size w).alloc (Nat.le_refl _) _).drew).trans (HB1.out.mono hz)) _⟩

/-! ### The chapter's examples -/
theorem aw_back1 (w : World) : Calls Try.prog 11 #[.string ⟨#[34, 92, 117, 48, 48, 52, 49, 92, 110, 34]⟩] w fun e w' => e = .returned (.tuple #[.string ⟨#[65, 10]⟩, .bool true]) ∧ Keeps (fun _ => False) w w' := by
  have h := qback_any ⟨#[34, 92, 117, 48, 48, 52, 49, 92, 110, 34]⟩ w (by decide)
  rw [show backV (bnums ⟨#[34, 92, 117, 48, 48, 52, 49, 92, 110, 34]⟩) = ([65, 10], true) from rfl] at h
  exact h
theorem aw_back2 (w : World) : Calls Try.prog 11 #[.string ⟨#[34, 97]⟩] w fun e w' => e = .returned (.tuple #[.string ⟨#[]⟩, .bool false]) ∧ Keeps (fun _ => False) w w' := by
  have h := qback_any ⟨#[34, 97]⟩ w (by decide)
  rw [show backV (bnums ⟨#[34, 97]⟩) = ([], false) from rfl] at h
  exact h
theorem aw_quote1 (w : World) : Calls Try.prog 15 #[.string ⟨#[10, 127]⟩] w fun e w' => e = .returned (.string ⟨#[34, 92, 110, 127, 34]⟩) ∧ Keeps (fun _ => False) w w' := by
  have h := quote_any ⟨#[10, 127]⟩ w (by decide)
  rw [show quoteL (bnums ⟨#[10, 127]⟩) = [34, 92, 110, 127, 34] from rfl] at h
  exact h
theorem aw_quote2 (w : World) : Calls Try.prog 15 #[.string ⟨#[31]⟩] w fun e w' => e = .returned (.string ⟨#[34, 92, 117, 48, 48, 49, 102, 34]⟩) ∧ Keeps (fun _ => False) w w' := by
  have h := quote_any ⟨#[31]⟩ w (by decide)
  rw [show quoteL (bnums ⟨#[31]⟩) = [34, 92, 117, 48, 48, 49, 102, 34] from rfl] at h
  exact h
theorem aw_len (w : World) : Calls Try.prog 16 #[.string ⟨#[31]⟩] w fun e w' => e = .returned (.int .i64 8) ∧ Keeps (fun _ => False) w w' := by
  have h := len_any ⟨#[31]⟩ w (by decide)
  rw [show quoteL (bnums ⟨#[31]⟩) = [34, 92, 117, 48, 48, 49, 102, 34] from rfl] at h
  exact h
set_option maxHeartbeats 4000000 in
set_option maxRecDepth 100000 in
theorem awake_any (w : World) : Calls Try.prog 10 #[] w fun e w' => e = .returned (.bool true) ∧ Keeps (fun _ => False) w w' := by
  go_enter Try.func10, Try.ntmps10
  go_wp2_with (fail)
  refine (aw_back1 _).mono ?_
  rintro e w1 ⟨rfl, hk⟩
  have HK1 := Aside0.mk hk
  clear hk
  go_wp2_with (fail)
  refine (aw_back2 _).mono ?_
  rintro e w2 ⟨rfl, hk⟩
  have HK2 := Aside0.mk (HK1.out.trans hk (fun _ q => q.elim))
  clear hk
  go_wp2_with (fail)
  refine (aw_quote1 _).mono ?_
  rintro e w3 ⟨rfl, hk⟩
  have HK3 := Aside0.mk (HK2.out.trans hk (fun _ q => q.elim))
  clear hk
  go_wp2_with (fail)
  refine (aw_quote2 _).mono ?_
  rintro e w4 ⟨rfl, hk⟩
  have HK4 := Aside0.mk (HK3.out.trans hk (fun _ q => q.elim))
  clear hk
  go_wp2_with (fail)
  refine (aw_len _).mono ?_
  rintro e w5 ⟨rfl, hk⟩
  have HK5 := Aside0.mk (HK4.out.trans hk (fun _ q => q.elim))
  clear hk
  go_wp2_with (fail)
  go_ret
  exact ⟨rfl, HK5.out⟩

end Go.Proofs.Ytkpeblpgfngjcaa.Pure
