/- The laws push and awake. -/
import Derived.Test.YtgggjfbgcadboaaPAllx1
import Derived.Test.YtgggjfbgcadboaaPAllx2
import Derived.Test.YtgggjfbgcadboaaHKit
import Derived.Test.YtgggjfbgcadboaaLUtf
import Derived.Test.YtgggjfbgcadboaaLRef
import Derived.Test.YtgggjfbgcadboaaH12d
import Derived.Test.YtgggjfbgcadboaaH12S
import Derived.Outline
import Derived.OwnWalk
import Derived.Deep.RegionLaw
namespace Go.Proofs.Ytgggjfbgcadboaa.Pure
open Go.RowKit Go.Proofs.Ytgggjfbgcadboaa.PAll Go.Proofs.YtgggjfbgcadboaaW.PrintWords Go.Proofs.YtgggjfbgcadboaaW.PrintLast Go.Proofs.YtgggjfbgcadboaaW.PrintMore
set_option linter.unusedVariables false
set_option linter.unusedSimpArgs false

/-! ### The laws' push: a text's bytes -/
def bnums (s : ByteArray) : List Int := s.data.toList.map fun b => (b.toNat : Int)
def playV (t : RV) : List Int → Nat → Nat × Int × Bool × RV
  | [], i => (i, 0, false, t)
  | x :: l, i => if (rpushV t x).2.1 ≠ 0 ∨ (rpushV t x).1 = true then (i, (rpushV t x).2.1, (rpushV t x).1, (rpushV t x).2.2) else playV (rpushV t x).2.2 l (i + 1)
theorem bnums_len (s : ByteArray) : (bnums s).length = s.size := by
  unfold bnums
  rw [List.length_map]
  rfl
theorem bnums_drop (s : ByteArray) (k : Nat) (hk : k < s.size) : (bnums s).drop k = ((s[k]'hk).toNat : Int) :: (bnums s).drop (k + 1) := by
  have hk' : k < (bnums s).length := by rw [bnums_len]; exact hk
  rw [List.drop_eq_getElem_cons hk']
  congr 1
  simp only [bnums, List.getElem_map]
  rfl
theorem bnums_end (s : ByteArray) (k : Nat) (hk : s.size ≤ k) : (bnums s).drop k = [] := List.drop_eq_nil_of_le (by rw [bnums_len]; exact hk)
theorem more_trans {S : Nat → Prop} {w wr w3 : World} (h1 : w.heap.size ≤ wr.heap.size) (h2 : wr.heap.size ≤ w3.heap.size) : More (More S w wr) wr w3 = More S w w3 := by
  funext k
  apply propext
  unfold More News
  constructor
  · rintro ((h | h) | h)
    · exact .inl h
    · exact .inr ⟨h.1, by omega⟩
    · exact .inr ⟨by omega, h.2⟩
  · rintro (h | h)
    · exact .inl (.inl h)
    · by_cases q : k < wr.heap.size
      · exact .inl (.inr ⟨h.1, q⟩)
      · exact .inr ⟨by omega, h.2⟩
theorem mine_trans {S : Nat → Prop} {w wr w3 : World} {p r : Nat} (h1 : Keeps (Mine S p r) w wr) (h2 : Keeps (Mine (More S w wr) p r) wr w3) : Keeps (Mine S p r) w w3 :=
  h1.trans h2 (fun k hk => by
    rcases hk with hk | hk | hk | hk
    · exact .inl (.inl hk)
    · exact .inl (.inr (.inl hk))
    · exact .inl (.inr (.inr hk))
    · exact .inr hk.1)
theorem mineR_trans {S : Nat → Prop} {w wr w3 : World} {q : Nat} (h1 : Keeps (MineR S q) w wr) (h2 : Keeps (MineR (More S w wr) q) wr w3) : Keeps (MineR S q) w w3 :=
  h1.trans h2 (fun k hk => by
    rcases hk with hk | hk | hk
    · exact .inl (.inl hk)
    · exact .inl (.inr hk)
    · exact .inr hk.1)
theorem StrAt.more0 {w : World} {base p r : Nat} {S : Nat → Prop} {s : SV} (h : StrAt w base S p r s) : StrAt w base (More S w w) p r s :=
  h.mono (fun _ h => .inl h) (fun k hk => hk.elim (h.ne k) (fun q => by unfold News at q; omega)) (fun k hk => hk.elim (h.slt k) (fun q => q.2))
set_option maxHeartbeats 4000000 in
set_option maxRecDepth 100000 in
theorem play_any (base p r m : Nat) (S : Nat → Prop) (s : SV) (t : RV) (sb : ByteArray) (w : World) (h : StrAt w base S p r s) (hs : Sim m s t) (hm : m + sb.size ≤ 200000) :
    Calls Try.prog 18 #[.pointer (some ⟨p, 0, none⟩), .string sb] w fun e w' => ∃ s', e = .returned (.tuple #[.int .i64 (playV t (bnums sb) 0).1, .int .i64 (playV t (bnums sb) 0).2.1, .bool (playV t (bnums sb) 0).2.2.1]) ∧ Keeps (Mine S p r) w w' ∧ StrAt w' base (More S w w') p r s' ∧ Sim (m + sb.size) s' (playV t (bnums sb) 0).2.2.2 := by
  have H := Aside0.mk h
  have HS0 := Aside0.mk hs
  clear h hs
  obtain ⟨Z, hZ⟩ : ∃ Z, playV t (bnums sb) 0 = Z := ⟨_, rfl⟩
  have HZ := Aside0.mk hZ
  rw [hZ]
  clear hZ
  go_enter Try.func18, Try.ntmps18
  go_wp2
  go_loopw [7] (fun i wr => ∃ (k : Nat) (s' : SV) (t' : RV), k ≤ sb.size ∧ i = .int .i64 k ∧ Aside0 (StrAt wr base (More S w wr) p r s') ∧ Aside0 (Sim (m + k) s' t') ∧ Aside0 (Keeps (Mine S p r) w wr) ∧ Aside0 (playV t' ((bnums sb).drop k) k = Z)) (fun i _ => sb.size - (intOf i).toNat)
  case atStart =>
    exact ⟨0, s, t, Nat.zero_le _, rfl, ⟨H.out.more0⟩, ⟨HS0.out⟩, ⟨Keeps.refl _ _⟩, ⟨HZ.out⟩⟩
  case round =>
    obtain ⟨k, s', t', hk, rfl, HA, HM, HK, HP⟩ := hrel
    by_cases hlt : k < sb.size
    · have hlt1 : (k : Int) < (sb.size : Int) := by omega
      have hlt2 : decide ((k : Int) < (sb.size : Int)) = true := decide_eq_true hlt1
      obtain ⟨x, hx0⟩ : ∃ x : Int, ((sb[k]'hlt).toNat : Int) = x := ⟨_, rfl⟩
      have hx : 0 ≤ x ∧ x ≤ 255 := by
        have := (sb[k]'hlt).toNat_lt
        omega
      have hp := HP.out
      rw [bnums_drop sb k hlt, hx0] at hp
      have hidx : (Instr.index 9 (.string sb) (.int .i64 (k : Int))).run Try.prog = fun w => .ok (.int .u8 x) w := by
        funext w
        rw [run_index_string w _ _ _ _ Try.underlying9, dif_pos ⟨by omega, hlt1⟩]
        simp only [Int.toNat_natCast, hx0]
      obtain ⟨tt, hT, e1, e2, hsim⟩ := sim_step HM.out x hx.1 hx.2
      have hc := push_any base p r (0 + 5) (More S w wr) s' x tt wr HA.out (HM.out.okS (by omega)) hx hT
      rw [e1, e2] at hc
      obtain ⟨tn, htn⟩ : ∃ y, (rpushV t' x).2.2 = y := ⟨_, rfl⟩
      obtain ⟨cq, hcq⟩ : ∃ y, (rpushV t' x).2.1 = y := ⟨_, rfl⟩
      obtain ⟨ov, hov⟩ : ∃ y, (rpushV t' x).1 = y := ⟨_, rfl⟩
      obtain ⟨sn, hsn⟩ : ∃ y, (pushV s' x tt).2.2 = y := ⟨_, rfl⟩
      rw [htn, hsn] at hsim
      rw [hcq, hov, hsn] at hc
      simp only [playV, htn, hcq, hov] at hp
      have HC := Aside0.mk hc
      have HP2 := Aside0.mk hp
      have HN := Aside0.mk hsim
      clear hc hp hsim hT e1 e2 htn hcq hov hsn hx0
      have HF := Aside0.mk (fun (w3 : World) (hk3 : Keeps (Mine (More S w wr) p r) wr w3) (hs3 : StrAt w3 base (More (More S w wr) wr w3) p r sn) => (⟨mine_trans HK.out hk3, by rw [← more_trans HK.out.size hk3.size]; exact hs3⟩ : Keeps (Mine S p r) w w3 ∧ StrAt w3 base (More S w w3) p r sn))
      by_cases hq : cq = 0
      · subst hq
        cases ov with
        | true =>
          go_wp2_with (go_at_call 10; refine HC.out.mono ?_; rintro e w3 ⟨rfl, hk3, hs3⟩; have HK3 := Aside0.mk hk3; have HS3 := Aside0.mk hs3; clear hk3 hs3)
          go_ret3
          have hz := HP2.out
          rw [if_pos (Or.inr (by simp))] at hz
          obtain ⟨f1, f2⟩ := HF.out _ HK3.out HS3.out
          rw [← hz]
          exact ⟨sn, rfl, f1, f2, HN.out.up (by omega)⟩
        | false =>
          go_wp2_with (go_at_call 10; refine HC.out.mono ?_; rintro e w3 ⟨rfl, hk3, hs3⟩; have HK3 := Aside0.mk hk3; have HS3 := Aside0.mk hs3; clear hk3 hs3)
          go_roundw
          case rel =>
            have hz := HP2.out
            rw [if_neg (by decide)] at hz
            obtain ⟨f1, f2⟩ := HF.out _ HK3.out HS3.out
            exact ⟨k + 1, sn, tn, by omega, by go_num, ⟨f2⟩, ⟨HN.out.up (by omega)⟩, ⟨f1⟩, ⟨hz⟩⟩
          case measure => simp [intOf]; omega
      · have tq : (cq == 0) = false := beq_f hq
        go_wp2_with (go_at_call 10; refine HC.out.mono ?_; rintro e w3 ⟨rfl, hk3, hs3⟩; have HK3 := Aside0.mk hk3; have HS3 := Aside0.mk hs3; clear hk3 hs3)
        go_ret3
        have hz := HP2.out
        rw [if_pos (.inl hq)] at hz
        obtain ⟨f1, f2⟩ := HF.out _ HK3.out HS3.out
        rw [← hz]
        exact ⟨sn, rfl, f1, f2, HN.out.up (by omega)⟩
    · have hlt2 : decide ((k : Int) < (sb.size : Int)) = false := decide_eq_false (by omega)
      have hz := HP.out
      rw [bnums_end sb k (by omega)] at hz
      obtain rfl : k = sb.size := by omega
      have HZZ := Aside0.mk hz
      clear hz
      go_wp2
      go_ret3
      rw [← HZZ.out]
      exact ⟨s', rfl, HK.out, HA.out, HM.out⟩

/-! ### The laws' examples -/
theorem aw_a : ∃ o r, playV RV.zero (bnums ⟨#[92, 117, 100, 99, 48, 48]⟩) 0 = (3, 5, o, r) := ⟨_, _, rfl⟩
theorem aw_b : playV RV.zero (bnums ⟨#[92, 117, 100, 56, 51, 100, 92, 117, 100, 101, 48, 48, 120, 34]⟩) 0 = (13, 0, true, ⟨[128512, 120], [], 0, [], 0, true⟩) := rfl
theorem aw_c : ∃ o r, playV RV.zero (bnums ⟨#[92, 117, 102, 100, 100, 48]⟩) 0 = (4, 6, o, r) := ⟨_, _, rfl⟩
theorem aw_d : playV RV.zero (bnums ⟨#[195, 40]⟩) 0 = (1, 4, false, ⟨[], [195], 0, [], 0, false⟩) := rfl
theorem awp_a (base p r : Nat) (w : World) (h : StrAt w base (fun _ => False) p r SV.zero) :
    Calls Try.prog 18 #[.pointer (some ⟨p, 0, none⟩), .string ⟨#[92, 117, 100, 99, 48, 48]⟩] w fun e w' => ∃ o, e = .returned (.tuple #[.int .i64 3, .int .i64 5, .bool o]) ∧ Keeps (Mine (fun _ => False) p r) w w' := by
  obtain ⟨o, q, e⟩ := aw_a
  refine (play_any base p r 0 _ SV.zero RV.zero _ w h (Sim.zero 0) (by decide)).mono ?_
  rw [e]
  rintro e w' ⟨s', rfl, hk, _⟩
  exact ⟨o, rfl, hk⟩
theorem awp_c (base p r : Nat) (w : World) (h : StrAt w base (fun _ => False) p r SV.zero) :
    Calls Try.prog 18 #[.pointer (some ⟨p, 0, none⟩), .string ⟨#[92, 117, 102, 100, 100, 48]⟩] w fun e w' => ∃ o, e = .returned (.tuple #[.int .i64 4, .int .i64 6, .bool o]) ∧ Keeps (Mine (fun _ => False) p r) w w' := by
  obtain ⟨o, q, e⟩ := aw_c
  refine (play_any base p r 0 _ SV.zero RV.zero _ w h (Sim.zero 0) (by decide)).mono ?_
  rw [e]
  rintro e w' ⟨s', rfl, hk, _⟩
  exact ⟨o, rfl, hk⟩
theorem awp_b (base p r : Nat) (w : World) (h : StrAt w base (fun _ => False) p r SV.zero) :
    Calls Try.prog 18 #[.pointer (some ⟨p, 0, none⟩), .string ⟨#[92, 117, 100, 56, 51, 100, 92, 117, 100, 101, 48, 48, 120, 34]⟩] w fun e w' => ∃ s', e = .returned (.tuple #[.int .i64 13, .int .i64 0, .bool true]) ∧ Keeps (Mine (fun _ => False) p r) w w' ∧
      StrAt w' base (More (fun _ => False) w w') p r s' ∧ strOfNums s'.text = ⟨#[240, 159, 152, 128, 120]⟩ ∧ s'.n = 2 ∧ s'.inside = false := by
  refine (play_any base p r 0 _ SV.zero RV.zero _ w h (Sim.zero 0) (by decide)).mono ?_
  rw [aw_b]
  rintro e w' ⟨s', rfl, hk, hs, hm⟩
  exact ⟨s', rfl, hk, hs, by rw [hm.text]; rfl, hm.n, hm.inside⟩
theorem awp_d (base p r : Nat) (w : World) (h : StrAt w base (fun _ => False) p r SV.zero) :
    Calls Try.prog 18 #[.pointer (some ⟨p, 0, none⟩), .string ⟨#[195, 40]⟩] w fun e w' => ∃ s', e = .returned (.tuple #[.int .i64 1, .int .i64 4, .bool false]) ∧ Keeps (Mine (fun _ => False) p r) w w' ∧
      StrAt w' base (More (fun _ => False) w w') p r s' ∧ s'.inside = true := by
  refine (play_any base p r 0 _ SV.zero RV.zero _ w h (Sim.zero 0) (by decide)).mono ?_
  rw [aw_d]
  rintro e w' ⟨s', rfl, hk, hs, hm⟩
  exact ⟨s', rfl, hk, hs, hm.inside⟩
theorem mine_f {p r k : Nat} (h : Mine (fun _ => False) p r k) : k = p ∨ k = r := by
  rcases h with h | h | h
  · exact .inl h
  · exact .inr h
  · exact h.elim
/-- Strings that were laid one behind another. -/
theorem StrAt.past {w w' : World} {base p r p' r' : Nat} {s : SV} {S : Nat → Prop} (h : StrAt w base S p r s) (hk : Keeps (Mine (fun _ => False) p' r') w w') (n1 : p ≠ p' ∧ p ≠ r' ∧ r ≠ p' ∧ r ≠ r') (n2 : ∀ k, S k → k ≠ p' ∧ k ≠ r') : StrAt w' base S p r s :=
  h.keep hk (fun q => by rcases mine_f q with q | q; exact n1.1 q; exact n1.2.1 q) (fun q => by rcases mine_f q with q | q; exact n1.2.2.1 q; exact n1.2.2.2 q) (fun k hS q => by rcases mine_f q with q | q; exact (n2 k hS).1 q; exact (n2 k hS).2 q)
set_option maxHeartbeats 8000000 in
set_option maxRecDepth 100000 in
theorem awake_any (w : World) : Calls Try.prog 9 #[] w fun e w' => e = .returned (.bool true) ∧ Keeps (fun _ => False) w w' := by
  go_enter Try.func9, Try.ntmps9
  go_wp2_with (first
    | (go_at_call 8; refine (new_any w.heap.size _ HK3.out.size).mono ?_; rintro e w4 ⟨p4, r4, rfl, hk, hs, g1, g2⟩; have HK4 := Aside0.mk (HK3.out.trans hk (fun _ h => h.elim)); have HA4 := Aside0.mk (HA3.out.keep hk id id (fun _ h => h.elim)); have HB4 := Aside0.mk (HB3.out.keep hk id id (fun _ h => h.elim)); have HC4 := Aside0.mk (HC3.out.keep hk id id (fun _ h => h.elim)); have HD4 := Aside0.mk hs; have G4 := Aside0.mk (And.intro g1 g2); clear hk hs g1 g2)
    | (go_at_call 8; refine (new_any w.heap.size _ HK2.out.size).mono ?_; rintro e w3 ⟨p3, r3, rfl, hk, hs, g1, g2⟩; have HK3 := Aside0.mk (HK2.out.trans hk (fun _ h => h.elim)); have HA3 := Aside0.mk (HA2.out.keep hk id id (fun _ h => h.elim)); have HB3 := Aside0.mk (HB2.out.keep hk id id (fun _ h => h.elim)); have HC3 := Aside0.mk hs; have G3 := Aside0.mk (And.intro g1 g2); clear hk hs g1 g2)
    | (go_at_call 8; refine (new_any w.heap.size _ HK1.out.size).mono ?_; rintro e w2 ⟨p2, r2, rfl, hk, hs, g1, g2⟩; have HK2 := Aside0.mk (HK1.out.trans hk (fun _ h => h.elim)); have HA2 := Aside0.mk (HA1.out.keep hk id id (fun _ h => h.elim)); have HB2 := Aside0.mk hs; have G2 := Aside0.mk (And.intro g1 g2); clear hk hs g1 g2)
    | (go_at_call 8; refine (new_any w.heap.size _ (Nat.le_refl _)).mono ?_; rintro e w1 ⟨p1, r1, rfl, hk, hs, g1, g2⟩; have HK1 := Aside0.mk hk; have HA1 := Aside0.mk hs; have G1 := Aside0.mk (And.intro g1 g2); clear hk hs g1 g2))
  have N12 : Aside0 ((p1 < p2 ∧ p1 < r2 ∧ r1 < p2 ∧ r1 < r2) ∧ (p1 < p3 ∧ p1 < r3 ∧ r1 < p3 ∧ r1 < r3) ∧ (p1 < p4 ∧ p1 < r4 ∧ r1 < p4 ∧ r1 < r4) ∧ (p2 < p3 ∧ p2 < r3 ∧ r2 < p3 ∧ r2 < r3) ∧ (p2 < p4 ∧ p2 < r4 ∧ r2 < p4 ∧ r2 < r4) ∧ (p3 < p4 ∧ p3 < r4 ∧ r3 < p4 ∧ r3 < r4)) := by
    have a1 := HA1.out.lt; have a2 := HB2.out.lt; have a3 := HC3.out.lt; have g2 := G2.out; have g3 := G3.out; have g4 := G4.out
    have b1 := HA2.out.lt; have b2 := HA3.out.lt; have b3 := HB3.out.lt
    exact ⟨by omega⟩
  have GE : Aside0 ((w.heap.size ≤ p1 ∧ w.heap.size ≤ r1) ∧ (w.heap.size ≤ p2 ∧ w.heap.size ≤ r2) ∧ (w.heap.size ≤ p3 ∧ w.heap.size ≤ r3) ∧ (w.heap.size ≤ p4 ∧ w.heap.size ≤ r4)) := ⟨HA4.out.base_.2, HB4.out.base_.2, HC4.out.base_.2, HD4.out.base_.2⟩
  clear G1 G2 G3 G4 HA1 HA2 HA3 HB2 HB3 HC3 HK1 HK2 HK3
  refine (awp_a w.heap.size p1 r1 _ HA4.out).mono ?_
  rintro e w5 ⟨o1, rfl, hk⟩
  have HK5 := Aside0.mk (HK4.out.trans hk (fun k hk => .inr (by have := GE.out; rcases mine_f hk with q | q <;> omega)))
  have HB5 := Aside0.mk (HB4.out.past hk (by have := N12.out; omega) (fun _ h => h.elim))
  have HC5 := Aside0.mk (HC4.out.past hk (by have := N12.out; omega) (fun _ h => h.elim))
  have HD5 := Aside0.mk (HD4.out.past hk (by have := N12.out; omega) (fun _ h => h.elim))
  clear hk
  go_wp2_with (fail)
  refine (awp_b w.heap.size p2 r2 _ HB5.out).mono ?_
  rintro e w6 ⟨sb, rfl, hk, hs, et, en, ei⟩
  have HK6 := Aside0.mk (HK5.out.trans hk (fun k hk => .inr (by have := GE.out; rcases mine_f hk with q | q <;> omega)))
  have HB6 := Aside0.mk hs
  have HC6 := Aside0.mk (HC5.out.past hk (by have := N12.out; omega) (fun _ h => h.elim))
  have HD6 := Aside0.mk (HD5.out.past hk (by have := N12.out; omega) (fun _ h => h.elim))
  have ET := Aside0.mk et
  have EN := Aside0.mk en
  have EI := Aside0.mk ei
  clear hk hs et en ei
  go_wp2_with (fail)
  refine (awp_c w.heap.size p3 r3 _ HC6.out).mono ?_
  rintro e w7 ⟨o3, rfl, hk⟩
  have HK7 := Aside0.mk (HK6.out.trans hk (fun k hk => .inr (by have := GE.out; rcases mine_f hk with q | q <;> omega)))
  have HB7 := Aside0.mk (HB6.out.past hk (by have := N12.out; omega) (fun k h => by
    rcases h with h | h
    · exact h.elim
    · have := HC5.out.lt
      have := h.1
      omega))
  have HD7 := Aside0.mk (HD6.out.past hk (by have := N12.out; omega) (fun _ h => h.elim))
  clear hk
  go_wp2_with (fail)
  refine (awp_d w.heap.size p4 r4 _ HD7.out).mono ?_
  rintro e w8 ⟨sd, rfl, hk, hs, ei⟩
  have HK8 := Aside0.mk (HK7.out.trans hk (fun k hk => .inr (by have := GE.out; rcases mine_f hk with q | q <;> omega)))
  have HB8 := Aside0.mk (HB7.out.past hk (by have := N12.out; omega) (fun k h => by
    rcases h with h | h
    · exact h.elim
    · have := HD5.out.lt
      have := h.1
      omega))
  have HD8 := Aside0.mk hs
  have ED := Aside0.mk ei
  clear hk hs ei
  have HTX := Aside0.mk (text_any w.heap.size p2 r2 _ sb _ HB8.out)
  have HLN := Aside0.mk (len_any w.heap.size p2 r2 _ sb _ HB8.out)
  have HIB := Aside0.mk (inside_any w.heap.size p2 r2 _ sb _ HB8.out)
  have HID := Aside0.mk (inside_any w.heap.size p4 r4 _ sd _ HD8.out)
  rw [ET.out] at HTX
  rw [EN.out] at HLN
  rw [EI.out] at HIB
  rw [ED.out] at HID
  go_wp2_with (first
    | (go_at_call 15; refine HTX.out.mono ?_; rintro e w' ⟨rfl, rfl⟩)
    | (go_at_call 12; refine HLN.out.mono ?_; rintro e w' ⟨rfl, rfl⟩)
    | (go_at_call 13; refine HID.out.mono ?_; rintro e w' ⟨rfl, rfl⟩; clear HID)
    | (go_at_call 13; refine HIB.out.mono ?_; rintro e w' ⟨rfl, rfl⟩))
  go_ret
  exact ⟨rfl, HK8.out⟩

end Go.Proofs.Ytgggjfbgcadboaa.Pure
