/- StrUnits, walked -/
import Derived.Test.YtgggjfbgcadboaaPAllx1
import Derived.Test.YtgggjfbgcadboaaPAllx2
import Derived.Test.YtgggjfbgcadboaaPAllx3
import Derived.Test.YtgggjfbgcadboaaPAllx8
import Derived.Test.YtgggjfbgcadboaaHKit
import Derived.Test.YtgggjfbgcadboaaLUtf
import Derived.Test.YtgggjfbgcadboaaLRef
import Derived.Test.YtgggjfbgcadboaaH12Plays
import Derived.Outline
import Derived.OwnWalk
namespace Go.Proofs.Ytgggjfbgcadboaa.Pure
open Go.RowKit Go.Proofs.Ytgggjfbgcadboaa.PAll Go.Proofs.YtgggjfbgcadboaaW.PrintWords Go.Proofs.YtgggjfbgcadboaaW.PrintLast Go.Proofs.YtgggjfbgcadboaaW.PrintMore
set_option linter.unusedVariables false
set_option linter.unusedSimpArgs false

theorem Both.left2 {P : Program} {f : Nat} {args : Array Value} {v : Value} {w0 w : World} {p r q : Nat} {s : SV} {t : RV} {F : SV → Prop} (h : Both w0 w p r q s t)
    (hc : ∀ S, StrAt w w0.heap.size S p r s → Calls P f args w fun e w' => ∃ s', e = .returned v ∧ Keeps (Mine S p r) w w' ∧ StrAt w' w0.heap.size (More S w w') p r s' ∧ F s') :
    Calls P f args w fun e w' => ∃ s', e = .returned v ∧ Both w0 w' p r q s' t ∧ F s' := by
  obtain ⟨S1, S2, h1, h2, h3, h4, h5, h6, h7⟩ := h.row
  refine (hc S1 h1).mono ?_
  rintro e w' ⟨s', rfl, hk, hs, hF⟩
  have hb := h.old.size
  refine ⟨s', rfl, ⟨⟨More S1 w w', S2, hs, h2.keep hk ?_ ?_, ⟨h3.1, h3.2.1, ?_⟩, h4, ?_, ?_, h7⟩, h.old.trans (hk.below ?_ hb)⟩, hF⟩
  · rintro (e | e | e)
    · exact h3.1 e
    · exact h3.2.1 e
    · exact h3.2.2 e
  · rintro k hS (e | e | e)
    · exact h4.1 (e ▸ hS)
    · exact h4.2 (e ▸ hS)
    · exact h5 k e hS
  · rintro (e | e)
    · exact h3.2.2 e
    · have := e.1
      have := h2.lt
      omega
  · rintro k (e | e) hS
    · exact h5 k e hS
    · have := e.1
      have := h2.slt k hS
      omega
  · rintro k (e | e)
    · exact h6 k e
    · have := e.1
      omega
  · rintro k (e | e | e)
    · exact e ▸ h1.base_.2.1
    · exact e ▸ h1.base_.2.2
    · exact h6 k e

/-! ### Two escapes, plainly -/
def hexC (g : Bool) (d : Int) : Int := if d < 10 then 48 + d else if g = true then 55 + d else 87 + d
theorem hexV_C (g : Bool) (d : Int) (h0 : 0 ≤ d) (h1 : d < 16) : hexV (hexC g d) = d ∧ ¬ hexC g d < 32 := by
  unfold hexC hexV
  cases g <;> simp <;> (repeat' split) <;> omega
def escB (g : Bool) (u : Int) : List Int := [92, 117, hexC g (u / 4096), hexC g (u / 256 % 16), hexC g (u / 16 % 16), hexC g (u % 16)]
theorem play_go {t t' : RV} {x : Int} {l : List Int} {i : Nat} (h : rpushV t x = (false, 0, t')) : playV t (x :: l) i = playV t' l (i + 1) := by
  have g : ¬ ((rpushV t x).2.1 ≠ 0 ∨ (rpushV t x).1 = true) := by rw [h]; simp
  show (if _ then _ else _) = _
  rw [if_neg g, h]
theorem play_no {t t' : RV} {x c : Int} {l : List Int} {i : Nat} (h : rpushV t x = (false, c, t')) (hc : c ≠ 0) : (playV t (x :: l) i).2.2.1 = false := by
  have g : (rpushV t x).2.1 ≠ 0 ∨ (rpushV t x).1 = true := by rw [h]; exact .inl hc
  show (if _ then _ else _ : Nat × Int × Bool × RV).2.2.1 = _
  rw [if_pos g, h]
theorem push_dig (t : RV) (g : Bool) (d : Int) (h0 : 0 ≤ d) (h1 : d < 16) (ho : t.Over = false) (he : t.Esc = 2) :
    rpushV t (hexC g d) = (false, if wrongV t.Wait (valH t.Hex * 16 + d) ((t.Hex.length : Int) + 1) ≠ 0 then (wrongV t.Wait (valH t.Hex * 16 + d) ((t.Hex.length : Int) + 1), t)
      else if (t.Hex.length : Int) + 1 < 4 then (0, { t with Hex := t.Hex ++ [d] })
      else if hiS t.Wait = true ∧ loS (valH t.Hex * 16 + d) = true then (0, { t with Out := t.Out ++ [joinV t.Wait (valH t.Hex * 16 + d)], Esc := 0, Hex := [], Wait := 0 })
      else if hiS (valH t.Hex * 16 + d) = true then (0, { t with Esc := 0, Hex := [], Wait := valH t.Hex * 16 + d })
      else (0, { t with Out := t.Out ++ [valH t.Hex * 16 + d], Esc := 0, Hex := [], Wait := 0 })) := by
  obtain ⟨e1, e2⟩ := hexV_C g d h0 h1
  have g1 : ¬ (t.Over = true ∨ hexC g d < 32) := fun q => q.elim (fun q => by rw [ho] at q; cases q) e2
  unfold rpushV
  rw [if_neg g1, if_pos he]
  unfold rdigitsV
  rw [e1, if_neg (show ¬ d < 0 by omega)]
def okU (W u : Int) : Prop := wrongV W (u / 4096) 1 = 0 ∧ wrongV W (u / 256) 2 = 0 ∧ wrongV W (u / 16) 3 = 0 ∧ wrongV W u 4 = 0
def RV.unit (t : RV) (u : Int) : RV :=
  if hiS t.Wait = true ∧ loS u = true then { t with Out := t.Out ++ [joinV t.Wait u], Esc := 0, Hex := [], Wait := 0 } else if hiS u = true then { t with Esc := 0, Hex := [], Wait := u } else { t with Out := t.Out ++ [u], Esc := 0, Hex := [], Wait := 0 }
theorem play_esc (t : RV) (g : Bool) (u : Int) (l : List Int) (i : Nat) (h0 : 0 ≤ u) (h1 : u < 65536) (ho : t.Over = false) (hb : t.B = []) (he : t.Esc = 0) (hh : t.Hex = []) :
    (okU t.Wait u → playV t (escB g u ++ l) i = playV (t.unit u) l (i + 6)) ∧ (¬ okU t.Wait u → (playV t (escB g u ++ l) i).2.2.1 = false) := by
  obtain ⟨O, B, E, H, W, V⟩ := t
  simp only at ho hb he hh
  subst ho hb he hh
  have p1 : rpushV ⟨O, [], 0, [], W, false⟩ 92 = (false, 0, ⟨O, [], 1, [], W, false⟩) := rfl
  have p2 : rpushV ⟨O, [], 1, [], W, false⟩ 117 = (false, 0, ⟨O, [], 2, [], W, false⟩) := rfl
  have d1 := push_dig ⟨O, [], 2, [], W, false⟩ g (u / 4096) (by omega) (by omega) rfl rfl
  have d2 := push_dig ⟨O, [], 2, [u / 4096], W, false⟩ g (u / 256 % 16) (by omega) (by omega) rfl rfl
  have d3 := push_dig ⟨O, [], 2, [u / 4096, u / 256 % 16], W, false⟩ g (u / 16 % 16) (by omega) (by omega) rfl rfl
  have d4 := push_dig ⟨O, [], 2, [u / 4096, u / 256 % 16, u / 16 % 16], W, false⟩ g (u % 16) (by omega) (by omega) rfl rfl
  have v1 : valH [] * 16 + u / 4096 = u / 4096 := by simp [valH]
  have v2 : valH [u / 4096] * 16 + u / 256 % 16 = u / 256 := by simp [valH]; omega
  have v3 : valH [u / 4096, u / 256 % 16] * 16 + u / 16 % 16 = u / 16 := by simp [valH]; omega
  have v4 : valH [u / 4096, u / 256 % 16, u / 16 % 16] * 16 + u % 16 = u := by simp [valH]; omega
  simp only [v1] at d1
  simp only [v2] at d2
  simp only [v3] at d3
  simp only [v4] at d4
  simp only [List.length_nil, List.length_cons, List.nil_append, List.cons_append] at d1 d2 d3 d4
  rw [show (((0 : Nat) : Int) + 1) = 1 from rfl] at d1
  rw [show (((0 + 1 : Nat) : Int) + 1) = 2 from rfl] at d2
  rw [show (((0 + 1 + 1 : Nat) : Int) + 1) = 3 from rfl] at d3
  rw [show (((0 + 1 + 1 + 1 : Nat) : Int) + 1) = 4 from rfl] at d4
  have hs : ∀ k, playV ⟨O, [], 0, [], W, false⟩ (escB g u ++ l) k = playV ⟨O, [], 2, [], W, false⟩ (hexC g (u / 4096) :: hexC g (u / 256 % 16) :: hexC g (u / 16 % 16) :: hexC g (u % 16) :: l) (k + 2) := fun k => (play_go p1).trans (play_go p2)
  rw [hs]
  unfold okU
  by_cases a1 : wrongV W (u / 4096) 1 = 0
  · have e1 : rpushV ⟨O, [], 2, [], W, false⟩ (hexC g (u / 4096)) = (false, 0, ⟨O, [], 2, [u / 4096], W, false⟩) := by
      rw [d1, if_neg (fun q => q a1), if_pos (by decide)]
    rw [play_go e1]
    by_cases a2 : wrongV W (u / 256) 2 = 0
    · have e2 : rpushV ⟨O, [], 2, [u / 4096], W, false⟩ (hexC g (u / 256 % 16)) = (false, 0, ⟨O, [], 2, [u / 4096, u / 256 % 16], W, false⟩) := by
        rw [d2, if_neg (fun q => q a2), if_pos (by decide)]
      rw [play_go e2]
      by_cases a3 : wrongV W (u / 16) 3 = 0
      · have e3 : rpushV ⟨O, [], 2, [u / 4096, u / 256 % 16], W, false⟩ (hexC g (u / 16 % 16)) = (false, 0, ⟨O, [], 2, [u / 4096, u / 256 % 16, u / 16 % 16], W, false⟩) := by
          rw [d3, if_neg (fun q => q a3), if_pos (by decide)]
        rw [play_go e3]
        by_cases a4 : wrongV W u 4 = 0
        · have e4 : rpushV ⟨O, [], 2, [u / 4096, u / 256 % 16, u / 16 % 16], W, false⟩ (hexC g (u % 16)) = (false, 0, RV.unit ⟨O, [], 0, [], W, false⟩ u) := by
            rw [d4, if_neg (fun q => q a4), if_neg (by decide)]
            unfold RV.unit
            (repeat' split) <;> rfl
          rw [play_go e4]
          exact ⟨fun _ => rfl, fun q => absurd ⟨a1, a2, a3, a4⟩ q⟩
        · refine ⟨fun q => absurd q.2.2.2 a4, fun _ => play_no (c := wrongV W u 4) (t' := ⟨O, [], 2, [u / 4096, u / 256 % 16, u / 16 % 16], W, false⟩) ?_ a4⟩
          rw [d4, if_pos a4]
      · refine ⟨fun q => absurd q.2.2.1 a3, fun _ => play_no (c := wrongV W (u / 16) 3) (t' := ⟨O, [], 2, [u / 4096, u / 256 % 16], W, false⟩) ?_ a3⟩
        rw [d3, if_pos a3]
    · refine ⟨fun q => absurd q.2.1 a2, fun _ => play_no (c := wrongV W (u / 256) 2) (t' := ⟨O, [], 2, [u / 4096], W, false⟩) ?_ a2⟩
      rw [d2, if_pos a2]
  · refine ⟨fun q => absurd q.1 a1, fun _ => play_no (c := wrongV W (u / 4096) 1) (t' := ⟨O, [], 2, [], W, false⟩) ?_ a1⟩
    rw [d1, if_pos a1]
theorem loS_iff (u : Int) : loS u = true ↔ 56320 ≤ u ∧ u ≤ 57343 := by simp [loS]
theorem hiS_iff (u : Int) : hiS u = true ↔ 55296 ≤ u ∧ u < 56320 := by simp [hiS]
theorem isNon_iff (c : Int) : isNon c = true ↔ (64976 ≤ c ∧ c ≤ 65007) ∨ (0 ≤ c ∧ c ≤ 1114111 ∧ (c < 55296 ∨ c > 57343)) ∧ 65534 ≤ c % 65536 := by
  simp [isNon, isScal]
theorem okU_first (u : Int) (h0 : 0 ≤ u) (h1 : u < 65536) : okU 0 u ↔ (¬ loS u = true ∧ ¬ isNon u = true) := by
  have hl1 : lowV (u / 4096) 1 = decide (u / 4096 = 13) := rfl
  have hl2 : lowV (u / 256) 2 = loS (u / 256 * 256) := rfl
  have hl3 : lowV (u / 16) 3 = loS (u / 16 * 16) := rfl
  have hl4 : lowV u 4 = loS u := rfl
  have b2 := loS_iff (u / 256 * 256)
  have b3 := loS_iff (u / 16 * 16)
  have b4 := loS_iff u
  have b5 := isNon_iff u
  have hh : hiS 0 = false := rfl
  unfold okU wrongV
  rw [hl1, hl2, hl3, hl4, hh]
  simp only [show ¬ ((0 : Int) ≠ 0) from fun q => q rfl, false_and, false_or, true_and, show ¬ ((2 : Int) ≤ 1) by decide, show (2 : Int) ≤ 2 by decide, show (2 : Int) ≤ 3 by decide, show (2 : Int) ≤ 4 by decide, Bool.false_eq_true, and_false, if_false]
  have t2 : loS (u / 256 * 256) = true → loS u = true := fun q => b4.2 (by have := b2.1 q; omega)
  have t3 : loS (u / 16 * 16) = true → loS u = true := fun q => b4.2 (by have := b3.1 q; omega)
  have t5 : u / 16 = 4061 ∨ u / 16 = 4062 → isNon u = true := fun q => b5.2 (by omega)
  have t6 : loS (u / 256 * 256) = false → loS u = true → False := fun q r => by
    have := b4.1 r
    have := b2.2 (by omega)
    rw [q] at this
    cases this
  clear b2 b3 b4 b5 hl1 hl2 hl3 hl4 hh
  by_cases c5 : u / 16 = 4061 ∨ u / 16 = 4062
  · have := t5 c5
    simp [c5, this]
    cases e2 : loS (u / 256 * 256) <;> cases e3 : loS (u / 16 * 16) <;> cases e4 : loS u <;> simp_all
  · simp [c5]
    cases e2 : loS (u / 256 * 256) <;> cases e3 : loS (u / 16 * 16) <;> cases e4 : loS u <;> cases e5 : isNon u <;> simp_all
theorem okU_second (W u : Int) (hW : hiS W = true) (h0 : 0 ≤ u) (h1 : u < 65536) : okU W u ↔ (loS u = true ∧ ¬ isNon (joinV W u) = true) := by
  have hl1 : lowV (u / 4096) 1 = decide (u / 4096 = 13) := rfl
  have hl2 : lowV (u / 256) 2 = loS (u / 256 * 256) := rfl
  have hl3 : lowV (u / 16) 3 = loS (u / 16 * 16) := rfl
  have hl4 : lowV u 4 = loS u := rfl
  have b2 := loS_iff (u / 256 * 256)
  have b3 := loS_iff (u / 16 * 16)
  have b4 := loS_iff u
  have hW0 : ¬ W = 0 := by
    have := (hiS_iff W).1 hW
    omega
  unfold okU wrongV
  rw [hl1, hl2, hl3, hl4, hW]
  simp [hW0]
  have t1 : loS u = true → u / 4096 = 13 ∧ loS (u / 256 * 256) = true ∧ loS (u / 16 * 16) = true := fun q => by
    have := b4.1 q
    exact ⟨by omega, b2.2 (by omega), b3.2 (by omega)⟩
  clear b2 b3 b4 hl1 hl2 hl3 hl4
  cases e4 : loS u <;> cases e5 : isNon (joinV W u) <;> simp_all
/-- The law, plainly. -/
def rightV (u v : Int) : Prop := (hiS u = true ∧ loS v = true) ∧ ¬ isNon (joinV u v) = true ∨ (¬ hiS u = true ∧ ¬ loS u = true ∧ ¬ hiS v = true ∧ ¬ loS v = true) ∧ ¬ isNon u = true ∧ ¬ isNon v = true
theorem play_units (g g' : Bool) (u v : Int) (hu : 0 ≤ u ∧ u < 65536) (hv : 0 ≤ v ∧ v < 65536) : (playV RV.zero (escB g u ++ (escB g' v ++ [34])) 0).2.2.1 = true ↔ rightV u v := by
  obtain ⟨f1, f2⟩ := play_esc RV.zero g u (escB g' v ++ [34]) 0 hu.1 hu.2 rfl rfl rfl rfl
  have k1 : okU RV.zero.Wait u ↔ _ := okU_first u hu.1 hu.2
  have hn : hiS u = true → ¬ isNon u = true := fun q r => by
    have := (hiS_iff u).1 q
    have := (isNon_iff u).1 r
    omega
  have hx : hiS u = true → ¬ loS u = true := fun q r => by
    have := (hiS_iff u).1 q
    have := (loS_iff u).1 r
    omega
  by_cases ok : okU RV.zero.Wait u
  · rw [f1 ok]
    obtain ⟨o1, o2⟩ := k1.1 ok
    by_cases hi : hiS u = true
    · have e : RV.zero.unit u = ⟨[], [], 0, [], u, false⟩ := by
        unfold RV.unit
        rw [if_neg (fun q => absurd (show hiS 0 = true from q.1) (by decide)), if_pos hi]
        rfl
      rw [e]
      obtain ⟨g1, g2⟩ := play_esc ⟨[], [], 0, [], u, false⟩ g' v [34] (0 + 6) hv.1 hv.2 rfl rfl rfl rfl
      have k2 : okU u v ↔ _ := okU_second u v hi hv.1 hv.2
      by_cases ok2 : okU u v
      · rw [g1 ok2]
        obtain ⟨q1, q2⟩ := k2.1 ok2
        have e2 : RV.unit ⟨[], [], 0, [], u, false⟩ v = ⟨[joinV u v], [], 0, [], 0, false⟩ := by
          unfold RV.unit
          rw [if_pos ⟨hi, q1⟩]
          rfl
        rw [e2]
        exact ⟨fun _ => .inl ⟨⟨hi, q1⟩, q2⟩, fun _ => rfl⟩
      · rw [g2 ok2]
        refine ⟨fun q => (by cases q), fun q => ?_⟩
        rcases q with q | q
        · exact absurd (k2.2 ⟨q.1.2, q.2⟩) ok2
        · exact absurd hi q.1.1
    · have e : RV.zero.unit u = ⟨[u], [], 0, [], 0, false⟩ := by
        unfold RV.unit
        rw [if_neg (fun q => absurd (show hiS 0 = true from q.1) (by decide)), if_neg hi]
        rfl
      rw [e]
      obtain ⟨g1, g2⟩ := play_esc ⟨[u], [], 0, [], 0, false⟩ g' v [34] (0 + 6) hv.1 hv.2 rfl rfl rfl rfl
      have k2 : okU 0 v ↔ _ := okU_first v hv.1 hv.2
      by_cases ok2 : okU 0 v
      · rw [g1 ok2]
        obtain ⟨q1, q2⟩ := k2.1 ok2
        by_cases hi2 : hiS v = true
        · have e2 : RV.unit ⟨[u], [], 0, [], 0, false⟩ v = ⟨[u], [], 0, [], v, false⟩ := by
            unfold RV.unit
            rw [if_neg (fun q => absurd (show hiS 0 = true from q.1) (by decide)), if_pos hi2]
          have hv0 : (0 : Int) < v := by
            have := (hiS_iff v).1 hi2
            omega
          have p : rpushV ⟨[u], [], 0, [], v, false⟩ 34 = (false, 5, ⟨[u], [], 0, [], v, false⟩) := by
            unfold rpushV
            simp [hv0]
          rw [e2, play_no p (by decide)]
          refine ⟨fun q => (by cases q), fun q => ?_⟩
          rcases q with q | q
          · exact absurd q.1.1 hi
          · exact absurd hi2 q.1.2.2.1
        · have e2 : RV.unit ⟨[u], [], 0, [], 0, false⟩ v = ⟨[u, v], [], 0, [], 0, false⟩ := by
            unfold RV.unit
            rw [if_neg (fun q => absurd (show hiS 0 = true from q.1) (by decide)), if_neg hi2]
            rfl
          rw [e2]
          exact ⟨fun _ => .inr ⟨⟨hi, o1, hi2, q1⟩, o2, q2⟩, fun _ => rfl⟩
      · rw [g2 ok2]
        refine ⟨fun q => (by cases q), fun q => ?_⟩
        rcases q with q | q
        · exact absurd q.1.1 hi
        · exact absurd (k2.2 ⟨q.1.2.2.2, q.2.2⟩) ok2
  · rw [f2 ok]
    refine ⟨fun q => (by cases q), fun q => ?_⟩
    rcases q with q | q
    · exact absurd (k1.2 ⟨hx q.1.1, hn q.1.1⟩) ok
    · exact absurd (k1.2 ⟨q.1.2.1, q.2.1⟩) ok

/-! ### An escape's digits -/
theorem bt_up (d : Int) (h0 : 0 ≤ d) (h1 : d < 16) : bt (⟨#[48, 49, 50, 51, 52, 53, 54, 55, 56, 57, 65, 66, 67, 68, 69, 70]⟩ : ByteArray) d = hexC true d := by
  obtain ⟨n, rfl⟩ := Int.eq_ofNat_of_zero_le h0
  have : n < 16 := by omega
  match n, this with
  | 0, _ | 1, _ | 2, _ | 3, _ | 4, _ | 5, _ | 6, _ | 7, _ | 8, _ | 9, _ | 10, _ | 11, _ | 12, _ | 13, _ | 14, _ | 15, _ => rfl
theorem bt_low (d : Int) (h0 : 0 ≤ d) (h1 : d < 16) : bt (⟨#[48, 49, 50, 51, 52, 53, 54, 55, 56, 57, 97, 98, 99, 100, 101, 102]⟩ : ByteArray) d = hexC false d := by
  obtain ⟨n, rfl⟩ := Int.eq_ofNat_of_zero_le h0
  have : n < 16 := by omega
  match n, this with
  | 0, _ | 1, _ | 2, _ | 3, _ | 4, _ | 5, _ | 6, _ | 7, _ | 8, _ | 9, _ | 10, _ | 11, _ | 12, _ | 13, _ | 14, _ | 15, _ => rfl
theorem wrap_u16_in (x : Int) (h0 : 0 ≤ x) (h1 : x < 65536) : IntKind.u16.wrap x = x := by
  rw [wrap_u16]
  omega
def fourB (g : Bool) (u : Int) : List Int := [hexC g (u / 4096), hexC g (u / 256 % 16), hexC g (u / 16 % 16), hexC g (u % 16)]
theorem four_val (g : Bool) (u : Int) (h0 : 0 ≤ u) (h1 : u < 65536) : orthoepylaw12_four.f u g = some (strOfNums (fourB g u)) := by
  have a1 : IntKind.u16.wrap (Int.tdiv u 4096) = u / 4096 := by
    rw [Int.tdiv_eq_ediv_of_nonneg h0]
    exact wrap_u16_in _ (by omega) (by omega)
  have a2 : Int.tmod (IntKind.u16.wrap (Int.tdiv u 256)) 16 = u / 256 % 16 := by
    rw [Int.tdiv_eq_ediv_of_nonneg h0]
    rw [wrap_u16_in (u / 256) (by omega) (by omega), Int.tmod_eq_emod_of_nonneg (by omega)]
  have a3 : Int.tmod (IntKind.u16.wrap (Int.tdiv u 16)) 16 = u / 16 % 16 := by
    rw [Int.tdiv_eq_ediv_of_nonneg h0]
    rw [wrap_u16_in (u / 16) (by omega) (by omega), Int.tmod_eq_emod_of_nonneg (by omega)]
  have a4 : Int.tmod u 16 = u % 16 := Int.tmod_eq_emod_of_nonneg h0
  have b1 : 0 ≤ u / 4096 ∧ u / 4096 < 16 := by omega
  have b2 : 0 ≤ u / 256 % 16 ∧ u / 256 % 16 < 16 := by omega
  have b3 : 0 ≤ u / 16 % 16 ∧ u / 16 % 16 < 16 := by omega
  have b4 : 0 ≤ u % 16 ∧ u % 16 < 16 := by omega
  unfold orthoepylaw12_four.f
  simp only [a1, a2, a3, a4, b1.1, b1.2, b2.1, b2.2, b3.1, b3.2, b4.1, b4.2, if_true]
  rw [bt_up _ b1.1 b1.2, bt_up _ b2.1 b2.2, bt_up _ b3.1 b3.2, bt_up _ b4.1 b4.2, bt_low _ b1.1 b1.2, bt_low _ b2.1 b2.2, bt_low _ b3.1 b3.2, bt_low _ b4.1 b4.2]
  all_goals (cases g <;> rfl)
theorem bnums_app (a b : ByteArray) : bnums (a ++ b) = bnums a ++ bnums b := by
  unfold bnums
  rw [← List.map_append]
  congr 1
theorem bnums_str (l : List Int) (h : Byt l) : bnums (strOfNums l) = l := by
  unfold bnums strOfNums
  simp only [List.map_map]
  conv => rhs; rw [← List.map_id l]
  apply List.map_congr_left
  intro x hx
  have := h x hx
  simp
  omega
theorem hexC_byt (g : Bool) (d : Int) (h0 : 0 ≤ d) (h1 : d < 16) : 0 ≤ hexC g d ∧ hexC g d ≤ 255 := by
  unfold hexC
  cases g <;> simp <;> (repeat' split) <;> omega
theorem fourB_byt (g : Bool) (u : Int) (h0 : 0 ≤ u) (h1 : u < 65536) : Byt (fourB g u) := by
  intro x hx
  simp only [fourB, List.mem_cons, List.not_mem_nil, or_false] at hx
  rcases hx with rfl | rfl | rfl | rfl <;> exact hexC_byt _ _ (by omega) (by omega)
def unitsS (g g' : Bool) (u v : Int) : ByteArray := ⟨#[92, 117]⟩ ++ strOfNums (fourB g u) ++ ⟨#[92, 117]⟩ ++ strOfNums (fourB g' v) ++ ⟨#[34]⟩
theorem unitsS_nums (g g' : Bool) (u v : Int) (hu : 0 ≤ u ∧ u < 65536) (hv : 0 ≤ v ∧ v < 65536) : bnums (unitsS g g' u v) = escB g u ++ (escB g' v ++ [34]) ∧ (unitsS g g' u v).size = 13 := by
  have e : bnums (unitsS g g' u v) = escB g u ++ (escB g' v ++ [34]) := by
    unfold unitsS
    rw [bnums_app, bnums_app, bnums_app, bnums_app, bnums_str _ (fourB_byt g u hu.1 hu.2), bnums_str _ (fourB_byt g' v hv.1 hv.2)]
    rfl
  refine ⟨e, ?_⟩
  rw [← bnums_len, e]
  rfl

theorem new_both (w w1 : World) (p r : Nat) (hk : Keeps (fun _ => False) w w1) (hs : StrAt w1 w.heap.size (fun _ => False) p r SV.zero) :
    Both w (w1.alloc (.cells #[.slice none 0 0, .slice none 0 0, .int .i64 0, .slice none 0 0, .int .u16 0, .bool false] 30)) p r w1.heap.size SV.zero RV.zero := by
  have hlt := hs.lt
  have hk1 := (Keeps.refl (fun _ => False) w1).alloc (.cells #[.slice none 0 0, .slice none 0 0, .int .i64 0, .slice none 0 0, .int .u16 0, .bool false] 30)
  exact ⟨⟨_, _, hs.keep hk1 id id (fun _ q => q.elim), ref_new w.heap.size w1 hk.size, ⟨by omega, by omega, id⟩, ⟨id, id⟩, fun _ q => q.elim, fun _ q => q.elim, fun _ q => q.elim⟩, ((hk.alloc _).below (fun _ q => q.elim) (Nat.le_refl _))⟩
theorem Same.refl (w : World) : Same w w := ⟨Keeps.refl _ _⟩
theorem comb (u v : Int) : ((hiS u = true ∧ loS v = true ∧ isNon (joinV u v) = true) ∧ ¬ rightV u v) ∨ ((hiS u = true ∧ loS v = true ∧ isNon (joinV u v) = false) ∧ rightV u v) ∨ ((hiS u = true ∧ loS v = false) ∧ ¬ rightV u v) ∨ ((hiS u = false ∧ loS u = true) ∧ ¬ rightV u v) ∨
    ((hiS u = false ∧ loS u = false ∧ hiS v = true) ∧ ¬ rightV u v) ∨ ((hiS u = false ∧ loS u = false ∧ hiS v = false ∧ loS v = true) ∧ ¬ rightV u v) ∨ ((hiS u = false ∧ loS u = false ∧ hiS v = false ∧ loS v = false ∧ isNon u = true) ∧ ¬ rightV u v) ∨
    ((hiS u = false ∧ loS u = false ∧ hiS v = false ∧ loS v = false ∧ isNon u = false ∧ isNon v = true) ∧ ¬ rightV u v) ∨ ((hiS u = false ∧ loS u = false ∧ hiS v = false ∧ loS v = false ∧ isNon u = false ∧ isNon v = false) ∧ rightV u v) := by
  unfold rightV
  cases hiS u <;> cases loS u <;> cases hiS v <;> cases loS v <;> cases isNon u <;> cases isNon v <;> cases isNon (joinV u v) <;> simp
def bOf : Value → Nat
  | .bool true => 0
  | _ => 1
def fOf (v : Value) : Nat := if intOf v = 0 then 1 else 0
set_option maxHeartbeats 4000000 in
set_option maxRecDepth 100000 in
theorem strunits_any (g : Bool) (u v : Int) (hu : 0 ≤ u ∧ u < 65536) (hv : 0 ≤ v ∧ v < 65536) (w : World) :
    Calls Try.prog 6 #[.int .u16 u, .int .u16 v, .bool g] w fun e w' => e = .returned (.bool true) ∧ Below w.heap.size w w' := by
  have H1 := Aside0.mk (fun w => orthoepylaw12_four.calls u g _ w (four_val g u hu.1 hu.2))
  have H2 := Aside0.mk (fun w => orthoepylaw12_four.calls v (!g) _ w (four_val (!g) v hv.1 hv.2))
  obtain ⟨T, hT⟩ : ∃ T, unitsS g (!g) u v = T := ⟨_, rfl⟩
  have HN := unitsS_nums g (!g) u v hu hv
  unfold unitsS at hT
  obtain ⟨X1, hX1⟩ : ∃ X, strOfNums (fourB g u) = X := ⟨_, rfl⟩
  obtain ⟨X2, hX2⟩ : ∃ X, strOfNums (fourB (!g) v) = X := ⟨_, rfl⟩
  have hs1 : X1.size = 4 ∧ X2.size = 4 := by
    rw [← hX1, ← hX2, ← bnums_len, ← bnums_len, bnums_str _ (fourB_byt g u hu.1 hu.2), bnums_str _ (fourB_byt (!g) v hv.1 hv.2)]
    exact ⟨rfl, rfl⟩
  have HS1 := Aside0.mk hs1
  simp only [hX1] at H1 hT
  simp only [hX2] at H2 hT
  have HT := Aside0.mk hT
  have HNN := Aside0.mk HN
  have HX1 := Aside0.mk hX1
  have HX2 := Aside0.mk hX2
  clear hT HN hX1 hX2 hs1
  have HU := Aside0.mk hu
  have HV := Aside0.mk hv
  clear hu hv
  go_enter Try.func6, Try.ntmps6
  go_wp2_with (first
    | (go_at_call 22; refine (H1.out _).mono ?_; rintro e w1 ⟨rfl, hb⟩; have HB1 := Aside0.mk hb; clear hb H1)
    | (go_at_call 22; refine (H2.out _).mono ?_; rintro e w2 ⟨rfl, hb⟩; have HB2 := Aside0.mk hb; clear hb H2)
    | (go_at_call 8; refine (new_any w2.heap.size _ (Nat.le_refl _)).mono ?_; rintro e w3 ⟨p, r, rfl, hk, hs, g1, g2⟩; have H3 := Aside0.mk (new_both w2 w3 p r hk hs); clear hk hs g1 g2))
  all_goals first
    | (rename_i hbig; exfalso; have z1 : (⟨#[92, 117]⟩ : ByteArray).size = 2 := rfl; have z2 : (⟨#[34]⟩ : ByteArray).size = 1 := rfl; have z3 := HS1.out; (try simp only [ByteArray.size_append] at hbig); omega)
    | skip
  rw [HT.out]
  obtain ⟨Z, hZ0⟩ : ∃ Z, playV RV.zero (bnums T) 0 = Z := ⟨_, rfl⟩
  have hun : unitsS g (!g) u v = T := by rw [← HT.out]; unfold unitsS; rw [HX1.out, HX2.out]
  have hnn := HNN.out
  rw [hun] at hnn
  have hZr : Z.2.2.1 = true ↔ rightV u v := by
    rw [← hZ0, hnn.1]
    exact play_units g (!g) u v HU.out HV.out
  have hsz := hnn.2
  have HPL := Aside0.mk (H3.out.left2 (F := fun s' => Sim (0 + T.size) s' (playV RV.zero (bnums T) 0).2.2.2) (fun S hS => play_any w2.heap.size p r 0 S SV.zero RV.zero T _ hS (Sim.zero 0) (by omega)))
  rw [hZ0] at HPL
  have HZR := Aside0.mk hZr
  have HZ0 := Aside0.mk hZ0
  clear hZ0 hun hnn hZr
  refine HPL.out.mono ?_
  rintro e w4 ⟨s1, rfl, h4, hm4⟩
  have H4 := Aside0.mk h4
  have HM4 := Aside0.mk hm4
  clear h4 hm4
  go_wp2_with (fail)
  go_loopw [13, 14, 15] (fun j f b wr => ∃ (k : Nat) (fc : Int) (bb : Bool) (t' : RV), k ≤ T.size ∧ j = .int .i64 k ∧ f = .int .i64 fc ∧ b = .bool bb ∧ Aside0 (Both w2 wr p r w3.heap.size s1 t') ∧ Aside0 (∃ sg, Sim (k + (if fc = 0 ∧ bb = false then 0 else 1)) sg t') ∧
      Aside0 ((fc = 0 ∧ bb = false ∧ playV t' ((bnums T).drop k) k = Z) ∨ ((fc ≠ 0 ∨ bb = true) ∧ (k, fc, bb, t') = Z))) (fun j f b _ => 2 * (T.size - (intOf j).toNat) + fOf f * bOf b)
  case atStart =>
    exact ⟨0, 0, false, RV.zero, Nat.zero_le _, rfl, rfl, rfl, ⟨H4.out⟩, ⟨SV.zero, Sim.zero _⟩, ⟨.inl ⟨rfl, rfl, HZ0.out⟩⟩⟩
  case round =>
    obtain ⟨k, fc, bb, t', hk, rfl, rfl, rfl, HA, HG, HD⟩ := hrel
    by_cases hrun : k < T.size ∧ fc = 0 ∧ bb = false
    · obtain ⟨hlt, rfl, rfl⟩ := hrun
      have hp : playV t' ((bnums T).drop k) k = Z := by
        rcases HD.out with q | q
        · exact q.2.2
        · rcases q.1 with q | q
          · exact absurd rfl q
          · cases q
      have hlt1 : (k : Int) < (T.size : Int) := by omega
      have hlt2 : decide ((k : Int) < (T.size : Int)) = true := decide_eq_true hlt1
      obtain ⟨x, hx0⟩ : ∃ x : Int, ((T[k]'hlt).toNat : Int) = x := ⟨_, rfl⟩
      have hx : 0 ≤ x ∧ x ≤ 255 := by
        have := (T[k]'hlt).toNat_lt
        omega
      rw [bnums_drop T k hlt, hx0] at hp
      have hidx : (Instr.index 9 (.string T) (.int .i64 (k : Int))).run Try.prog = fun w => .ok (.int .u8 x) w := by
        funext w
        rw [run_index_string w _ _ _ _ Try.underlying9, dif_pos ⟨by omega, hlt1⟩]
        simp only [Int.toNat_natCast, hx0]
      obtain ⟨sg, hg⟩ := HG.out
      rw [if_pos ⟨rfl, rfl⟩] at hg
      obtain ⟨tt, _, _, _, hsim⟩ := sim_step hg x hx.1 hx.2
      have hd := HA.out.right (fun S hS => rpush_any w2.heap.size w3.heap.size S t' x wr hS (hg.okR (by omega)) hx)
      obtain ⟨tn, htn⟩ : ∃ y, (rpushV t' x).2.2 = y := ⟨_, rfl⟩
      obtain ⟨cq, hcq⟩ : ∃ y, (rpushV t' x).2.1 = y := ⟨_, rfl⟩
      obtain ⟨ov, hov⟩ : ∃ y, (rpushV t' x).1 = y := ⟨_, rfl⟩
      rw [htn] at hsim
      rw [htn, hcq, hov] at hd
      simp only [playV, htn, hcq, hov] at hp
      have HQ := Aside0.mk hd
      have HP2 := Aside0.mk hp
      have HN : Aside0 (∃ sg, Sim (k + 1) sg tn) := ⟨_, hsim⟩
      clear hp hd hsim htn hcq hov hx0 hg
      by_cases hq : cq = 0
      · subst hq
        cases ov with
        | true =>
          go_wp2_with (go_at_call 11; refine HQ.out.mono ?_; rintro e w5 ⟨rfl, h5⟩; have H5 := Aside0.mk h5; clear h5)
          go_roundw
          case rel =>
            have hz := HP2.out
            rw [if_pos (Or.inr (by simp))] at hz
            exact ⟨k, 0, true, tn, by omega, rfl, rfl, rfl, ⟨H5.out⟩, ⟨by simpa using HN.out⟩, ⟨.inr ⟨.inr rfl, hz⟩⟩⟩
          case measure => simp [intOf, fOf, bOf]
        | false =>
          go_wp2_with (go_at_call 11; refine HQ.out.mono ?_; rintro e w5 ⟨rfl, h5⟩; have H5 := Aside0.mk h5; clear h5)
          go_roundw
          case rel =>
            have hz := HP2.out
            rw [if_neg (by simp)] at hz
            exact ⟨k + 1, 0, false, tn, by omega, by go_num, rfl, rfl, ⟨H5.out⟩, ⟨by simpa using HN.out⟩, ⟨.inl ⟨rfl, rfl, hz⟩⟩⟩
          case measure => simp [intOf, fOf, bOf]; omega
      · have tq : (cq == 0) = false := beq_f hq
        go_wp2_with (go_at_call 11; refine HQ.out.mono ?_; rintro e w5 ⟨rfl, h5⟩; have H5 := Aside0.mk h5; clear h5)
        go_roundw
        case rel =>
          have hz := HP2.out
          rw [if_pos (Or.inl hq)] at hz
          exact ⟨k, cq, ov, tn, by omega, rfl, rfl, rfl, ⟨H5.out⟩, ⟨by simpa [hq] using HN.out⟩, ⟨.inr ⟨.inl hq, hz⟩⟩⟩
        case measure => simp [intOf, fOf, bOf, hq]
    · have hZ : (k, fc, bb, t') = Z := by
        rcases HD.out with q | q
        · obtain ⟨q1, q2, q3⟩ := q
          have hk2 : T.size ≤ k := by
            rcases Nat.lt_or_ge k T.size with h | h
            · exact absurd ⟨h, q1, q2⟩ hrun
            · exact h
          rw [bnums_end T k hk2] at q3
          rw [q1, q2]
          exact q3
        · exact q.2
      subst hZ
      have hb : bb = true ↔ rightV u v := HZR.out
      have hm : Sim (0 + T.size) s1 t' := HM4.out
      have hrd := fun W hW => HA.out.reads hm (by omega) W hW
      obtain ⟨X, hX⟩ : ∃ X : ByteArray, strOfNums (textV t'.Out) = X := ⟨_, rfl⟩
      simp only [hX] at hrd
      have HRD := Aside0.mk hrd
      have hjj : orthoepyref01_Join.f u v = some ((if hiS u = true ∧ loS v = true then joinV u v else 0), (hiS u && loS v)) := by
        rw [rjoin_val]
        cases hiS u <;> cases loS v <;> simp
      have HJ := Aside0.mk (fun W => orthoepyref01_Join.calls u v _ _ W hjj)
      have HHU := Aside0.mk (fun W => orthoepyref01_High.calls u _ W (rhigh_val u))
      have HHV := Aside0.mk (fun W => orthoepyref01_High.calls v _ W (rhigh_val v))
      have HLU := Aside0.mk (fun W => orthoepyref01_Low.calls u _ W (rlow_val u))
      have HLV := Aside0.mk (fun W => orthoepyref01_Low.calls v _ W (rlow_val v))
      have HNU := Aside0.mk (fun W => orthoepyref01_Nonchar.calls u _ W (rnon_val u))
      have HNV := Aside0.mk (fun W => orthoepyref01_Nonchar.calls v _ W (rnon_val v))
      have HNJ := Aside0.mk (fun W => orthoepyref01_Nonchar.calls (joinV u v) _ W (rnon_val (joinV u v)))
      have wu : IntKind.i32.wrap u = u := by
        have := HU.out
        simp [IntKind.wrap, IntKind.signed, IntKind.bits]
        omega
      have wv : IntKind.i32.wrap v = v := by
        have := HV.out
        simp [IntKind.wrap, IntKind.signed, IntKind.bits]
        omega
      have HRUN := Aside0.mk hrun
      clear hrd hX hm hjj hrun
      rcases comb u v with c | c | c | c | c | c | c | c | c <;> obtain ⟨c, cr⟩ := c <;>
      · have hbb : bb = true ∨ bb = false := by cases bb <;> simp
        rcases hbb with hbb | hbb <;>
        first
          | (exact absurd (hb.1 hbb) cr)
          | (exact Bool.noConfusion (hbb.symm.trans (hb.2 cr)))
          | subst hbb
        first
          | (simp only [c] at HNJ; clear HNU HNV)
          | (clear HNJ; try simp only [c] at HNU HNV)
        simp only [c, and_self, true_and, and_true, and_false, false_and, if_true, if_false, Bool.false_eq_true, Bool.true_and, Bool.and_true, Bool.and_false, Bool.false_and] at HJ HHU
        try simp only [c] at HHV HLU HLV
        clear hb cr c
        by_cases c1 : (k : Int) < (T.size : Int)
        · have c1d : decide ((k : Int) < (T.size : Int)) = true := decide_eq_true c1
          by_cases c2 : fc = 0
          · subst c2
            try exact absurd ⟨by omega, rfl, rfl⟩ HRUN.out
            all_goals
              go_wp2_with (first
                | (go_at_call 23; refine (HJ.out _).mono ?_; rintro e w' ⟨rfl, hd⟩; obtain ⟨nc, hd⟩ := hd.out; subst hd)
                | (go_at_call 24; refine (HHU.out _).mono ?_; rintro e w' ⟨rfl, hd⟩; obtain ⟨nc, hd⟩ := hd.out; subst hd; clear HHU)
                | (go_at_call 24; refine (HHV.out _).mono ?_; rintro e w' ⟨rfl, hd⟩; obtain ⟨nc, hd⟩ := hd.out; subst hd)
                | (go_at_call 25; refine (HLU.out _).mono ?_; rintro e w' ⟨rfl, hd⟩; obtain ⟨nc, hd⟩ := hd.out; subst hd; clear HLU)
                | (go_at_call 25; refine (HLV.out _).mono ?_; rintro e w' ⟨rfl, hd⟩; obtain ⟨nc, hd⟩ := hd.out; subst hd)
                | (go_at_call 26; refine (HNJ.out _).mono ?_; rintro e w' ⟨rfl, hd⟩; obtain ⟨nc, hd⟩ := hd.out; subst hd)
                | (go_at_call 26; refine (HNU.out _).mono ?_; rintro e w' ⟨rfl, hd⟩; obtain ⟨nc, hd⟩ := hd.out; subst hd; clear HNU)
                | (go_at_call 26; refine (HNV.out _).mono ?_; rintro e w' ⟨rfl, hd⟩; obtain ⟨nc, hd⟩ := hd.out; subst hd)
                | (go_at_call 15; refine (HRD.out _ (by repeat (first | exact Same.refl _ | apply Same.drewN | apply Same.drew))).2.2.1.mono ?_; rintro e w' ⟨rfl, rfl⟩)
                | (go_at_call 16; refine (HRD.out _ (by repeat (first | exact Same.refl _ | apply Same.drewN | apply Same.drew))).2.2.2.2.1.mono ?_; rintro e w8 ⟨rfl, hw8⟩)
                | (go_at_call 9; refine (awake_any _).mono ?_; rintro e w9 ⟨rfl, hk9⟩))
              go_ret
              have hbl := HA.out.old.trans ((hw8.out.trans hk9 (fun _ q => q.elim)).below (fun _ q => q.elim) HA.out.old.size)
              exact ⟨rfl, HB1.out.trans ((HB2.out.mono HB1.out.size).trans (hbl.mono (Nat.le_trans HB1.out.size HB2.out.size)))⟩
          · have c2d : (fc == 0) = false := beq_f c2
            go_wp2_with (first
              | (go_at_call 23; refine (HJ.out _).mono ?_; rintro e w' ⟨rfl, hd⟩; obtain ⟨nc, hd⟩ := hd.out; subst hd)
              | (go_at_call 24; refine (HHU.out _).mono ?_; rintro e w' ⟨rfl, hd⟩; obtain ⟨nc, hd⟩ := hd.out; subst hd; clear HHU)
              | (go_at_call 24; refine (HHV.out _).mono ?_; rintro e w' ⟨rfl, hd⟩; obtain ⟨nc, hd⟩ := hd.out; subst hd)
              | (go_at_call 25; refine (HLU.out _).mono ?_; rintro e w' ⟨rfl, hd⟩; obtain ⟨nc, hd⟩ := hd.out; subst hd; clear HLU)
              | (go_at_call 25; refine (HLV.out _).mono ?_; rintro e w' ⟨rfl, hd⟩; obtain ⟨nc, hd⟩ := hd.out; subst hd)
              | (go_at_call 26; refine (HNJ.out _).mono ?_; rintro e w' ⟨rfl, hd⟩; obtain ⟨nc, hd⟩ := hd.out; subst hd)
              | (go_at_call 26; refine (HNU.out _).mono ?_; rintro e w' ⟨rfl, hd⟩; obtain ⟨nc, hd⟩ := hd.out; subst hd; clear HNU)
              | (go_at_call 26; refine (HNV.out _).mono ?_; rintro e w' ⟨rfl, hd⟩; obtain ⟨nc, hd⟩ := hd.out; subst hd)
              | (go_at_call 15; refine (HRD.out _ (by repeat (first | exact Same.refl _ | apply Same.drewN | apply Same.drew))).2.2.1.mono ?_; rintro e w' ⟨rfl, rfl⟩)
              | (go_at_call 16; refine (HRD.out _ (by repeat (first | exact Same.refl _ | apply Same.drewN | apply Same.drew))).2.2.2.2.1.mono ?_; rintro e w8 ⟨rfl, hw8⟩)
              | (go_at_call 9; refine (awake_any _).mono ?_; rintro e w9 ⟨rfl, hk9⟩))
            go_ret
            have hbl := HA.out.old.trans ((hw8.out.trans hk9 (fun _ q => q.elim)).below (fun _ q => q.elim) HA.out.old.size)
            exact ⟨rfl, HB1.out.trans ((HB2.out.mono HB1.out.size).trans (hbl.mono (Nat.le_trans HB1.out.size HB2.out.size)))⟩
        · have c1d : decide ((k : Int) < (T.size : Int)) = false := decide_eq_false c1
          go_wp2_with (first
            | (go_at_call 23; refine (HJ.out _).mono ?_; rintro e w' ⟨rfl, hd⟩; obtain ⟨nc, hd⟩ := hd.out; subst hd)
            | (go_at_call 24; refine (HHU.out _).mono ?_; rintro e w' ⟨rfl, hd⟩; obtain ⟨nc, hd⟩ := hd.out; subst hd; clear HHU)
            | (go_at_call 24; refine (HHV.out _).mono ?_; rintro e w' ⟨rfl, hd⟩; obtain ⟨nc, hd⟩ := hd.out; subst hd)
            | (go_at_call 25; refine (HLU.out _).mono ?_; rintro e w' ⟨rfl, hd⟩; obtain ⟨nc, hd⟩ := hd.out; subst hd; clear HLU)
            | (go_at_call 25; refine (HLV.out _).mono ?_; rintro e w' ⟨rfl, hd⟩; obtain ⟨nc, hd⟩ := hd.out; subst hd)
            | (go_at_call 26; refine (HNJ.out _).mono ?_; rintro e w' ⟨rfl, hd⟩; obtain ⟨nc, hd⟩ := hd.out; subst hd)
            | (go_at_call 26; refine (HNU.out _).mono ?_; rintro e w' ⟨rfl, hd⟩; obtain ⟨nc, hd⟩ := hd.out; subst hd; clear HNU)
            | (go_at_call 26; refine (HNV.out _).mono ?_; rintro e w' ⟨rfl, hd⟩; obtain ⟨nc, hd⟩ := hd.out; subst hd)
            | (go_at_call 15; refine (HRD.out _ (by repeat (first | exact Same.refl _ | apply Same.drewN | apply Same.drew))).2.2.1.mono ?_; rintro e w' ⟨rfl, rfl⟩)
            | (go_at_call 16; refine (HRD.out _ (by repeat (first | exact Same.refl _ | apply Same.drewN | apply Same.drew))).2.2.2.2.1.mono ?_; rintro e w8 ⟨rfl, hw8⟩)
            | (go_at_call 9; refine (awake_any _).mono ?_; rintro e w9 ⟨rfl, hk9⟩))
          go_ret
          have hbl := HA.out.old.trans ((hw8.out.trans hk9 (fun _ q => q.elim)).below (fun _ q => q.elim) HA.out.old.size)
          exact ⟨rfl, HB1.out.trans ((HB2.out.mono HB1.out.size).trans (hbl.mono (Nat.le_trans HB1.out.size HB2.out.size)))⟩

theorem wf_u16 {n : Int} (h : (Lit.int .u16 n).wf = true) : 0 ≤ n ∧ n ≤ 65535 := by
  simp [Lit.wf, IntKind.min, IntKind.max, IntKind.bits, IntKind.signed] at h
  omega
theorem orthoepylaw12_StrUnits.walk (a0 a1 : Int) (a2 : Bool) (w : World) (w0 : (Lit.int .u16 a0).wf = true) (w1 : (Lit.int .u16 a1).wf = true) :
    Calls Try.prog 6 #[.int .u16 a0, .int .u16 a1, .bool a2] w fun e w' => e = .returned (.bool true) ∧ Below w.heap.size w w' := by
  have h0 := wf_u16 w0
  have h1 := wf_u16 w1
  exact strunits_any a2 a0 a1 (by omega) (by omega) w

end Go.Proofs.Ytgggjfbgcadboaa.Pure
