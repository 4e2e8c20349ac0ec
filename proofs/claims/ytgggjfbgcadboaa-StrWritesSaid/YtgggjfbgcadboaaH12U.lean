/- What brings a string to its end, plainly. -/
import Derived.Test.YtgggjfbgcadboaaPAllx1
import Derived.Test.YtgggjfbgcadboaaPAllx2
import Derived.Test.YtgggjfbgcadboaaHKit
import Derived.Test.YtgggjfbgcadboaaLUtf
import Derived.Test.YtgggjfbgcadboaaLRef
import Derived.Test.YtgggjfbgcadboaaH12d
import Derived.Test.YtgggjfbgcadboaaH12S
import Derived.Test.YtgggjfbgcadboaaH12P
namespace Go.Proofs.Ytgggjfbgcadboaa.Pure
open Go.RowKit Go.Proofs.Ytgggjfbgcadboaa.PAll Go.Proofs.YtgggjfbgcadboaaW.PrintWords Go.Proofs.YtgggjfbgcadboaaW.PrintLast Go.Proofs.YtgggjfbgcadboaaW.PrintMore
set_option linter.unusedVariables false
set_option linter.unusedSimpArgs false

/-! ### Strings out of numbers -/
theorem str_app (a b : List Int) : strOfNums a ++ strOfNums b = strOfNums (a ++ b) := by
  apply ByteArray.ext
  simp [strOfNums]
theorem str_size (a : List Int) : (strOfNums a).size = a.length := by
  simp [strOfNums, ByteArray.size]

/-! ### Worlds in which what was there lies unturned -/
structure Same (w W : World) : Prop where
  out : Keeps (fun _ => False) w W
theorem Same.drew {w W : World} (h : Same w W) : Same w W.drew := ⟨h.out.drew⟩
theorem Same.drewN {w W : World} (h : Same w W) (n : Nat) : Same w (W.drewN n) := ⟨h.out.drewN n⟩
theorem Same.on {w W W2 : World} (h : Same w W) (h2 : Keeps (fun _ => False) W W2) : Same w W2 := ⟨h.out.trans h2 (fun _ q => .inl q)⟩
theorem Same.refl0 (w : World) : Same w w := ⟨Keeps.refl _ _⟩

/-! ### Two escapes, plainly -/
def hexC (g : Bool) (d : Int) : Int := if d < 10 then 48 + d else if g = true then 55 + d else 87 + d
theorem hexV_C (g : Bool) (d : Int) (h0 : 0 ≤ d) (h1 : d < 16) : hexV (hexC g d) = d ∧ ¬ hexC g d < 32 := by
  unfold hexC hexV
  cases g <;> simp <;> (repeat' split) <;> omega
def escB (g : Bool) (u : Int) : List Int := [92, 117, hexC g (u / 4096), hexC g (u / 256 % 16), hexC g (u / 16 % 16), hexC g (u % 16)]
theorem play_go {t t' : RV} {x : Int} {l : List Int} {i : Nat} (h : rpushV t x = (false, 0, t')) : playV t (x :: l) i = playV t' l (i + 1) := by
  have g : ¬ ((rpushV t x).2.1 ≠ 0 ∨ (rpushV t x).1 = true) := by rw [h]; simp
  show (if _ then _ else _) = _
  rw [if_neg g, h]
theorem play_no {t t' : RV} {x c : Int} {l : List Int} {i : Nat} (h : rpushV t x = (false, c, t')) (hc : c ≠ 0) : (playV t (x :: l) i).2.2.1 = false := by
  have g : (rpushV t x).2.1 ≠ 0 ∨ (rpushV t x).1 = true := by rw [h]; exact .inl hc
  show (if _ then _ else _ : Nat × Int × Bool × RV).2.2.1 = _
  rw [if_pos g, h]
theorem push_dig (t : RV) (g : Bool) (d : Int) (h0 : 0 ≤ d) (h1 : d < 16) (ho : t.Over = false) (he : t.Esc = 2) :
    rpushV t (hexC g d) = (false, if wrongV t.Wait (valH t.Hex * 16 + d) ((t.Hex.length : Int) + 1) ≠ 0 then (wrongV t.Wait (valH t.Hex * 16 + d) ((t.Hex.length : Int) + 1), t)
      else if (t.Hex.length : Int) + 1 < 4 then (0, { t with Hex := t.Hex ++ [d] })
      else if hiS t.Wait = true ∧ loS (valH t.Hex * 16 + d) = true then (0, { t with Out := t.Out ++ [joinV t.Wait (valH t.Hex * 16 + d)], Esc := 0, Hex := [], Wait := 0 })
      else if hiS (valH t.Hex * 16 + d) = true then (0, { t with Esc := 0, Hex := [], Wait := valH t.Hex * 16 + d })
      else (0, { t with Out := t.Out ++ [valH t.Hex * 16 + d], Esc := 0, Hex := [], Wait := 0 })) := by
  obtain ⟨e1, e2⟩ := hexV_C g d h0 h1
  have g1 : ¬ (t.Over = true ∨ hexC g d < 32) := fun q => q.elim (fun q => by rw [ho] at q; cases q) e2
  unfold rpushV
  rw [if_neg g1, if_pos he]
  unfold rdigitsV
  rw [e1, if_neg (show ¬ d < 0 by omega)]
def okU (W u : Int) : Prop := wrongV W (u / 4096) 1 = 0 ∧ wrongV W (u / 256) 2 = 0 ∧ wrongV W (u / 16) 3 = 0 ∧ wrongV W u 4 = 0
def RV.unit (t : RV) (u : Int) : RV :=
  if hiS t.Wait = true ∧ loS u = true then { t with Out := t.Out ++ [joinV t.Wait u], Esc := 0, Hex := [], Wait := 0 } else if hiS u = true then { t with Esc := 0, Hex := [], Wait := u } else { t with Out := t.Out ++ [u], Esc := 0, Hex := [], Wait := 0 }
theorem play_esc (t : RV) (g : Bool) (u : Int) (l : List Int) (i : Nat) (h0 : 0 ≤ u) (h1 : u < 65536) (ho : t.Over = false) (hb : t.B = []) (he : t.Esc = 0) (hh : t.Hex = []) :
    (okU t.Wait u → playV t (escB g u ++ l) i = playV (t.unit u) l (i + 6)) ∧ (¬ okU t.Wait u → (playV t (escB g u ++ l) i).2.2.1 = false) := by
  obtain ⟨O, B, E, H, W, V⟩ := t
  simp only at ho hb he hh
  subst ho hb he hh
  have p1 : rpushV ⟨O, [], 0, [], W, false⟩ 92 = (false, 0, ⟨O, [], 1, [], W, false⟩) := rfl
  have p2 : rpushV ⟨O, [], 1, [], W, false⟩ 117 = (false, 0, ⟨O, [], 2, [], W, false⟩) := rfl
  have d1 := push_dig ⟨O, [], 2, [], W, false⟩ g (u / 4096) (by omega) (by omega) rfl rfl
  have d2 := push_dig ⟨O, [], 2, [u / 4096], W, false⟩ g (u / 256 % 16) (by omega) (by omega) rfl rfl
  have d3 := push_dig ⟨O, [], 2, [u / 4096, u / 256 % 16], W, false⟩ g (u / 16 % 16) (by omega) (by omega) rfl rfl
  have d4 := push_dig ⟨O, [], 2, [u / 4096, u / 256 % 16, u / 16 % 16], W, false⟩ g (u % 16) (by omega) (by omega) rfl rfl
  have v1 : valH [] * 16 + u / 4096 = u / 4096 := by simp [valH]
  have v2 : valH [u / 4096] * 16 + u / 256 % 16 = u / 256 := by simp [valH]; omega
  have v3 : valH [u / 4096, u / 256 % 16] * 16 + u / 16 % 16 = u / 16 := by simp [valH]; omega
  have v4 : valH [u / 4096, u / 256 % 16, u / 16 % 16] * 16 + u % 16 = u := by simp [valH]; omega
  simp only [v1] at d1
  simp only [v2] at d2
  simp only [v3] at d3
  simp only [v4] at d4
  simp only [List.length_nil, List.length_cons, List.nil_append, List.cons_append] at d1 d2 d3 d4
  rw [show (((0 : Nat) : Int) + 1) = 1 from rfl] at d1
  rw [show (((0 + 1 : Nat) : Int) + 1) = 2 from rfl] at d2
  rw [show (((0 + 1 + 1 : Nat) : Int) + 1) = 3 from rfl] at d3
  rw [show (((0 + 1 + 1 + 1 : Nat) : Int) + 1) = 4 from rfl] at d4
  have hs : ∀ k, playV ⟨O, [], 0, [], W, false⟩ (escB g u ++ l) k = playV ⟨O, [], 2, [], W, false⟩ (hexC g (u / 4096) :: hexC g (u / 256 % 16) :: hexC g (u / 16 % 16) :: hexC g (u % 16) :: l) (k + 2) := fun k => (play_go p1).trans (play_go p2)
  rw [hs]
  unfold okU
  by_cases a1 : wrongV W (u / 4096) 1 = 0
  · have e1 : rpushV ⟨O, [], 2, [], W, false⟩ (hexC g (u / 4096)) = (false, 0, ⟨O, [], 2, [u / 4096], W, false⟩) := by
      rw [d1, if_neg (fun q => q a1), if_pos (by decide)]
    rw [play_go e1]
    by_cases a2 : wrongV W (u / 256) 2 = 0
    · have e2 : rpushV ⟨O, [], 2, [u / 4096], W, false⟩ (hexC g (u / 256 % 16)) = (false, 0, ⟨O, [], 2, [u / 4096, u / 256 % 16], W, false⟩) := by
        rw [d2, if_neg (fun q => q a2), if_pos (by decide)]
      rw [play_go e2]
      by_cases a3 : wrongV W (u / 16) 3 = 0
      · have e3 : rpushV ⟨O, [], 2, [u / 4096, u / 256 % 16], W, false⟩ (hexC g (u / 16 % 16)) = (false, 0, ⟨O, [], 2, [u / 4096, u / 256 % 16, u / 16 % 16], W, false⟩) := by
          rw [d3, if_neg (fun q => q a3), if_pos (by decide)]
        rw [play_go e3]
        by_cases a4 : wrongV W u 4 = 0
        · have e4 : rpushV ⟨O, [], 2, [u / 4096, u / 256 % 16, u / 16 % 16], W, false⟩ (hexC g (u % 16)) = (false, 0, RV.unit ⟨O, [], 0, [], W, false⟩ u) := by
            rw [d4, if_neg (fun q => q a4), if_neg (by decide)]
            unfold RV.unit
            (repeat' split) <;> rfl
          rw [play_go e4]
          exact ⟨fun _ => rfl, fun q => absurd ⟨a1, a2, a3, a4⟩ q⟩
        · refine ⟨fun q => absurd q.2.2.2 a4, fun _ => play_no (c := wrongV W u 4) (t' := ⟨O, [], 2, [u / 4096, u / 256 % 16, u / 16 % 16], W, false⟩) ?_ a4⟩
          rw [d4, if_pos a4]
      · refine ⟨fun q => absurd q.2.2.1 a3, fun _ => play_no (c := wrongV W (u / 16) 3) (t' := ⟨O, [], 2, [u / 4096, u / 256 % 16], W, false⟩) ?_ a3⟩
        rw [d3, if_pos a3]
    · refine ⟨fun q => absurd q.2.1 a2, fun _ => play_no (c := wrongV W (u / 256) 2) (t' := ⟨O, [], 2, [u / 4096], W, false⟩) ?_ a2⟩
      rw [d2, if_pos a2]
  · refine ⟨fun q => absurd q.1 a1, fun _ => play_no (c := wrongV W (u / 4096) 1) (t' := ⟨O, [], 2, [], W, false⟩) ?_ a1⟩
    rw [d1, if_pos a1]
theorem loS_iff (u : Int) : loS u = true ↔ 56320 ≤ u ∧ u ≤ 57343 := by simp [loS]
theorem hiS_iff (u : Int) : hiS u = true ↔ 55296 ≤ u ∧ u < 56320 := by simp [hiS]
theorem isNon_iff (c : Int) : isNon c = true ↔ (64976 ≤ c ∧ c ≤ 65007) ∨ (0 ≤ c ∧ c ≤ 1114111 ∧ (c < 55296 ∨ c > 57343)) ∧ 65534 ≤ c % 65536 := by
  simp [isNon, isScal]
theorem okU_first (u : Int) (h0 : 0 ≤ u) (h1 : u < 65536) : okU 0 u ↔ (¬ loS u = true ∧ ¬ isNon u = true) := by
  have hl1 : lowV (u / 4096) 1 = decide (u / 4096 = 13) := rfl
  have hl2 : lowV (u / 256) 2 = loS (u / 256 * 256) := rfl
  have hl3 : lowV (u / 16) 3 = loS (u / 16 * 16) := rfl
  have hl4 : lowV u 4 = loS u := rfl
  have b2 := loS_iff (u / 256 * 256)
  have b3 := loS_iff (u / 16 * 16)
  have b4 := loS_iff u
  have b5 := isNon_iff u
  have hh : hiS 0 = false := rfl
  unfold okU wrongV
  rw [hl1, hl2, hl3, hl4, hh]
  simp only [show ¬ ((0 : Int) ≠ 0) from fun q => q rfl, false_and, false_or, true_and, show ¬ ((2 : Int) ≤ 1) by decide, show (2 : Int) ≤ 2 by decide, show (2 : Int) ≤ 3 by decide, show (2 : Int) ≤ 4 by decide, Bool.false_eq_true, and_false, if_false]
  have t2 : loS (u / 256 * 256) = true → loS u = true := fun q => b4.2 (by have := b2.1 q; omega)
  have t3 : loS (u / 16 * 16) = true → loS u = true := fun q => b4.2 (by have := b3.1 q; omega)
  have t5 : u / 16 = 4061 ∨ u / 16 = 4062 → isNon u = true := fun q => b5.2 (by omega)
  have t6 : loS (u / 256 * 256) = false → loS u = true → False := fun q r => by
    have := b4.1 r
    have := b2.2 (by omega)
    rw [q] at this
    cases this
  clear b2 b3 b4 b5 hl1 hl2 hl3 hl4 hh
  by_cases c5 : u / 16 = 4061 ∨ u / 16 = 4062
  · have := t5 c5
    simp [c5, this]
    cases e2 : loS (u / 256 * 256) <;> cases e3 : loS (u / 16 * 16) <;> cases e4 : loS u <;> simp_all
  · simp [c5]
    cases e2 : loS (u / 256 * 256) <;> cases e3 : loS (u / 16 * 16) <;> cases e4 : loS u <;> cases e5 : isNon u <;> simp_all
theorem okU_second (W u : Int) (hW : hiS W = true) (h0 : 0 ≤ u) (h1 : u < 65536) : okU W u ↔ (loS u = true ∧ ¬ isNon (joinV W u) = true) := by
  have hl1 : lowV (u / 4096) 1 = decide (u / 4096 = 13) := rfl
  have hl2 : lowV (u / 256) 2 = loS (u / 256 * 256) := rfl
  have hl3 : lowV (u / 16) 3 = loS (u / 16 * 16) := rfl
  have hl4 : lowV u 4 = loS u := rfl
  have b2 := loS_iff (u / 256 * 256)
  have b3 := loS_iff (u / 16 * 16)
  have b4 := loS_iff u
  have hW0 : ¬ W = 0 := by
    have := (hiS_iff W).1 hW
    omega
  unfold okU wrongV
  rw [hl1, hl2, hl3, hl4, hW]
  simp [hW0]
  have t1 : loS u = true → u / 4096 = 13 ∧ loS (u / 256 * 256) = true ∧ loS (u / 16 * 16) = true := fun q => by
    have := b4.1 q
    exact ⟨by omega, b2.2 (by omega), b3.2 (by omega)⟩
  clear b2 b3 b4 hl1 hl2 hl3 hl4
  cases e4 : loS u <;> cases e5 : isNon (joinV W u) <;> simp_all
/-- The law, plainly. -/
def rightV (u v : Int) : Prop := (hiS u = true ∧ loS v = true) ∧ ¬ isNon (joinV u v) = true ∨ (¬ hiS u = true ∧ ¬ loS u = true ∧ ¬ hiS v = true ∧ ¬ loS v = true) ∧ ¬ isNon u = true ∧ ¬ isNon v = true
theorem play_units (g g' : Bool) (u v : Int) (hu : 0 ≤ u ∧ u < 65536) (hv : 0 ≤ v ∧ v < 65536) : (playV RV.zero (escB g u ++ (escB g' v ++ [34])) 0).2.2.1 = true ↔ rightV u v := by
  obtain ⟨f1, f2⟩ := play_esc RV.zero g u (escB g' v ++ [34]) 0 hu.1 hu.2 rfl rfl rfl rfl
  have k1 : okU RV.zero.Wait u ↔ _ := okU_first u hu.1 hu.2
  have hn : hiS u = true → ¬ isNon u = true := fun q r => by
    have := (hiS_iff u).1 q
    have := (isNon_iff u).1 r
    omega
  have hx : hiS u = true → ¬ loS u = true := fun q r => by
    have := (hiS_iff u).1 q
    have := (loS_iff u).1 r
    omega
  by_cases ok : okU RV.zero.Wait u
  · rw [f1 ok]
    obtain ⟨o1, o2⟩ := k1.1 ok
    by_cases hi : hiS u = true
    · have e : RV.zero.unit u = ⟨[], [], 0, [], u, false⟩ := by
        unfold RV.unit
        rw [if_neg (fun q => absurd (show hiS 0 = true from q.1) (by decide)), if_pos hi]
        rfl
      rw [e]
      obtain ⟨g1, g2⟩ := play_esc ⟨[], [], 0, [], u, false⟩ g' v [34] (0 + 6) hv.1 hv.2 rfl rfl rfl rfl
      have k2 : okU u v ↔ _ := okU_second u v hi hv.1 hv.2
      by_cases ok2 : okU u v
      · rw [g1 ok2]
        obtain ⟨q1, q2⟩ := k2.1 ok2
        have e2 : RV.unit ⟨[], [], 0, [], u, false⟩ v = ⟨[joinV u v], [], 0, [], 0, false⟩ := by
          unfold RV.unit
          rw [if_pos ⟨hi, q1⟩]
          rfl
        rw [e2]
        exact ⟨fun _ => .inl ⟨⟨hi, q1⟩, q2⟩, fun _ => rfl⟩
      · rw [g2 ok2]
        refine ⟨fun q => (by cases q), fun q => ?_⟩
        rcases q with q | q
        · exact absurd (k2.2 ⟨q.1.2, q.2⟩) ok2
        · exact absurd hi q.1.1
    · have e : RV.zero.unit u = ⟨[u], [], 0, [], 0, false⟩ := by
        unfold RV.unit
        rw [if_neg (fun q => absurd (show hiS 0 = true from q.1) (by decide)), if_neg hi]
        rfl
      rw [e]
      obtain ⟨g1, g2⟩ := play_esc ⟨[u], [], 0, [], 0, false⟩ g' v [34] (0 + 6) hv.1 hv.2 rfl rfl rfl rfl
      have k2 : okU 0 v ↔ _ := okU_first v hv.1 hv.2
      by_cases ok2 : okU 0 v
      · rw [g1 ok2]
        obtain ⟨q1, q2⟩ := k2.1 ok2
        by_cases hi2 : hiS v = true
        · have e2 : RV.unit ⟨[u], [], 0, [], 0, false⟩ v = ⟨[u], [], 0, [], v, false⟩ := by
            unfold RV.unit
            rw [if_neg (fun q => absurd (show hiS 0 = true from q.1) (by decide)), if_pos hi2]
          have hv0 : (0 : Int) < v := by
            have := (hiS_iff v).1 hi2
            omega
          have p : rpushV ⟨[u], [], 0, [], v, false⟩ 34 = (false, 5, ⟨[u], [], 0, [], v, false⟩) := by
            unfold rpushV
            simp [hv0]
          rw [e2, play_no p (by decide)]
          refine ⟨fun q => (by cases q), fun q => ?_⟩
          rcases q with q | q
          · exact absurd q.1.1 hi
          · exact absurd hi2 q.1.2.2.1
        · have e2 : RV.unit ⟨[u], [], 0, [], 0, false⟩ v = ⟨[u, v], [], 0, [], 0, false⟩ := by
            unfold RV.unit
            rw [if_neg (fun q => absurd (show hiS 0 = true from q.1) (by decide)), if_neg hi2]
            rfl
          rw [e2]
          exact ⟨fun _ => .inr ⟨⟨hi, o1, hi2, q1⟩, o2, q2⟩, fun _ => rfl⟩
      · rw [g2 ok2]
        refine ⟨fun q => (by cases q), fun q => ?_⟩
        rcases q with q | q
        · exact absurd q.1.1 hi
        · exact absurd (k2.2 ⟨q.1.2.2.2, q.2.2⟩) ok2
  · rw [f2 ok]
    refine ⟨fun q => (by cases q), fun q => ?_⟩
    rcases q with q | q
    · exact absurd (k1.2 ⟨hx q.1.1, hn q.1.1⟩) ok
    · exact absurd (k1.2 ⟨q.1.2.1, q.2.1⟩) ok

/-! ### What brings a string to its end, plainly -/
theorem bnums_nums (l : List Int) (h : Byt l) : bnums (strOfNums l) = l := by
  unfold bnums strOfNums
  simp only [List.map_map]
  conv => rhs; rw [← List.map_id l]
  apply List.map_congr_left
  intro x hx
  have := h x hx
  simp
  omega
def HexOk (t : RV) : Prop := t.Hex ≠ [] → wrongV t.Wait (valH t.Hex) (t.Hex.length : Int) = 0
theorem valH_snoc (l : List Int) (v : Int) (h : l.length ≤ 2) : valH (l ++ [v]) = valH l * 16 + v := by
  match l, h with
  | [], _ => simp [valH]
  | [a], _ => simp [valH]
  | [a, b], _ => simp [valH]
  | _ :: _ :: _ :: _, h => simp at h
theorem hexok_push {m : Nat} {s : SV} {t : RV} (h : Sim m s t) (hh : HexOk t) (x : Int) : HexOk (rpushV t x).2.2 := by
  have keep : ∀ t' : RV, t'.Hex = t.Hex → t'.Hex = [] → HexOk t' := fun t' _ e q => absurd e q
  unfold rpushV
  split
  · exact hh
  split
  · unfold rdigitsV
    split
    · exact hh
    split
    · exact hh
    · rename_i hw
      split
      · rename_i hl
        intro _
        have e : (t.Hex ++ [hexV x]).length = t.Hex.length + 1 := by simp
        show wrongV t.Wait (valH (t.Hex ++ [hexV x])) ((t.Hex ++ [hexV x]).length : Int) = 0
        rw [e, valH_snoc _ _ (by omega)]
        have : ¬ (wrongV t.Wait (valH t.Hex * 16 + hexV x) ((t.Hex.length : Int) + 1) ≠ 0) := hw
        rw [show ((t.Hex.length + 1 : Nat) : Int) = (t.Hex.length : Int) + 1 from by omega]
        omega
      · split
        · exact fun q => absurd rfl q
        split
        · exact fun q => absurd rfl q
        · exact fun q => absurd rfl q
  · rename_i hE
    have e := h.hex0 hE
    split
    · unfold rescapeV
      split
      · exact fun q => absurd e q
      · split
        · exact hh
        · split
          · exact hh
          · exact fun q => absurd e q
    split
    · unfold rbytesV
      (repeat' split) <;> exact fun q => absurd e q
    (repeat' split) <;> exact fun q => absurd e q
/-- These bytes bring it to its end, at their last one. -/
def Ends (t : RV) (l : List Int) : Prop := ∀ i, ∃ t', playV t l i = (i + (l.length - 1), 0, true, t')
theorem ends_cons {t t' : RV} {x : Int} {l : List Int} (h : rpushV t x = (false, 0, t')) (hl : l ≠ []) (he : Ends t' l) : Ends t (x :: l) := fun i => by
  obtain ⟨q, e⟩ := he (i + 1)
  refine ⟨q, ?_⟩
  have g : ¬ ((rpushV t x).2.1 ≠ 0 ∨ (rpushV t x).1 = true) := by rw [h]; simp
  show (if _ then _ else _) = _
  rw [if_neg g, h, e]
  cases l with
  | nil => exact absurd rfl hl
  | cons a r =>
    simp only [List.length_cons]
    rw [show i + 1 + (r.length + 1 - 1) = i + (r.length + 1 + 1 - 1) by omega]
theorem ends_quote (O H : List Int) : Ends ⟨O, [], 0, H, 0, false⟩ [34] := fun i => ⟨⟨O, [], 0, H, 0, true⟩, rfl⟩
def nextB : List Int → Int
  | [f] => if f = 224 then 160 else if f = 240 then 144 else 128
  | _ => 128
def contV : Nat → List Int → List Int
  | 0, _ => []
  | n + 1, b => if howV b = 1 then nextB b :: contV n (b ++ [nextB b]) else []
theorem next_ok (b : List Int) (hb : Byt b) (h : howV b = 1) :
    (howV (b ++ [nextB b]) ≠ 0 ∧ 128 ≤ nextB b ∧ nextB b ≤ 160) ∧ (∀ y, 128 ≤ y → y < nextB b → howV (b ++ [y]) = 0) ∧ (howV (b ++ [nextB b]) = 2 → isNon (ofV (b ++ [nextB b])) = false) := by
  have hlen := howV_one_len h
  match b, hlen, h, hb with
  | [f], _, h, hb =>
    have hf := hb f (by simp)
    have hz := szV_bounds f
    have hr := szV_range f
    have h2 : szV f = 2 ∨ szV f = 3 ∨ szV f = 4 := by
      simp only [howV] at h
      (repeat' split at h) <;> omega
    have hn : nextB [f] = if f = 224 then 160 else if f = 240 then 144 else 128 := rfl
    have hx : secV f (nextB [f]) = true := by
      rw [hn]
      unfold secV
      apply decide_eq_true
      (repeat' split) <;> omega
    refine ⟨⟨?_, ?_, ?_⟩, ?_, ?_⟩
    · show howV [f, nextB [f]] ≠ 0
      simp only [howV, hx]
      rw [if_neg (by simp; omega)]
      split <;> decide
    · rw [hn]; (repeat' split) <;> omega
    · rw [hn]; (repeat' split) <;> omega
    · intro y h0 h1
      have : secV f y = false := by
        unfold secV
        apply decide_eq_false
        rw [hn] at h1
        (repeat' split at h1) <;> omega
      show howV [f, y] = 0
      simp only [howV, this]
      simp
    · intro hw
      have hw' : howV [f, nextB [f]] = 2 := hw
      have e2 : szV f = 2 := by
        simp only [howV] at hw'
        (repeat' split at hw') <;> omega
      have q := hz.2.1 e2
      have eo : ofV [f, nextB [f]] = (f - 192) * 64 := by
        simp only [ofV, baseV]
        rw [hn, if_neg (by omega), if_pos (by omega), if_neg (by omega), if_neg (by omega)]
        omega
      show isNon (ofV [f, nextB [f]]) = false
      rw [eo]
      unfold isNon
      rw [show decide ((f - 192) * 64 ≥ 64976 ∧ (f - 192) * 64 ≤ 65007) = false from decide_eq_false (by omega), show decide ((f - 192) * 64 % 65536 ≥ 65534) = false from decide_eq_false (by omega), Bool.and_false]
      rfl
  | [f, x], _, h, hb =>
    have hf := hb f (by simp)
    have hz := szV_bounds f
    have hr := szV_range f
    have h2 : (szV f = 3 ∨ szV f = 4) ∧ secV f x = true := by
      simp only [howV] at h
      split at h
      · omega
      · rename_i q
        split at h
        · omega
        · refine ⟨by omega, ?_⟩
          cases e : secV f x with
          | true => rfl
          | false => exact absurd (.inr e) q
    have ht : tailV 128 = true := rfl
    refine ⟨⟨?_, by show (128 : Int) ≤ 128; omega, by show (128 : Int) ≤ 160; omega⟩, ?_, ?_⟩
    · show howV [f, x, 128] ≠ 0
      simp only [howV, h2.2, ht]
      rw [if_neg (by simp; omega)]
      split <;> decide
    · intro y h0 h1
      have : nextB [f, x] = 128 := rfl
      omega
    · intro hw
      have hw' : howV [f, x, 128] = 2 := hw
      have e3 : szV f = 3 := by
        simp only [howV] at hw'
        (repeat' split at hw') <;> omega
      have q := hz.2.2.1 e3
      have eo : ofV [f, x, 128] = ((f - 224) * 64 + (x - 128)) * 64 := by
        simp only [ofV, baseV]
        rw [if_neg (by omega), if_neg (by omega), if_pos (by omega)]
        omega
      show isNon (ofV [f, x, 128]) = false
      rw [eo]
      unfold isNon
      rw [show decide (((f - 224) * 64 + (x - 128)) * 64 ≥ 64976 ∧ ((f - 224) * 64 + (x - 128)) * 64 ≤ 65007) = false from decide_eq_false (by omega), show decide (((f - 224) * 64 + (x - 128)) * 64 % 65536 ≥ 65534) = false from decide_eq_false (by omega), Bool.and_false]
      rfl
  | [f, x, y], _, h, hb =>
    have hf := hb f (by simp)
    have hz := szV_bounds f
    have hr := szV_range f
    have h2 : szV f = 4 ∧ secV f x = true ∧ tailV y = true := by
      simp only [howV] at h
      split at h
      · omega
      · rename_i q
        split at h
        · omega
        · refine ⟨by omega, ?_, ?_⟩
          · cases e : secV f x with
            | true => rfl
            | false => exact absurd (.inr (.inl e)) q
          · cases e : tailV y with
            | true => rfl
            | false => exact absurd (.inr (.inr e)) q
    have ht : tailV 128 = true := rfl
    refine ⟨⟨?_, by show (128 : Int) ≤ 128; omega, by show (128 : Int) ≤ 160; omega⟩, ?_, ?_⟩
    · show howV [f, x, y, 128] ≠ 0
      simp only [howV, h2.2.1, h2.2.2, ht]
      rw [if_neg (by simp; omega)]
      decide
    · intro z h0 h1
      have : nextB [f, x, y] = 128 := rfl
      omega
    · intro hw
      have q := hz.2.2.2 h2.1
      have eo : ofV [f, x, y, 128] = (((f - 240) * 64 + (x - 128)) * 64 + (y - 128)) * 64 := by
        simp only [ofV, baseV]
        rw [if_neg (by omega), if_neg (by omega), if_neg (by omega)]
        omega
      have hs := h2.2.1
      simp only [secV, decide_eq_true_eq] at hs
      have hy := h2.2.2
      simp only [tailV, decide_eq_true_eq] at hy
      show isNon (ofV [f, x, y, 128]) = false
      rw [eo]
      unfold isNon
      rw [show decide ((((f - 240) * 64 + (x - 128)) * 64 + (y - 128)) * 64 ≥ 64976 ∧ (((f - 240) * 64 + (x - 128)) * 64 + (y - 128)) * 64 ≤ 65007) = false from decide_eq_false (by omega), show decide ((((f - 240) * 64 + (x - 128)) * 64 + (y - 128)) * 64 % 65536 ≥ 65534) = false from decide_eq_false (by omega), Bool.and_false]
      rfl
theorem contV_byt : ∀ (n : Nat) (b : List Int), Byt b → Byt (contV n b)
  | 0, b, _ => fun x hx => by simp [contV] at hx
  | n + 1, b, hb => by
    unfold contV
    split
    · rename_i h
      have hn := (next_ok b hb h).1
      have hx : 0 ≤ nextB b ∧ nextB b ≤ 255 := by omega
      intro y hy
      rcases List.mem_cons.1 hy with e | hy
      · rw [e]; exact hx
      · exact contV_byt n (b ++ [nextB b]) (fun z hz => by
          rcases List.mem_append.1 hz with hz | hz
          · exact hb z hz
          · simp at hz; rw [hz]; exact hx) y hy
    · exact fun x hx => by simp at hx
theorem ends_rest (O H : List Int) : ∀ (n : Nat) (b : List Int), Byt b → howV b = 1 → 4 ≤ b.length + n → Ends ⟨O, b, 0, H, 0, false⟩ (contV n b ++ [34])
  | 0, b, _, h, hl => by have := howV_one_len h; omega
  | n + 1, b, hb, h, hl => by
    obtain ⟨⟨n1, n2, n3⟩, _, n4⟩ := next_ok b hb h
    have hx : 0 ≤ nextB b ∧ nextB b ≤ 255 := by omega
    have hb2 : Byt (b ++ [nextB b]) := fun z hz => by
      rcases List.mem_append.1 hz with hz | hz
      · exact hb z hz
      · simp at hz; rw [hz]; exact hx
    have hp : ∀ t', rbytesV ⟨O, b, 0, H, 0, false⟩ (nextB b) = (0, t') → rpushV ⟨O, b, 0, H, 0, false⟩ (nextB b) = (false, 0, t') := fun t' e => by
      unfold rpushV
      simp only
      rw [if_neg (by simp; omega), if_neg (by decide), if_neg (by decide), if_pos (.inr n2), e]
    unfold contV
    rw [if_pos h, List.cons_append]
    rcases how_range (b ++ [nextB b]) with e | e | e
    · exact absurd e n1
    · refine ends_cons (hp ⟨O, b ++ [nextB b], 0, H, 0, false⟩ ?_) (by simp) (ends_rest O H n (b ++ [nextB b]) hb2 e (by simp; omega))
      unfold rbytesV
      simp only [e]
      simp
    · have hc : contV n (b ++ [nextB b]) = [] := by
        cases n with
        | zero => rfl
        | succ n => unfold contV; rw [if_neg (by omega)]
      rw [hc]
      refine ends_cons (hp ⟨O ++ [ofV (b ++ [nextB b])], [], 0, H, 0, false⟩ ?_) (by simp) (ends_quote _ H)
      unfold rbytesV RV.say
      simp only [e, n4 e]
      simp
theorem push_dig3 {O H : List Int} {W d : Int} (g : Bool) (h0 : 0 ≤ d) (h1 : d < 16) (hl : H.length ≤ 2) (hw : wrongV W (valH H * 16 + d) ((H.length : Int) + 1) = 0) :
    rpushV ⟨O, [], 2, H, W, false⟩ (hexC g d) = (false, 0, ⟨O, [], 2, H ++ [d], W, false⟩) := by
  rw [push_dig ⟨O, [], 2, H, W, false⟩ g d h0 h1 rfl rfl]
  simp only
  rw [if_neg (fun q => q hw), if_pos (by omega)]
theorem push_digU (t : RV) (g : Bool) (d U N : Int) (h0 : 0 ≤ d) (h1 : d < 16) (ho : t.Over = false) (he : t.Esc = 2) (hU : valH t.Hex * 16 + d = U) (hN : (t.Hex.length : Int) + 1 = N) (hw : wrongV t.Wait U N = 0) (h4 : ¬ N < 4) :
    rpushV t (hexC g d) = (false, 0, t.unit U) := by
  subst hU hN
  rw [push_dig t g d h0 h1 ho he, if_neg (fun q => q hw), if_neg h4]
  unfold RV.unit
  (repeat' split) <;> rfl
theorem push_dig4 {O : List Int} {W a b c d : Int} (g : Bool) (h0 : 0 ≤ d) (h1 : d < 16) (hw : wrongV W (((a * 16 + b) * 16 + c) * 16 + d) 4 = 0) :
    rpushV ⟨O, [], 2, [a, b, c], W, false⟩ (hexC g d) = (false, 0, RV.unit ⟨O, [], 2, [a, b, c], W, false⟩ (((a * 16 + b) * 16 + c) * 16 + d)) :=
  push_digU ⟨O, [], 2, [a, b, c], W, false⟩ g d (((a * 16 + b) * 16 + c) * 16 + d) 4 h0 h1 rfl rfl rfl rfl hw (by decide)
theorem wrong_hi {W u many : Int} (hW : W ≠ 0) : wrongV W u many = 0 ↔ lowV u many = true ∧ ¬ (many = 4 ∧ hiS W = true ∧ loS u = true ∧ isNon (joinV W u) = true) := by
  unfold wrongV
  cases e : lowV u many <;> simp [hW]
theorem wrong_no {u many : Int} : wrongV 0 u many = 0 ↔ ¬ (2 ≤ many ∧ lowV u many = true) ∧ ¬ (many = 3 ∧ (u = 4061 ∨ u = 4062) ∨ many = 4 ∧ isNon u = true) := by
  have hh : hiS 0 = false := rfl
  unfold wrongV
  rw [hh]
  by_cases c1 : 2 ≤ many ∧ lowV u many = true
  · simp [c1]
  · by_cases c2 : many = 3 ∧ (u = 4061 ∨ u = 4062) ∨ many = 4 ∧ isNon u = true
    · simp [c1, c2]
    · simp [c1, c2]
/-- The half that lacks, from where one is in it. -/
theorem ends_pair3 (O : List Int) (W a b c : Int) (hW : hiS W = true) (ha : 0 ≤ a ∧ a ≤ 15) (hb : 0 ≤ b ∧ b ≤ 15) (hc : 0 ≤ c ∧ c ≤ 15) (h : wrongV W ((a * 16 + b) * 16 + c) 3 = 0) : Ends ⟨O, [], 2, [a, b, c], W, false⟩ [48, 34] := by
  have w1 := (hiS_iff W).1 hW
  have hW0 : W ≠ 0 := by omega
  have hl := ((wrong_hi hW0).1 h).1
  rw [low3 ha hb hc, decide_eq_true_eq] at hl
  have hlo : loS (((a * 16 + b) * 16 + c) * 16 + 0) = true := (loS_iff _).2 (by omega)
  have hn : isNon (joinV W (((a * 16 + b) * 16 + c) * 16 + 0)) = false := by
    cases e : isNon (joinV W (((a * 16 + b) * 16 + c) * 16 + 0)) with
    | false => rfl
    | true =>
      have := (isNon_iff _).1 e
      unfold joinV at this
      omega
  have hw : wrongV W (((a * 16 + b) * 16 + c) * 16 + 0) 4 = 0 := (wrong_hi hW0).2 ⟨by rw [low4 ha hb hc (by omega)]; exact decide_eq_true hl, fun q => by rw [hn] at q; exact absurd q.2.2.2 (by decide)⟩
  have e : RV.unit ⟨O, [], 2, [a, b, c], W, false⟩ (((a * 16 + b) * 16 + c) * 16 + 0) = ⟨O ++ [joinV W (((a * 16 + b) * 16 + c) * 16 + 0)], [], 0, [], 0, false⟩ := by
    unfold RV.unit
    rw [if_pos ⟨hW, hlo⟩]
  have p := push_dig4 (O := O) (W := W) (a := a) (b := b) (c := c) (d := 0) false (by omega) (by omega) hw
  rw [e] at p
  exact ends_cons p (by simp) (ends_quote _ _)
theorem ends_pair2 (O : List Int) (W a b : Int) (hW : hiS W = true) (ha : 0 ≤ a ∧ a ≤ 15) (hb : 0 ≤ b ∧ b ≤ 15) (h : wrongV W (a * 16 + b) 2 = 0) : Ends ⟨O, [], 2, [a, b], W, false⟩ [48, 48, 34] := by
  have w1 := (hiS_iff W).1 hW
  have hW0 : W ≠ 0 := by omega
  have hl := ((wrong_hi hW0).1 h).1
  rw [low2 ha hb] at hl
  have hw : wrongV W ((a * 16 + b) * 16 + 0) 3 = 0 := (wrong_hi hW0).2 ⟨by rw [low3 ha hb (by omega)]; exact hl, fun q => absurd q.1 (by decide)⟩
  exact ends_cons (push_dig3 (O := O) (H := [a, b]) (W := W) (d := 0) false (by omega) (by omega) (by simp) hw) (by simp) (ends_pair3 O W a b 0 hW ha hb (by omega) hw)
theorem ends_pair1 (O : List Int) (W a : Int) (hW : hiS W = true) (ha : 0 ≤ a ∧ a ≤ 15) (h : wrongV W a 1 = 0) : Ends ⟨O, [], 2, [a], W, false⟩ [99, 48, 48, 34] := by
  have w1 := (hiS_iff W).1 hW
  have hW0 : W ≠ 0 := by omega
  have hl := ((wrong_hi hW0).1 h).1
  rw [low1, decide_eq_true_eq] at hl
  have hw : wrongV W (a * 16 + 12) 2 = 0 := (wrong_hi hW0).2 ⟨by rw [low2 ha (by omega)]; exact decide_eq_true (by omega), fun q => absurd q.1 (by decide)⟩
  exact ends_cons (push_dig3 (O := O) (H := [a]) (W := W) (d := 12) false (by omega) (by omega) (by simp) hw) (by simp) (ends_pair2 O W a 12 hW ha (by omega) hw)
theorem ends_pair0 (O : List Int) (W : Int) (hW : hiS W = true) : Ends ⟨O, [], 2, [], W, false⟩ [100, 99, 48, 48, 34] := by
  have w1 := (hiS_iff W).1 hW
  have hW0 : W ≠ 0 := by omega
  have hw : wrongV W (valH [] * 16 + 13) 1 = 0 := (wrong_hi hW0).2 ⟨by rw [low1]; rfl, fun q => absurd q.1 (by decide)⟩
  exact ends_cons (push_dig3 (O := O) (H := []) (W := W) (d := 13) false (by omega) (by omega) (by simp) hw) (by simp) (ends_pair1 O W 13 hW (by omega) hw)
theorem ends_pairU (O : List Int) (W : Int) (hW : hiS W = true) : Ends ⟨O, [], 1, [], W, false⟩ [117, 100, 99, 48, 48, 34] :=
  ends_cons (t' := ⟨O, [], 2, [], W, false⟩) rfl (by simp) (ends_pair0 O W hW)
theorem ends_pairB (O : List Int) (W : Int) (hW : hiS W = true) : Ends ⟨O, [], 0, [], W, false⟩ [92, 117, 100, 99, 48, 48, 34] :=
  ends_cons (t' := ⟨O, [], 1, [], W, false⟩) rfl (by simp) (ends_pairU O W hW)
/-- Digits that lack. -/
def halfL (a b : Int) : List Int := if a = 13 ∧ 8 ≤ b then [92, 117, 100, 99, 48, 48] else []
theorem ends_four3 (O : List Int) (a b c : Int) (ha : 0 ≤ a ∧ a ≤ 15) (hb : 0 ≤ b ∧ b ≤ 15) (hc : 0 ≤ c ∧ c ≤ 15) (h : wrongV 0 ((a * 16 + b) * 16 + c) 3 = 0) : Ends ⟨O, [], 2, [a, b, c], 0, false⟩ (48 :: (halfL a b ++ [34])) := by
  have hl := wrong_no.1 h
  rw [low3 ha hb hc, decide_eq_true_eq] at hl
  have hn : isNon (((a * 16 + b) * 16 + c) * 16 + 0) = false := by
    cases e : isNon (((a * 16 + b) * 16 + c) * 16 + 0) with
    | false => rfl
    | true =>
      have := (isNon_iff _).1 e
      omega
  have hw : wrongV 0 (((a * 16 + b) * 16 + c) * 16 + 0) 4 = 0 := wrong_no.2 ⟨by rw [low4 ha hb hc (by omega), decide_eq_true_eq]; omega, fun q => by rw [hn] at q; simp at q⟩
  have p := push_dig4 (O := O) (W := 0) (a := a) (b := b) (c := c) (d := 0) false (by omega) (by omega) hw
  have h0 : hiS 0 = false := rfl
  by_cases hq : a = 13 ∧ 8 ≤ b
  · have hu : hiS (((a * 16 + b) * 16 + c) * 16 + 0) = true := (hiS_iff _).2 (by omega)
    have e : RV.unit ⟨O, [], 2, [a, b, c], 0, false⟩ (((a * 16 + b) * 16 + c) * 16 + 0) = ⟨O, [], 0, [], ((a * 16 + b) * 16 + c) * 16 + 0, false⟩ := by
      unfold RV.unit
      rw [if_neg (by rw [h0]; simp), if_pos hu]
    rw [e] at p
    unfold halfL
    rw [if_pos hq]
    exact ends_cons p (by simp) (ends_pairB _ _ hu)
  · have hu : ¬ hiS (((a * 16 + b) * 16 + c) * 16 + 0) = true := fun q => by
      have := (hiS_iff _).1 q
      omega
    have e : RV.unit ⟨O, [], 2, [a, b, c], 0, false⟩ (((a * 16 + b) * 16 + c) * 16 + 0) = ⟨O ++ [((a * 16 + b) * 16 + c) * 16 + 0], [], 0, [], 0, false⟩ := by
      unfold RV.unit
      rw [if_neg (by rw [h0]; simp), if_neg hu]
    rw [e] at p
    unfold halfL
    rw [if_neg hq]
    exact ends_cons p (by simp) (ends_quote _ _)
theorem ends_four2 (O : List Int) (a b : Int) (ha : 0 ≤ a ∧ a ≤ 15) (hb : 0 ≤ b ∧ b ≤ 15) (h : wrongV 0 (a * 16 + b) 2 = 0) : Ends ⟨O, [], 2, [a, b], 0, false⟩ (48 :: 48 :: (halfL a b ++ [34])) := by
  have hl := wrong_no.1 h
  rw [low2 ha hb, decide_eq_true_eq] at hl
  have hw : wrongV 0 ((a * 16 + b) * 16 + 0) 3 = 0 := wrong_no.2 ⟨by rw [low3 ha hb (by omega), decide_eq_true_eq]; omega, fun q => by omega⟩
  exact ends_cons (push_dig3 (O := O) (H := [a, b]) (W := 0) (d := 0) false (by omega) (by omega) (by simp) hw) (by simp) (ends_four3 O a b 0 ha hb (by omega) hw)
theorem ends_four1 (O : List Int) (a : Int) (ha : 0 ≤ a ∧ a ≤ 15) : Ends ⟨O, [], 2, [a], 0, false⟩ [48, 48, 48, 34] := by
  have hw : wrongV 0 (a * 16 + 0) 2 = 0 := wrong_no.2 ⟨by rw [low2 ha (by omega), decide_eq_true_eq]; omega, fun q => by omega⟩
  have h2 := ends_four2 O a 0 ha (by omega) hw
  unfold halfL at h2
  rw [if_neg (by omega)] at h2
  exact ends_cons (push_dig3 (O := O) (H := [a]) (W := 0) (d := 0) false (by omega) (by omega) (by simp) hw) (by simp) h2
theorem ends_four0 (O : List Int) : Ends ⟨O, [], 2, [], 0, false⟩ [48, 48, 48, 48, 34] := by
  have hw : wrongV 0 (valH [] * 16 + 0) 1 = 0 := by decide
  exact ends_cons (push_dig3 (O := O) (H := []) (W := 0) (d := 0) false (by omega) (by omega) (by simp) hw) (by simp) (ends_four1 O 0 (by omega))
/-- The texts that More answers. -/
def pairL (E : Int) (H : List Int) : List Int := if E = 0 then [92, 117, 100, 99, 48, 48, 34] else if E = 1 then [117, 100, 99, 48, 48, 34] else ([100, 99, 48, 48, 34] : List Int).drop H.length
def fourL : List Int → List Int
  | [] => [48, 48, 48, 48]
  | [_] => [48, 48, 48]
  | [a, b] => 48 :: 48 :: halfL a b
  | [a, b, _] => 48 :: halfL a b
  | _ => []
def moreL (t : RV) : List Int :=
  if 0 < t.B.length then contV 3 t.B ++ [34] else if 0 < t.Wait then pairL t.Esc t.Hex else if t.Esc = 1 then [110, 34] else if t.Esc = 2 then fourL t.Hex ++ [34] else [34]
theorem halfL_byt (a b : Int) : Byt (halfL a b) := by
  unfold halfL
  split
  · intro x hx
    simp at hx
    omega
  · intro x hx
    simp at hx
theorem byt_nums {l : List Int} (h : (l.all fun x => decide (0 ≤ x ∧ x ≤ 255)) = true) : Byt l := fun x hx => of_decide_eq_true (List.all_eq_true.1 h x hx)
theorem byt_cons {x : Int} {l : List Int} (hx : 0 ≤ x ∧ x ≤ 255) (h : Byt l) : Byt (x :: l) := fun y hy => by
  rcases List.mem_cons.1 hy with e | hy
  · rw [e]; exact hx
  · exact h y hy
theorem byt_app {l r : List Int} (h : Byt l) (k : Byt r) : Byt (l ++ r) := fun y hy => by
  rcases List.mem_append.1 hy with hy | hy
  · exact h y hy
  · exact k y hy
theorem fourL_byt (H : List Int) : Byt (fourL H) := by
  unfold fourL
  split
  · exact byt_nums rfl
  · exact byt_nums rfl
  · exact byt_cons (by omega) (byt_cons (by omega) (halfL_byt _ _))
  · exact byt_cons (by omega) (halfL_byt _ _)
  · exact byt_nums rfl
theorem moreL_byt (t : RV) (hb : Byt t.B) : Byt (moreL t) := by
  unfold moreL
  split
  · exact byt_app (contV_byt 3 t.B hb) (byt_nums rfl)
  split
  · unfold pairL
    split
    · exact byt_nums rfl
    split
    · exact byt_nums rfl
    · exact fun x hx => (byt_nums (l := [100, 99, 48, 48, 34]) rfl) x (List.mem_of_mem_drop hx)
  split
  · exact byt_nums rfl
  split
  · exact byt_app (fourL_byt _) (byt_nums rfl)
  · exact byt_nums rfl
theorem hopes_val {m : Nat} {s : SV} {t : RV} (h : Sim m s t) (hh : HexOk t) (ho : t.Over = false) : Ends t (moreL t) := by
  have h0 := h.b0
  have hp := h.pre
  have hby := h.byt
  have hes := h.escs
  have hx0 := h.hex0
  have hl := h.hexl
  have hd := h.hexd
  have hw := h.waits
  obtain ⟨O, B, E, H, W, V⟩ := t
  simp only at ho h0 hp hby hes hx0 hl hd hw
  subst ho
  unfold HexOk at hh
  simp only at hh
  unfold moreL
  simp only
  by_cases hB : 0 < B.length
  · rw [if_pos hB]
    have hne : B ≠ [] := fun q => by rw [q] at hB; exact absurd hB (by decide)
    obtain ⟨e1, e2⟩ := h0 hne
    subst e1 e2
    exact ends_rest O H 3 B hby (hp.resolve_left hne) (by omega)
  · rw [if_neg hB]
    have hB0 : B = [] := List.eq_nil_of_length_eq_zero (by omega)
    subst hB0
    by_cases hW : 0 < W
    · rw [if_pos hW]
      have hhi : hiS W = true := hw.resolve_left (by omega)
      unfold pairL
      rcases hes with e | e | e
      · subst e
        have := hx0 (by decide)
        subst this
        rw [if_pos rfl]
        exact ends_pairB O W hhi
      · subst e
        have := hx0 (by decide)
        subst this
        rw [if_neg (by decide), if_pos rfl]
        exact ends_pairU O W hhi
      · subst e
        rw [if_neg (by decide), if_neg (by decide)]
        match H, hl, hd, hh with
        | [], _, _, _ => exact ends_pair0 O W hhi
        | [a], _, hd, hh => exact ends_pair1 O W a hhi (hd a (by simp)) (hh (by simp))
        | [a, b], _, hd, hh => exact ends_pair2 O W a b hhi (hd a (by simp)) (hd b (by simp)) (hh (by simp))
        | [a, b, c], _, hd, hh => exact ends_pair3 O W a b c hhi (hd a (by simp)) (hd b (by simp)) (hd c (by simp)) (hh (by simp))
        | _ :: _ :: _ :: _ :: _, q, _, _ => simp at q
    · rw [if_neg hW]
      have hW0 : W = 0 := by
        rcases hw with e | e
        · exact e
        · have := (hiS_iff W).1 e
          omega
      subst hW0
      rcases hes with e | e | e
      · subst e
        rw [if_neg (by decide), if_neg (by decide)]
        exact ends_quote O H
      · subst e
        rw [if_pos rfl]
        have := hx0 (by decide)
        subst this
        exact ends_cons (t' := ⟨O ++ [10], [], 0, [], 0, false⟩) rfl (by simp) (ends_quote _ _)
      · subst e
        rw [if_neg (by decide), if_pos rfl]
        match H, hl, hd, hh with
        | [], _, _, _ => exact ends_four0 O
        | [a], _, hd, hh => exact ends_four1 O a (hd a (by simp))
        | [a, b], _, hd, hh => exact ends_four2 O a b (hd a (by simp)) (hd b (by simp)) (hh (by simp))
        | [a, b, c], _, hd, hh => exact ends_four3 O a b c (hd a (by simp)) (hd b (by simp)) (hd c (by simp)) (hh (by simp))
        | _ :: _ :: _ :: _ :: _, q, _, _ => simp at q

end Go.Proofs.Ytgggjfbgcadboaa.Pure
