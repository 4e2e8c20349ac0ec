/- Bytes played, plainly. -/
import Derived.Test.YtkpeblpgfngjcaaPAllx1
import Derived.Test.YtkpeblpgfngjcaaPAllx2
import Derived.Test.YtkpeblpgfngjcaaPAllx3
import Derived.Test.YtkpeblpgfngjcaaPAllx4
import Derived.Test.YtkpeblpgfngjcaaPAllx5
import Derived.Test.YtkpeblpgfngjcaaHKit
import Derived.Test.YtkpeblpgfngjcaaLUtf
import Derived.Test.YtkpeblpgfngjcaaLRef
import Derived.Test.YtkpeblpgfngjcaaH12d
import Derived.Test.YtkpeblpgfngjcaaH12S
namespace Go.Proofs.Ytkpeblpgfngjcaa.Pure
open Go.RowKit Go.Proofs.Ytkpeblpgfngjcaa.PAll Go.Proofs.YtkpeblpgfngjcaaW.PrintWords Go.Proofs.YtkpeblpgfngjcaaW.PrintLast Go.Proofs.YtkpeblpgfngjcaaW.PrintMore
set_option linter.unusedVariables false
set_option linter.unusedSimpArgs false

/-! ### The laws' push: a text's bytes -/
def bnums (s : ByteArray) : List Int := s.data.toList.map fun b => (b.toNat : Int)
def playV (t : RV) : List Int → Nat → Nat × Int × Bool × RV
  | [], i => (i, 0, false, t)
  | x :: l, i => if (rpushV t x).2.1 ≠ 0 ∨ (rpushV t x).1 = true then (i, (rpushV t x).2.1, (rpushV t x).1, (rpushV t x).2.2) else playV (rpushV t x).2.2 l (i + 1)
theorem bnums_len (s : ByteArray) : (bnums s).length = s.size := by
  unfold bnums
  rw [List.length_map]
  rfl
theorem bnums_drop (s : ByteArray) (k : Nat) (hk : k < s.size) : (bnums s).drop k = ((s[k]'hk).toNat : Int) :: (bnums s).drop (k + 1) := by
  have hk' : k < (bnums s).length := by rw [bnums_len]; exact hk
  rw [List.drop_eq_getElem_cons hk']
  congr 1
  simp only [bnums, List.getElem_map]
  rfl
theorem bnums_end (s : ByteArray) (k : Nat) (hk : s.size ≤ k) : (bnums s).drop k = [] := List.drop_eq_nil_of_le (by rw [bnums_len]; exact hk)
theorem more_trans {S : Nat → Prop} {w wr w3 : World} (h1 : w.heap.size ≤ wr.heap.size) (h2 : wr.heap.size ≤ w3.heap.size) : More (More S w wr) wr w3 = More S w w3 := by
  funext k
  apply propext
  unfold More News
  constructor
  · rintro ((h | h) | h)
    · exact .inl h
    · exact .inr ⟨h.1, by omega⟩
    · exact .inr ⟨by omega, h.2⟩
  · rintro (h | h)
    · exact .inl (.inl h)
    · by_cases q : k < wr.heap.size
      · exact .inl (.inr ⟨h.1, q⟩)
      · exact .inr ⟨by omega, h.2⟩
theorem mine_trans {S : Nat → Prop} {w wr w3 : World} {p r : Nat} (h1 : Keeps (Mine S p r) w wr) (h2 : Keeps (Mine (More S w wr) p r) wr w3) : Keeps (Mine S p r) w w3 :=
  h1.trans h2 (fun k hk => by
    rcases hk with hk | hk | hk | hk
    · exact .inl (.inl hk)
    · exact .inl (.inr (.inl hk))
    · exact .inl (.inr (.inr hk))
    · exact .inr hk.1)
theorem mineR_trans {S : Nat → Prop} {w wr w3 : World} {q : Nat} (h1 : Keeps (MineR S q) w wr) (h2 : Keeps (MineR (More S w wr) q) wr w3) : Keeps (MineR S q) w w3 :=
  h1.trans h2 (fun k hk => by
    rcases hk with hk | hk | hk
    · exact .inl (.inl hk)
    · exact .inl (.inr hk)
    · exact .inr hk.1)
theorem StrAt.more0 {w : World} {base p r : Nat} {S : Nat → Prop} {s : SV} (h : StrAt w base S p r s) : StrAt w base (More S w w) p r s :=
  h.mono (fun _ h => .inl h) (fun k hk => hk.elim (h.ne k) (fun q => by unfold News at q; omega)) (fun k hk => hk.elim (h.slt k) (fun q => q.2))

/-! ### Strings out of numbers -/
theorem str_app (a b : List Int) : strOfNums a ++ strOfNums b = strOfNums (a ++ b) := by
  apply ByteArray.ext
  simp [strOfNums]
theorem str_size (a : List Int) : (strOfNums a).size = a.length := by
  simp [strOfNums, ByteArray.size]
theorem bnums_nums (l : List Int) (h : Byt l) : bnums (strOfNums l) = l := by
  unfold bnums strOfNums
  simp only [List.map_map]
  conv => rhs; rw [← List.map_id l]
  apply List.map_congr_left
  intro x hx
  have := h x hx
  simp
  omega
theorem byt_nums {l : List Int} (h : (l.all fun x => decide (0 ≤ x ∧ x ≤ 255)) = true) : Byt l := fun x hx => of_decide_eq_true (List.all_eq_true.1 h x hx)
theorem byt_cons {x : Int} {l : List Int} (hx : 0 ≤ x ∧ x ≤ 255) (h : Byt l) : Byt (x :: l) := fun y hy => by
  rcases List.mem_cons.1 hy with e | hy
  · rw [e]; exact hx
  · exact h y hy
theorem byt_app {l r : List Int} (h : Byt l) (k : Byt r) : Byt (l ++ r) := fun y hy => by
  rcases List.mem_append.1 hy with hy | hy
  · exact h y hy
  · exact k y hy

/-! ### Worlds in which what was there lies unturned -/
structure Same (w W : World) : Prop where
  out : Keeps (fun _ => False) w W
theorem Same.drew {w W : World} (h : Same w W) : Same w W.drew := ⟨h.out.drew⟩
theorem Same.drewN {w W : World} (h : Same w W) (n : Nat) : Same w (W.drewN n) := ⟨h.out.drewN n⟩
theorem Same.on {w W W2 : World} (h : Same w W) (h2 : Keeps (fun _ => False) W W2) : Same w W2 := ⟨h.out.trans h2 (fun _ q => .inl q)⟩
theorem Same.refl0 (w : World) : Same w w := ⟨Keeps.refl _ _⟩

/-! ### Two escapes, plainly -/
def hexC (g : Bool) (d : Int) : Int := if d < 10 then 48 + d else if g = true then 55 + d else 87 + d
theorem hexV_C (g : Bool) (d : Int) (h0 : 0 ≤ d) (h1 : d < 16) : hexV (hexC g d) = d ∧ ¬ hexC g d < 32 := by
  unfold hexC hexV
  cases g <;> simp <;> (repeat' split) <;> omega
def escB (g : Bool) (u : Int) : List Int := [92, 117, hexC g (u / 4096), hexC g (u / 256 % 16), hexC g (u / 16 % 16), hexC g (u % 16)]
theorem play_go {t t' : RV} {x : Int} {l : List Int} {i : Nat} (h : rpushV t x = (false, 0, t')) : playV t (x :: l) i = playV t' l (i + 1) := by
  have g : ¬ ((rpushV t x).2.1 ≠ 0 ∨ (rpushV t x).1 = true) := by rw [h]; simp
  show (if _ then _ else _) = _
  rw [if_neg g, h]
theorem play_no {t t' : RV} {x c : Int} {l : List Int} {i : Nat} (h : rpushV t x = (false, c, t')) (hc : c ≠ 0) : (playV t (x :: l) i).2.2.1 = false := by
  have g : (rpushV t x).2.1 ≠ 0 ∨ (rpushV t x).1 = true := by rw [h]; exact .inl hc
  show (if _ then _ else _ : Nat × Int × Bool × RV).2.2.1 = _
  rw [if_pos g, h]
theorem push_dig (t : RV) (g : Bool) (d : Int) (h0 : 0 ≤ d) (h1 : d < 16) (ho : t.Over = false) (he : t.Esc = 2) :
    rpushV t (hexC g d) = (false, if wrongV t.Wait (valH t.Hex * 16 + d) ((t.Hex.length : Int) + 1) ≠ 0 then (wrongV t.Wait (valH t.Hex * 16 + d) ((t.Hex.length : Int) + 1), t)
      else if (t.Hex.length : Int) + 1 < 4 then (0, { t with Hex := t.Hex ++ [d] })
      else if hiS t.Wait = true ∧ loS (valH t.Hex * 16 + d) = true then (0, { t with Out := t.Out ++ [joinV t.Wait (valH t.Hex * 16 + d)], Esc := 0, Hex := [], Wait := 0 })
      else if hiS (valH t.Hex * 16 + d) = true then (0, { t with Esc := 0, Hex := [], Wait := valH t.Hex * 16 + d })
      else (0, { t with Out := t.Out ++ [valH t.Hex * 16 + d], Esc := 0, Hex := [], Wait := 0 })) := by
  obtain ⟨e1, e2⟩ := hexV_C g d h0 h1
  have g1 : ¬ (t.Over = true ∨ hexC g d < 32) := fun q => q.elim (fun q => by rw [ho] at q; cases q) e2
  unfold rpushV
  rw [if_neg g1, if_pos he]
  unfold rdigitsV
  rw [e1, if_neg (show ¬ d < 0 by omega)]
def okU (W u : Int) : Prop := wrongV W (u / 4096) 1 = 0 ∧ wrongV W (u / 256) 2 = 0 ∧ wrongV W (u / 16) 3 = 0 ∧ wrongV W u 4 = 0
def RV.unit (t : RV) (u : Int) : RV :=
  if hiS t.Wait = true ∧ loS u = true then { t with Out := t.Out ++ [joinV t.Wait u], Esc := 0, Hex := [], Wait := 0 } else if hiS u = true then { t with Esc := 0, Hex := [], Wait := u } else { t with Out := t.Out ++ [u], Esc := 0, Hex := [], Wait := 0 }
theorem play_esc (t : RV) (g : Bool) (u : Int) (l : List Int) (i : Nat) (h0 : 0 ≤ u) (h1 : u < 65536) (ho : t.Over = false) (hb : t.B = []) (he : t.Esc = 0) (hh : t.Hex = []) :
    (okU t.Wait u → playV t (escB g u ++ l) i = playV (t.unit u) l (i + 6)) ∧ (¬ okU t.Wait u → (playV t (escB g u ++ l) i).2.2.1 = false) := by
  obtain ⟨O, B, E, H, W, V⟩ := t
  simp only at ho hb he hh
  subst ho hb he hh
  have p1 : rpushV ⟨O, [], 0, [], W, false⟩ 92 = (false, 0, ⟨O, [], 1, [], W, false⟩) := rfl
  have p2 : rpushV ⟨O, [], 1, [], W, false⟩ 117 = (false, 0, ⟨O, [], 2, [], W, false⟩) := rfl
  have d1 := push_dig ⟨O, [], 2, [], W, false⟩ g (u / 4096) (by omega) (by omega) rfl rfl
  have d2 := push_dig ⟨O, [], 2, [u / 4096], W, false⟩ g (u / 256 % 16) (by omega) (by omega) rfl rfl
  have d3 := push_dig ⟨O, [], 2, [u / 4096, u / 256 % 16], W, false⟩ g (u / 16 % 16) (by omega) (by omega) rfl rfl
  have d4 := push_dig ⟨O, [], 2, [u / 4096, u / 256 % 16, u / 16 % 16], W, false⟩ g (u % 16) (by omega) (by omega) rfl rfl
  have v1 : valH [] * 16 + u / 4096 = u / 4096 := by simp [valH]
  have v2 : valH [u / 4096] * 16 + u / 256 % 16 = u / 256 := by simp [valH]; omega
  have v3 : valH [u / 4096, u / 256 % 16] * 16 + u / 16 % 16 = u / 16 := by simp [valH]; omega
  have v4 : valH [u / 4096, u / 256 % 16, u / 16 % 16] * 16 + u % 16 = u := by simp [valH]; omega
  simp only [v1] at d1
  simp only [v2] at d2
  simp only [v3] at d3
  simp only [v4] at d4
  simp only [List.length_nil, List.length_cons, List.nil_append, List.cons_append] at d1 d2 d3 d4
  rw [show (((0 : Nat) : Int) + 1) = 1 from rfl] at d1
  rw [show (((0 + 1 : Nat) : Int) + 1) = 2 from rfl] at d2
  rw [show (((0 + 1 + 1 : Nat) : Int) + 1) = 3 from rfl] at d3
  rw [show (((0 + 1 + 1 + 1 : Nat) : Int) + 1) = 4 from rfl] at d4
  have hs : ∀ k, playV ⟨O, [], 0, [], W, false⟩ (escB g u ++ l) k = playV ⟨O, [], 2, [], W, false⟩ (hexC g (u / 4096) :: hexC g (u / 256 % 16) :: hexC g (u / 16 % 16) :: hexC g (u % 16) :: l) (k + 2) := fun k => (play_go p1).trans (play_go p2)
  rw [hs]
  unfold okU
  by_cases a1 : wrongV W (u / 4096) 1 = 0
  · have e1 : rpushV ⟨O, [], 2, [], W, false⟩ (hexC g (u / 4096)) = (false, 0, ⟨O, [], 2, [u / 4096], W, false⟩) := by
      rw [d1, if_neg (fun q => q a1), if_pos (by decide)]
    rw [play_go e1]
    by_cases a2 : wrongV W (u / 256) 2 = 0
    · have e2 : rpushV ⟨O, [], 2, [u / 4096], W, false⟩ (hexC g (u / 256 % 16)) = (false, 0, ⟨O, [], 2, [u / 4096, u / 256 % 16], W, false⟩) := by
        rw [d2, if_neg (fun q => q a2), if_pos (by decide)]
      rw [play_go e2]
      by_cases a3 : wrongV W (u / 16) 3 = 0
      · have e3 : rpushV ⟨O, [], 2, [u / 4096, u / 256 % 16], W, false⟩ (hexC g (u / 16 % 16)) = (false, 0, ⟨O, [], 2, [u / 4096, u / 256 % 16, u / 16 % 16], W, false⟩) := by
          rw [d3, if_neg (fun q => q a3), if_pos (by decide)]
        rw [play_go e3]
        by_cases a4 : wrongV W u 4 = 0
        · have e4 : rpushV ⟨O, [], 2, [u / 4096, u / 256 % 16, u / 16 % 16], W, false⟩ (hexC g (u % 16)) = (false, 0, RV.unit ⟨O, [], 0, [], W, false⟩ u) := by
            rw [d4, if_neg (fun q => q a4), if_neg (by decide)]
            unfold RV.unit
            (repeat' split) <;> rfl
          rw [play_go e4]
          exact ⟨fun _ => rfl, fun q => absurd ⟨a1, a2, a3, a4⟩ q⟩
        · refine ⟨fun q => absurd q.2.2.2 a4, fun _ => play_no (c := wrongV W u 4) (t' := ⟨O, [], 2, [u / 4096, u / 256 % 16, u / 16 % 16], W, false⟩) ?_ a4⟩
          rw [d4, if_pos a4]
      · refine ⟨fun q => absurd q.2.2.1 a3, fun _ => play_no (c := wrongV W (u / 16) 3) (t' := ⟨O, [], 2, [u / 4096, u / 256 % 16], W, false⟩) ?_ a3⟩
        rw [d3, if_pos a3]
    · refine ⟨fun q => absurd q.2.1 a2, fun _ => play_no (c := wrongV W (u / 256) 2) (t' := ⟨O, [], 2, [u / 4096], W, false⟩) ?_ a2⟩
      rw [d2, if_pos a2]
  · refine ⟨fun q => absurd q.1 a1, fun _ => play_no (c := wrongV W (u / 4096) 1) (t' := ⟨O, [], 2, [], W, false⟩) ?_ a1⟩
    rw [d1, if_pos a1]
theorem loS_iff (u : Int) : loS u = true ↔ 56320 ≤ u ∧ u ≤ 57343 := by simp [loS]
theorem hiS_iff (u : Int) : hiS u = true ↔ 55296 ≤ u ∧ u < 56320 := by simp [hiS]
theorem isNon_iff (c : Int) : isNon c = true ↔ (64976 ≤ c ∧ c ≤ 65007) ∨ (0 ≤ c ∧ c ≤ 1114111 ∧ (c < 55296 ∨ c > 57343)) ∧ 65534 ≤ c % 65536 := by
  simp [isNon, isScal]
theorem okU_first (u : Int) (h0 : 0 ≤ u) (h1 : u < 65536) : okU 0 u ↔ (¬ loS u = true ∧ ¬ isNon u = true) := by
  have hl1 : lowV (u / 4096) 1 = decide (u / 4096 = 13) := rfl
  have hl2 : lowV (u / 256) 2 = loS (u / 256 * 256) := rfl
  have hl3 : lowV (u / 16) 3 = loS (u / 16 * 16) := rfl
  have hl4 : lowV u 4 = loS u := rfl
  have b2 := loS_iff (u / 256 * 256)
  have b3 := loS_iff (u / 16 * 16)
  have b4 := loS_iff u
  have b5 := isNon_iff u
  have hh : hiS 0 = false := rfl
  unfold okU wrongV
  rw [hl1, hl2, hl3, hl4, hh]
  simp only [show ¬ ((0 : Int) ≠ 0) from fun q => q rfl, false_and, false_or, true_and, show ¬ ((2 : Int) ≤ 1) by decide, show (2 : Int) ≤ 2 by decide, show (2 : Int) ≤ 3 by decide, show (2 : Int) ≤ 4 by decide, Bool.false_eq_true, and_false, if_false]
  have t2 : loS (u / 256 * 256) = true → loS u = true := fun q => b4.2 (by have := b2.1 q; omega)
  have t3 : loS (u / 16 * 16) = true → loS u = true := fun q => b4.2 (by have := b3.1 q; omega)
  have t5 : u / 16 = 4061 ∨ u / 16 = 4062 → isNon u = true := fun q => b5.2 (by omega)
  have t6 : loS (u / 256 * 256) = false → loS u = true → False := fun q r => by
    have := b4.1 r
    have := b2.2 (by omega)
    rw [q] at this
    cases this
  clear b2 b3 b4 b5 hl1 hl2 hl3 hl4 hh
  by_cases c5 : u / 16 = 4061 ∨ u / 16 = 4062
  · have := t5 c5
    simp [c5, this]
    cases e2 : loS (u / 256 * 256) <;> cases e3 : loS (u / 16 * 16) <;> cases e4 : loS u <;> simp_all
  · simp [c5]
    cases e2 : loS (u / 256 * 256) <;> cases e3 : loS (u / 16 * 16) <;> cases e4 : loS u <;> cases e5 : isNon u <;> simp_all
theorem okU_second (W u : Int) (hW : hiS W = true) (h0 : 0 ≤ u) (h1 : u < 65536) : okU W u ↔ (loS u = true ∧ ¬ isNon (joinV W u) = true) := by
  have hl1 : lowV (u / 4096) 1 = decide (u / 4096 = 13) := rfl
  have hl2 : lowV (u / 256) 2 = loS (u / 256 * 256) := rfl
  have hl3 : lowV (u / 16) 3 = loS (u / 16 * 16) := rfl
  have hl4 : lowV u 4 = loS u := rfl
  have b2 := loS_iff (u / 256 * 256)
  have b3 := loS_iff (u / 16 * 16)
  have b4 := loS_iff u
  have hW0 : ¬ W = 0 := by
    have := (hiS_iff W).1 hW
    omega
  unfold okU wrongV
  rw [hl1, hl2, hl3, hl4, hW]
  simp [hW0]
  have t1 : loS u = true → u / 4096 = 13 ∧ loS (u / 256 * 256) = true ∧ loS (u / 16 * 16) = true := fun q => by
    have := b4.1 q
    exact ⟨by omega, b2.2 (by omega), b3.2 (by omega)⟩
  clear b2 b3 b4 hl1 hl2 hl3 hl4
  cases e4 : loS u <;> cases e5 : isNon (joinV W u) <;> simp_all
/-- The law, plainly. -/
def rightV (u v : Int) : Prop := (hiS u = true ∧ loS v = true) ∧ ¬ isNon (joinV u v) = true ∨ (¬ hiS u = true ∧ ¬ loS u = true ∧ ¬ hiS v = true ∧ ¬ loS v = true) ∧ ¬ isNon u = true ∧ ¬ isNon v = true
theorem play_units (g g' : Bool) (u v : Int) (hu : 0 ≤ u ∧ u < 65536) (hv : 0 ≤ v ∧ v < 65536) : (playV RV.zero (escB g u ++ (escB g' v ++ [34])) 0).2.2.1 = true ↔ rightV u v := by
  obtain ⟨f1, f2⟩ := play_esc RV.zero g u (escB g' v ++ [34]) 0 hu.1 hu.2 rfl rfl rfl rfl
  have k1 : okU RV.zero.Wait u ↔ _ := okU_first u hu.1 hu.2
  have hn : hiS u = true → ¬ isNon u = true := fun q r => by
    have := (hiS_iff u).1 q
    have := (isNon_iff u).1 r
    omega
  have hx : hiS u = true → ¬ loS u = true := fun q r => by
    have := (hiS_iff u).1 q
    have := (loS_iff u).1 r
    omega
  by_cases ok : okU RV.zero.Wait u
  · rw [f1 ok]
    obtain ⟨o1, o2⟩ := k1.1 ok
    by_cases hi : hiS u = true
    · have e : RV.zero.unit u = ⟨[], [], 0, [], u, false⟩ := by
        unfold RV.unit
        rw [if_neg (fun q => absurd (show hiS 0 = true from q.1) (by decide)), if_pos hi]
        rfl
      rw [e]
      obtain ⟨g1, g2⟩ := play_esc ⟨[], [], 0, [], u, false⟩ g' v [34] (0 + 6) hv.1 hv.2 rfl rfl rfl rfl
      have k2 : okU u v ↔ _ := okU_second u v hi hv.1 hv.2
      by_cases ok2 : okU u v
      · rw [g1 ok2]
        obtain ⟨q1, q2⟩ := k2.1 ok2
        have e2 : RV.unit ⟨[], [], 0, [], u, false⟩ v = ⟨[joinV u v], [], 0, [], 0, false⟩ := by
          unfold RV.unit
          rw [if_pos ⟨hi, q1⟩]
          rfl
        rw [e2]
        exact ⟨fun _ => .inl ⟨⟨hi, q1⟩, q2⟩, fun _ => rfl⟩
      · rw [g2 ok2]
        refine ⟨fun q => (by cases q), fun q => ?_⟩
        rcases q with q | q
        · exact absurd (k2.2 ⟨q.1.2, q.2⟩) ok2
        · exact absurd hi q.1.1
    · have e : RV.zero.unit u = ⟨[u], [], 0, [], 0, false⟩ := by
        unfold RV.unit
        rw [if_neg (fun q => absurd (show hiS 0 = true from q.1) (by decide)), if_neg hi]
        rfl
      rw [e]
      obtain ⟨g1, g2⟩ := play_esc ⟨[u], [], 0, [], 0, false⟩ g' v [34] (0 + 6) hv.1 hv.2 rfl rfl rfl rfl
      have k2 : okU 0 v ↔ _ := okU_first v hv.1 hv.2
      by_cases ok2 : okU 0 v
      · rw [g1 ok2]
        obtain ⟨q1, q2⟩ := k2.1 ok2
        by_cases hi2 : hiS v = true
        · have e2 : RV.unit ⟨[u], [], 0, [], 0, false⟩ v = ⟨[u], [], 0, [], v, false⟩ := by
            unfold RV.unit
            rw [if_neg (fun q => absurd (show hiS 0 = true from q.1) (by decide)), if_pos hi2]
          have hv0 : (0 : Int) < v := by
            have := (hiS_iff v).1 hi2
            omega
          have p : rpushV ⟨[u], [], 0, [], v, false⟩ 34 = (false, 5, ⟨[u], [], 0, [], v, false⟩) := by
            unfold rpushV
            simp [hv0]
          rw [e2, play_no p (by decide)]
          refine ⟨fun q => (by cases q), fun q => ?_⟩
          rcases q with q | q
          · exact absurd q.1.1 hi
          · exact absurd hi2 q.1.2.2.1
        · have e2 : RV.unit ⟨[u], [], 0, [], 0, false⟩ v = ⟨[u, v], [], 0, [], 0, false⟩ := by
            unfold RV.unit
            rw [if_neg (fun q => absurd (show hiS 0 = true from q.1) (by decide)), if_neg hi2]
            rfl
          rw [e2]
          exact ⟨fun _ => .inr ⟨⟨hi, o1, hi2, q1⟩, o2, q2⟩, fun _ => rfl⟩
      · rw [g2 ok2]
        refine ⟨fun q => (by cases q), fun q => ?_⟩
        rcases q with q | q
        · exact absurd q.1.1 hi
        · exact absurd (k2.2 ⟨q.1.2.2.2, q.2.2⟩) ok2
  · rw [f2 ok]
    refine ⟨fun q => (by cases q), fun q => ?_⟩
    rcases q with q | q
    · exact absurd (k1.2 ⟨hx q.1.1, hn q.1.1⟩) ok
    · exact absurd (k1.2 ⟨q.1.2.1, q.2.1⟩) ok

end Go.Proofs.Ytkpeblpgfngjcaa.Pure
