/- StrPlays. -/
import Derived.Test.YtgggjfbgcadboaaPAllx1
import Derived.Test.YtgggjfbgcadboaaPAllx2
import Derived.Test.YtgggjfbgcadboaaHKit
import Derived.Test.YtgggjfbgcadboaaLUtf
import Derived.Test.YtgggjfbgcadboaaLRef
import Derived.Test.YtgggjfbgcadboaaH12P
import Derived.Outline
import Derived.OwnWalk
import Derived.Deep.RegionLaw
import Derived.Deep.RegionHeld3
namespace Go.Proofs.Ytgggjfbgcadboaa.Pure
open Go.RowKit Go.Proofs.Ytgggjfbgcadboaa.PAll Go.Proofs.YtgggjfbgcadboaaW.PrintWords Go.Proofs.YtgggjfbgcadboaaW.PrintLast Go.Proofs.YtgggjfbgcadboaaW.PrintMore
set_option linter.unusedVariables false
set_option linter.unusedSimpArgs false

/-! ### StrPlays, walked -/
structure Same (w W : World) : Prop where
  out : Keeps (fun _ => False) w W
theorem Same.drew {w W : World} (h : Same w W) : Same w W.drew := ⟨h.out.drew⟩
theorem Same.drewN {w W : World} (h : Same w W) (n : Nat) : Same w (W.drewN n) := ⟨h.out.drewN n⟩
theorem Same.on {w W W2 : World} (h : Same w W) (h2 : Keeps (fun _ => False) W W2) : Same w W2 := ⟨h.out.trans h2 (fun _ q => .inl q)⟩
theorem cell_of_row_b {A : Option Addr} {l : List Int} {w : World} (hr : Kd.C (Kd.int .u8) w A l.length l) (k : Nat) (hk : k < l.length) :
    ∃ ad, A = some ad ∧ ∀ W, Below w.heap.size w W → W.cell? (ad.add k) = some (.int .u8 (l.getD k 0)) := by
  obtain ⟨_, _, h⟩ := Kd.reads_of_C (enc := Value.int .u8) (d := (0 : Int)) (h1 := fun _ => rfl) hr
  obtain ⟨ad, e, hc⟩ := h (by omega)
  exact ⟨ad, e, fun W hB => pw_cell_below hB (hc k hk)⟩
/-- The two strings, apart from each other, and beyond what was there. -/
structure Both (w0 w : World) (p r q : Nat) (s : SV) (t : RV) : Prop where
  row : ∃ S1 S2, StrAt w w0.heap.size S1 p r s ∧ RefAt w w0.heap.size S2 q t ∧ (q ≠ p ∧ q ≠ r ∧ ¬ S1 q) ∧ (¬ S2 p ∧ ¬ S2 r) ∧ (∀ k, S1 k → ¬ S2 k) ∧ (∀ k, S1 k → w0.heap.size ≤ k) ∧ ∀ k, S2 k → w0.heap.size ≤ k
  old : Below w0.heap.size w0 w
theorem Both.left {P : Program} {f : Nat} {args : Array Value} {v : Value} {w0 w : World} {p r q : Nat} {s s' : SV} {t : RV} (h : Both w0 w p r q s t)
    (hc : ∀ S, StrAt w w0.heap.size S p r s → Calls P f args w fun e w' => e = .returned v ∧ Keeps (Mine S p r) w w' ∧ StrAt w' w0.heap.size (More S w w') p r s') :
    Calls P f args w fun e w' => e = .returned v ∧ Both w0 w' p r q s' t := by
  obtain ⟨S1, S2, h1, h2, h3, h4, h5, h6, h7⟩ := h.row
  refine (hc S1 h1).mono ?_
  rintro e w' ⟨rfl, hk, hs⟩
  have hb := h.old.size
  refine ⟨rfl, ⟨More S1 w w', S2, hs, h2.keep hk ?_ ?_, ⟨h3.1, h3.2.1, ?_⟩, h4, ?_, ?_, h7⟩, h.old.trans (hk.below ?_ hb)⟩
  · rintro (e | e | e)
    · exact h3.1 e
    · exact h3.2.1 e
    · exact h3.2.2 e
  · rintro k hS (e | e | e)
    · exact h4.1 (e ▸ hS)
    · exact h4.2 (e ▸ hS)
    · exact h5 k e hS
  · rintro (e | e)
    · exact h3.2.2 e
    · have := e.1
      have := h2.lt
      omega
  · rintro k (e | e) hS
    · exact h5 k e hS
    · have := e.1
      have := h2.slt k hS
      omega
  · rintro k (e | e)
    · exact h6 k e
    · have := e.1
      omega
  · rintro k (e | e | e)
    · exact e ▸ h1.base_.2.1
    · exact e ▸ h1.base_.2.2
    · exact h6 k e
theorem Both.right {P : Program} {f : Nat} {args : Array Value} {v : Value} {w0 w : World} {p r q : Nat} {s : SV} {t t' : RV} (h : Both w0 w p r q s t)
    (hc : ∀ S, RefAt w w0.heap.size S q t → Calls P f args w fun e w' => e = .returned v ∧ Keeps (MineR S q) w w' ∧ RefAt w' w0.heap.size (More S w w') q t') :
    Calls P f args w fun e w' => e = .returned v ∧ Both w0 w' p r q s t' := by
  obtain ⟨S1, S2, h1, h2, h3, h4, h5, h6, h7⟩ := h.row
  refine (hc S2 h2).mono ?_
  rintro e w' ⟨rfl, hk, hs⟩
  have hb := h.old.size
  refine ⟨rfl, ⟨S1, More S2 w w', h1.keep hk ?_ ?_ ?_, hs, h3, ⟨?_, ?_⟩, ?_, h6, ?_⟩, h.old.trans (hk.below ?_ hb)⟩
  · rintro (e | e)
    · exact h3.1 e.symm
    · exact h4.1 e
  · rintro (e | e)
    · exact h3.2.1 e.symm
    · exact h4.2 e
  · rintro k hS (e | e)
    · exact h3.2.2 (e ▸ hS)
    · exact h5 k hS e
  · rintro (e | e)
    · exact h4.1 e
    · have := e.1
      have := h1.lt
      omega
  · rintro (e | e)
    · exact h4.2 e
    · have := e.1
      have := h1.lt
      omega
  · rintro k hS (e | e)
    · exact h5 k hS e
    · have := e.1
      have := h1.slt k hS
      omega
  · rintro k (e | e)
    · exact h7 k e
    · have := e.1
      omega
  · rintro k (e | e)
    · exact e ▸ h2.base_.2
    · exact h7 k e
theorem Both.same {w0 w W : World} {p r q : Nat} {s : SV} {t : RV} (h : Both w0 w p r q s t) (hs : Same w W) : Both w0 W p r q s t := by
  obtain ⟨S1, S2, h1, h2, h3, h4, h5, h6, h7⟩ := h.row
  exact ⟨⟨S1, S2, h1.keep hs.out id id (fun _ _ => id), h2.keep hs.out id (fun _ _ => id), h3, h4, h5, h6, h7⟩, h.old.trans (hs.out.below (fun _ q => q.elim) h.old.size)⟩
/-- What the law reads behind each byte. -/
theorem Both.reads {w0 w : World} {p r q m : Nat} {s : SV} {t : RV} (h : Both w0 w p r q s t) (hm : Sim m s t) (hm2 : m ≤ 200000) (W : World) (hW : Same w W) :
    (Calls Try.prog 12 #[.pointer (some ⟨p, 0, none⟩)] W fun e w' => e = .returned (.int .i64 (t.Out.length : Int)) ∧ w' = W) ∧
    (Calls Try.prog 13 #[.pointer (some ⟨p, 0, none⟩)] W fun e w' => e = .returned (.bool t.inside) ∧ w' = W) ∧
    (Calls Try.prog 15 #[.pointer (some ⟨p, 0, none⟩)] W fun e w' => e = .returned (.string (strOfNums (textV t.Out))) ∧ w' = W) ∧
    (Calls Try.prog 14 #[.pointer (some ⟨q, 0, none⟩)] W fun e w' => e = .returned (.bool t.inside) ∧ w' = W) ∧
    (Calls Try.prog 16 #[.pointer (some ⟨q, 0, none⟩)] W fun e w' => e = .returned (.string (strOfNums (textV t.Out))) ∧ Same w w') ∧
    ∃ A c, W.cell? ⟨q, 0, none⟩ = some (.slice A t.Out.length c) := by
  obtain ⟨S1, S2, h1, h2, _⟩ := (h.same hW).row
  have a1 := len_any _ p r S1 s W h1
  have a2 := inside_any _ p r S1 s W h1
  have a3 := text_any _ p r S1 s W h1
  rw [hm.n] at a1
  rw [hm.inside] at a2
  rw [hm.text] at a3
  obtain ⟨A0, c0, A1, c1, A2, c2, g1, _⟩ := h2.row
  exact ⟨a1, a2, a3, rinside_any _ q S2 t W h2, (rtext_any _ q S2 t W h2 hm.r32 (by have := hm.len; omega)).mono (fun e w' ⟨e1, e2, _⟩ => ⟨e1, hW.on e2⟩), A0, c0, (blk_cell g1 0).trans rfl⟩
theorem Both.cell {w0 w : World} {p r q : Nat} {s : SV} {t : RV} (h : Both w0 w p r q s t) : ∃ A c, ∀ W, Same w W → W.cell? ⟨q, 0, none⟩ = some (.slice A t.Out.length c) := by
  obtain ⟨S1, S2, h1, h2, _⟩ := h.row
  obtain ⟨A0, c0, A1, c1, A2, c2, g1, _⟩ := h2.row
  exact ⟨A0, c0, fun W hW => hW.out.cell ((blk_cell g1 0).trans rfl) id⟩

set_option maxHeartbeats 4000000 in
set_option maxRecDepth 100000 in
theorem plays_long (A : Option Addr) (c : Nat) (l : List Int) (w : World) (hl : (300 : Int) < (l.length : Int)) :
    Calls Try.prog 3 #[.slice A l.length c] w fun e w' => e = .returned (.bool true) ∧ Below w.heap.size w w' := by
  go_enter Try.func3, Try.ntmps3
  go_wp2_with (first
    | (go_at_call 8; refine (new_any w.heap.size _ (Nat.le_refl _)).mono ?_; rintro e w1 ⟨p1, r1, rfl, hk, hs, g1, g2⟩; have HK1 := Aside0.mk hk; clear hk hs g1 g2)
    | (go_at_call 9; refine (awake_any _).mono ?_; rintro e w2 ⟨rfl, hk⟩; have HK2 := Aside0.mk hk; clear hk))
  go_ret
  exact ⟨rfl, ((HK1.out.alloc _).trans HK2.out (fun _ q => q.elim)).below (fun _ q => q.elim) (Nat.le_refl _)⟩
set_option maxHeartbeats 4000000 in
set_option maxRecDepth 100000 in
theorem plays_short (A : Option Addr) (c : Nat) (l : List Int) (w : World) (hr : Kd.C (Kd.int .u8) w A l.length l) (hby : Byt l) (hl : ¬ (300 : Int) < (l.length : Int)) :
    Calls Try.prog 3 #[.slice A l.length c] w fun e w' => e = .returned (.bool true) ∧ Below w.heap.size w w' := by
  have hl' : decide ((300 : Int) < (l.length : Int)) = false := decide_eq_false hl
  have HR := Aside0.mk hr
  have HY := Aside0.mk hby
  clear hr hby
  go_enter Try.func3, Try.ntmps3
  go_wp2_with (go_at_call 8; refine (new_any w.heap.size _ (Nat.le_refl _)).mono ?_; rintro e w1 ⟨p, r, rfl, hk, hs, g1, g2⟩; have HK1 := Aside0.mk hk; have HS1 := Aside0.mk hs; clear hk hs g1 g2)
  go_loopw [5] (fun i wr => ∃ (k : Nat) (s' : SV) (t' : RV), k ≤ l.length ∧ i = .int .i64 k ∧ Aside0 (Both w wr p r w1.heap.size s' t') ∧ Aside0 (Sim k s' t')) (fun i _ => l.length - (intOf i).toNat)
  case atStart =>
    have hlt := HS1.out.lt
    have hk := (Keeps.refl (fun _ => False) w1).alloc (.cells #[.slice none 0 0, .slice none 0 0, .int .i64 0, .slice none 0 0, .int .u16 0, .bool false] 30)
    exact ⟨0, SV.zero, RV.zero, Nat.zero_le _, rfl, ⟨⟨_, _, HS1.out.keep hk id id (fun _ q => q.elim), ref_new w.heap.size w1 HK1.out.size, ⟨by omega, by omega, id⟩, ⟨id, id⟩, fun _ q => q.elim, fun _ q => q.elim, fun _ q => q.elim⟩, ((HK1.out.alloc _).below (fun _ q => q.elim) (Nat.le_refl _))⟩, ⟨Sim.zero 0⟩⟩
  case round =>
    obtain ⟨k, s', t', hk, rfl, HA, HM⟩ := hrel
    by_cases hlt : k < l.length
    · obtain ⟨ad, rfl, hcell⟩ := cell_of_row_b HR.out k hlt
      have hx : 0 ≤ l.getD k 0 ∧ l.getD k 0 ≤ 255 := HY.out _ (by rw [List.getD_eq_getElem?_getD, List.getElem?_eq_getElem hlt]; exact List.getElem_mem hlt)
      obtain ⟨x, hx0⟩ : ∃ x, l.getD k 0 = x := ⟨_, rfl⟩
      rw [hx0] at hx hcell
      have hcx := hcell wr HA.out.old
      have HC := Aside0.mk hcell
      obtain ⟨tt, hT, e1, e2, hsim⟩ := sim_step HM.out x hx.1 hx.2
      have hc := HA.out.left (fun S hS => push_any w.heap.size p r (0 + 5) S s' x tt wr hS (HM.out.okS (by omega)) hx hT)
      have hd := fun W (hW : Both w W p r w1.heap.size (pushV s' x tt).2.2 t') => hW.right (fun S hS => rpush_any w.heap.size w1.heap.size S t' x W hS (HM.out.okR (by omega)) hx)
      rw [e1, e2] at hc
      obtain ⟨tn, htn⟩ : ∃ y, (rpushV t' x).2.2 = y := ⟨_, rfl⟩
      obtain ⟨cq, hcq⟩ : ∃ y, (rpushV t' x).2.1 = y := ⟨_, rfl⟩
      obtain ⟨ov, hov⟩ : ∃ y, (rpushV t' x).1 = y := ⟨_, rfl⟩
      obtain ⟨sn, hsn⟩ : ∃ y, (pushV s' x tt).2.2 = y := ⟨_, rfl⟩
      rw [htn, hsn] at hsim
      rw [hcq, hov, hsn] at hc
      simp only [htn, hcq, hov, hsn] at hd
      have HP := Aside0.mk hc
      have HQ := Aside0.mk hd
      have HN := Aside0.mk hsim
      clear hc hd hsim hT e1 e2 htn hcq hov hsn hx0 hcell hx
      go_wp2_with (first
        | (go_at_call 10; refine HP.out.mono ?_; rintro e w3 ⟨rfl, h3⟩; have hcx3 := HC.out w3 h3.old; have H3 := Aside0.mk h3; clear h3)
        | (go_at_call 11; refine (HQ.out w3 H3.out).mono ?_; rintro e w4 ⟨rfl, h4⟩; have H4 := Aside0.mk h4; clear h4))
      obtain ⟨A0, c0, hcell0⟩ := H4.out.cell
      have hS : Same w4 w4 := ⟨Keeps.refl _ _⟩
      have k0 := hcell0 w4 hS
      have hrd := fun W hW => H4.out.reads HN.out (by omega) W hW
      obtain ⟨X, hX⟩ : ∃ X : ByteArray, strOfNums (textV tn.Out) = X := ⟨_, rfl⟩
      obtain ⟨I, hI⟩ : ∃ I : Bool, tn.inside = I := ⟨_, rfl⟩
      simp only [hX, hI] at hrd
      have HCELL := Aside0.mk hcell0
      have HRD := Aside0.mk hrd
      clear hcell0 hrd hX hI
      go_region_held3 (fun w' => Same w4 w' ∧ w'.cell? ⟨w1.heap.size, 0, none⟩ = some (.slice A0 tn.Out.length c0))
        (first
          | (try go_split_ands
             refine ⟨?_, HCELL.out _ ?_⟩ <;> first | assumption | (apply Same.drew; assumption) | (apply Same.drewN; assumption)))
        (first
          | (go_at_call 12; try go_split_ands; refine (HRD.out _ (by assumption)).1.mono ?_; rintro e w' ⟨rfl, rfl⟩)
          | (go_at_call 13; try go_split_ands; refine (HRD.out _ (by assumption)).2.1.mono ?_; rintro e w' ⟨rfl, rfl⟩)
          | (go_at_call 15; try go_split_ands; refine (HRD.out _ (by assumption)).2.2.1.mono ?_; rintro e w' ⟨rfl, rfl⟩)
          | (go_at_call 14; try go_split_ands; refine (HRD.out _ (by assumption)).2.2.2.1.mono ?_; rintro e w' ⟨rfl, rfl⟩)
          | (go_at_call 16; try go_split_ands; refine (HRD.out _ (by assumption)).2.2.2.2.1.mono ?_; rintro e w' ⟨rfl, hw'⟩))
      go_wp2
      go_roundw
      case rel =>
        go_split_ands
        exact ⟨k + 1, sn, tn, by omega, by go_num, ⟨H4.out.same (by assumption)⟩, ⟨HN.out⟩⟩
      case measure => simp [intOf]; omega
    · have hl2 : decide ((k : Int) < (l.length : Int)) = false := decide_eq_false (by omega)
      go_wp2_with (go_at_call 9; refine (awake_any _).mono ?_; rintro e w2 ⟨rfl, hk⟩; have HK2 := Aside0.mk hk; clear hk)
      go_ret
      exact ⟨rfl, HA.out.old.trans (HK2.out.below (fun _ q => q.elim) HA.out.old.size)⟩

theorem orthoepylaw12_StrPlays.walk (a0 : Option Addr) (len0 cap0 : Nat) (z0 : List Int) (w : World) (w0 : (a0 = none ∧ len0 = 0 ∧ cap0 = 0 ∧ z0 = []) ∨
    ∃ x, a0 = some x ∧ len0 ≤ cap0 ∧ cap0 ≤ maxLen ∧ z0.length = cap0 ∧ (∀ i, i < z0.length → w.cell? (x.add i) = some (.int .u8 (z0.getD i 0))) ∧ ∀ n ∈ z0, (Lit.int .u8 n).wf = true) (y0 : len0 * 1 ≤ 140737488351232) :
    Calls Try.prog 3 #[.slice a0 len0 cap0] w fun e w' => e = .returned (.bool true) ∧ Below w.heap.size w w' := by
  obtain ⟨l0, rfl, hr0, hm0, hw0, hc0⟩ := ReadsInt.ofRowC w0
  by_cases hl : (300 : Int) < (l0.length : Int)
  · exact plays_long a0 cap0 l0 w hl
  · exact plays_short a0 cap0 l0 w (Kd.C_of_reads (d := (0 : Int)) (h1 := fun _ => rfl) hr0) (byt_wf hw0) hl

end Go.Proofs.Ytgggjfbgcadboaa.Pure
