/- StrHopes: whatever was pushed and was OK can be brought to its end. -/
import Derived.Test.YtgggjfbgcadboaaPAllx1
import Derived.Test.YtgggjfbgcadboaaPAllx2
import Derived.Test.YtgggjfbgcadboaaHKit
import Derived.Test.YtgggjfbgcadboaaLUtf
import Derived.Test.YtgggjfbgcadboaaLRef
import Derived.Test.YtgggjfbgcadboaaH12Plays
import Derived.Test.YtgggjfbgcadboaaH12U
import Derived.Test.YtgggjfbgcadboaaH12M
import Derived.Outline
import Derived.OwnWalk
import Derived.Deep.RegionLaw
import Derived.Deep.RegionHeld3
namespace Go.Proofs.Ytgggjfbgcadboaa.Pure
open Go.RowKit Go.Proofs.Ytgggjfbgcadboaa.PAll Go.Proofs.YtgggjfbgcadboaaW.PrintWords Go.Proofs.YtgggjfbgcadboaaW.PrintLast Go.Proofs.YtgggjfbgcadboaaW.PrintMore
set_option linter.unusedVariables false
set_option linter.unusedSimpArgs false

theorem Both.left2 {P : Program} {f : Nat} {args : Array Value} {v : Value} {w0 w : World} {p r q : Nat} {s : SV} {t : RV} {F : SV → Prop} (h : Both w0 w p r q s t)
    (hc : ∀ S, StrAt w w0.heap.size S p r s → Calls P f args w fun e w' => ∃ s', e = .returned v ∧ Keeps (Mine S p r) w w' ∧ StrAt w' w0.heap.size (More S w w') p r s' ∧ F s') :
    Calls P f args w fun e w' => ∃ s', e = .returned v ∧ Both w0 w' p r q s' t ∧ F s' := by
  obtain ⟨S1, S2, h1, h2, h3, h4, h5, h6, h7⟩ := h.row
  refine (hc S1 h1).mono ?_
  rintro e w' ⟨s', rfl, hk, hs, hF⟩
  have hb := h.old.size
  refine ⟨s', rfl, ⟨⟨More S1 w w', S2, hs, h2.keep hk ?_ ?_, ⟨h3.1, h3.2.1, ?_⟩, h4, ?_, ?_, h7⟩, h.old.trans (hk.below ?_ hb)⟩, hF⟩
  · rintro (e | e | e)
    · exact h3.1 e
    · exact h3.2.1 e
    · exact h3.2.2 e
  · rintro k hS (e | e | e)
    · exact h4.1 (e ▸ hS)
    · exact h4.2 (e ▸ hS)
    · exact h5 k e hS
  · rintro (e | e)
    · exact h3.2.2 e
    · have := e.1
      have := h2.lt
      omega
  · rintro k (e | e) hS
    · exact h5 k e hS
    · have := e.1
      have := h2.slt k hS
      omega
  · rintro k (e | e)
    · exact h6 k e
    · have := e.1
      omega
  · rintro k (e | e | e)
    · exact e ▸ h1.base_.2.1
    · exact e ▸ h1.base_.2.2
    · exact h6 k e

/-! ### StrHopes, walked -/
theorem over_push (t : RV) (x : Int) : (rpushV t x).2.2.Over = (t.Over || (rpushV t x).1) := by
  unfold rpushV
  split
  · simp
  · rename_i h
    have ho : t.Over = false := by
      cases e : t.Over with
      | false => rfl
      | true => exact absurd (.inl e) h
    split
    · simp only [Bool.or_false]
      unfold rdigitsV
      (repeat' split) <;> rfl
    split
    · simp only [Bool.or_false]
      unfold rescapeV
      (repeat' split) <;> rfl
    split
    · simp only [Bool.or_false]
      unfold rbytesV
      (repeat' split) <;> rfl
    (repeat' split) <;> simp [ho, RV.say]
theorem contV_len : ∀ (n : Nat) (b : List Int), (contV n b).length ≤ n
  | 0, b => by simp [contV]
  | n + 1, b => by
    unfold contV
    split
    · have := contV_len n (b ++ [nextB b])
      simp
      omega
    · simp
theorem moreL_len {m : Nat} {s : SV} {t : RV} (h : Sim m s t) : 1 ≤ (moreL t).length ∧ (moreL t).length ≤ 20 := by
  have h3 := contV_len 3 t.B
  have h4 : (fourL t.Hex).length ≤ 8 := by
    unfold fourL halfL
    (repeat' split) <;> simp
  have h5 := h.hexl
  unfold moreL
  split
  · simp; omega
  split
  · unfold pairL
    split
    · simp
    split
    · simp
    · simp; omega
  split
  · simp
  split
  · simp; omega
  · simp
set_option maxHeartbeats 4000000 in
set_option maxRecDepth 100000 in
theorem hopes_long (A : Option Addr) (c : Nat) (l : List Int) (w : World) (hl : (80 : Int) < (l.length : Int)) :
    Calls Try.prog 4 #[.slice A l.length c] w fun e w' => e = .returned (.bool true) ∧ Below w.heap.size w w' := by
  go_enter Try.func4, Try.ntmps4
  go_wp2_with (first
    | (go_at_call 8; refine (new_any w.heap.size _ (Nat.le_refl _)).mono ?_; rintro e w1 ⟨p1, r1, rfl, hk, hs, g1, g2⟩; have HK1 := Aside0.mk hk; clear hk hs g1 g2)
    | (go_at_call 9; refine (awake_any _).mono ?_; rintro e w2 ⟨rfl, hk⟩; have HK2 := Aside0.mk hk; clear hk))
  go_ret
  exact ⟨rfl, ((HK1.out.alloc _).trans HK2.out (fun _ q => q.elim)).below (fun _ q => q.elim) (Nat.le_refl _)⟩
set_option maxHeartbeats 4000000 in
set_option maxRecDepth 100000 in
theorem hopes_short (A : Option Addr) (c : Nat) (l : List Int) (w : World) (hr : Kd.C (Kd.int .u8) w A l.length l) (hby : Byt l) (hl : ¬ (80 : Int) < (l.length : Int)) :
    Calls Try.prog 4 #[.slice A l.length c] w fun e w' => e = .returned (.bool true) ∧ Below w.heap.size w w' := by
  have hl' : decide ((80 : Int) < (l.length : Int)) = false := decide_eq_false hl
  have HR := Aside0.mk hr
  have HY := Aside0.mk hby
  clear hr hby
  go_enter Try.func4, Try.ntmps4
  go_wp2_with (go_at_call 8; refine (new_any w.heap.size _ (Nat.le_refl _)).mono ?_; rintro e w1 ⟨p, r, rfl, hk, hs, g1, g2⟩; have HK1 := Aside0.mk hk; have HS1 := Aside0.mk hs; clear hk hs g1 g2)
  go_loopw [5] (fun i wr => ∃ (k : Nat) (s' : SV) (t' : RV), k ≤ l.length ∧ i = .int .i64 k ∧ Aside0 (Both w wr p r w1.heap.size s' t') ∧ Aside0 (Sim k s' t') ∧ Aside0 (HexOk t' ∧ t'.Over = false)) (fun i _ => l.length - (intOf i).toNat)
  case atStart =>
    have hlt := HS1.out.lt
    have hk := (Keeps.refl (fun _ => False) w1).alloc (.cells #[.slice none 0 0, .slice none 0 0, .int .i64 0, .slice none 0 0, .int .u16 0, .bool false] 30)
    exact ⟨0, SV.zero, RV.zero, Nat.zero_le _, rfl, ⟨⟨_, _, HS1.out.keep hk id id (fun _ q => q.elim), ref_new w.heap.size w1 HK1.out.size, ⟨by omega, by omega, id⟩, ⟨id, id⟩, fun _ q => q.elim, fun _ q => q.elim, fun _ q => q.elim⟩, ((HK1.out.alloc _).below (fun _ q => q.elim) (Nat.le_refl _))⟩, ⟨Sim.zero 0⟩, ⟨fun q => absurd rfl q, rfl⟩⟩
  case round =>
    obtain ⟨k, s', t', hk, rfl, HA, HM, HX⟩ := hrel
    by_cases hlt : k < l.length
    · obtain ⟨ad, rfl, hcell⟩ := cell_of_row_b HR.out k hlt
      have hx : 0 ≤ l.getD k 0 ∧ l.getD k 0 ≤ 255 := HY.out _ (by rw [List.getD_eq_getElem?_getD, List.getElem?_eq_getElem hlt]; exact List.getElem_mem hlt)
      obtain ⟨x, hx0⟩ : ∃ x, l.getD k 0 = x := ⟨_, rfl⟩
      rw [hx0] at hx hcell
      have hcx := hcell wr HA.out.old
      have HC := Aside0.mk hcell
      obtain ⟨tt, hT, e1, e2, hsim⟩ := sim_step HM.out x hx.1 hx.2
      have hho := over_push t' x
      rw [HX.out.2, Bool.false_or] at hho
      have hhx := hexok_push HM.out HX.out.1 x
      have hc := HA.out.left (fun S hS => push_any w.heap.size p r (0 + 5) S s' x tt wr hS (HM.out.okS (by omega)) hx hT)
      have hd := fun W (hW : Both w W p r w1.heap.size (pushV s' x tt).2.2 t') => hW.right (fun S hS => rpush_any w.heap.size w1.heap.size S t' x W hS (HM.out.okR (by omega)) hx)
      rw [e1, e2] at hc
      obtain ⟨tn, htn⟩ : ∃ y, (rpushV t' x).2.2 = y := ⟨_, rfl⟩
      obtain ⟨cq, hcq⟩ : ∃ y, (rpushV t' x).2.1 = y := ⟨_, rfl⟩
      obtain ⟨ov, hov⟩ : ∃ y, (rpushV t' x).1 = y := ⟨_, rfl⟩
      obtain ⟨sn, hsn⟩ : ∃ y, (pushV s' x tt).2.2 = y := ⟨_, rfl⟩
      rw [htn, hsn] at hsim
      rw [hcq, hov, hsn] at hc
      rw [htn] at hhx
      rw [htn, hov] at hho
      simp only [htn, hcq, hov, hsn] at hd
      have HP := Aside0.mk hc
      have HQ := Aside0.mk hd
      have HN := Aside0.mk hsim
      have HO := Aside0.mk (And.intro hhx hho)
      clear hc hd hsim hT e1 e2 htn hcq hov hsn hx0 hcell hx hhx hho
      cases ov with
      | true =>
        go_wp2_with (first
          | (go_at_call 10; refine HP.out.mono ?_; rintro e w3 ⟨rfl, h3⟩; have hcx3 := HC.out w3 h3.old; have H3 := Aside0.mk h3; clear h3)
          | (go_at_call 11; refine (HQ.out w3 H3.out).mono ?_; rintro e w4 ⟨rfl, h4⟩; have H4 := Aside0.mk h4; clear h4)
          | (go_at_call 9; refine (awake_any _).mono ?_; rintro e w5 ⟨rfl, hk⟩; have HK5 := Aside0.mk hk; clear hk))
        go_ret
        exact ⟨rfl, H4.out.old.trans (HK5.out.below (fun _ q => q.elim) H4.out.old.size)⟩
      | false =>
        go_wp2_with (first
          | (go_at_call 10; refine HP.out.mono ?_; rintro e w3 ⟨rfl, h3⟩; have hcx3 := HC.out w3 h3.old; have H3 := Aside0.mk h3; clear h3)
          | (go_at_call 11; refine (HQ.out w3 H3.out).mono ?_; rintro e w4 ⟨rfl, h4⟩; have H4 := Aside0.mk h4; clear h4))
        go_roundw
        case rel => exact ⟨k + 1, sn, tn, by omega, by go_num, ⟨H4.out⟩, ⟨HN.out⟩, ⟨HO.out⟩⟩
        case measure => simp [intOf]; omega
    · have hl2 : decide ((k : Int) < (l.length : Int)) = false := decide_eq_false (by omega)
      obtain ⟨S1, S2, h1, h2, _⟩ := HA.out.row
      have hmo := rmore_any w.heap.size w1.heap.size S2 t' wr h2 (HM.out.okR (by omega)) HM.out.escs HX.out.2
      have hen := hopes_val HM.out HX.out.1 HX.out.2
      have hby := moreL_byt t' HM.out.byt
      have hln := moreL_len HM.out
      obtain ⟨L, hL⟩ : ∃ L, moreL t' = L := ⟨_, rfl⟩
      rw [hL] at hmo hen hby hln
      obtain ⟨X, hX⟩ : ∃ X, strOfNums L = X := ⟨_, rfl⟩
      have hXs : X.size = L.length := by rw [← hX, str_size]
      obtain ⟨tz, htz⟩ := hen 0
      have hbn := bnums_nums L hby
      rw [hX] at hmo hbn
      have hpl := fun W (hW : Both w W p r w1.heap.size s' t') => hW.left2 (F := fun _ => True) (fun S hS => (play_any w.heap.size p r k S s' t' X W hS HM.out (by omega)).mono (fun e w' ⟨s2, q1, q2, q3, q4⟩ => ⟨s2, q1, q2, q3, trivial⟩))
      rw [hbn, htz] at hpl
      have hL2 : 1 ≤ L.length ∧ L.length ≤ 20 := hln
      have HPL := Aside0.mk hpl
      have HMO := Aside0.mk hmo
      clear hpl hmo hen hby hln hL hX htz hbn h1 h2
      go_wp2_with (first
        | (go_at_call 17; refine HMO.out.mono ?_; rintro e w3 ⟨rfl, h3⟩; have H3 := Aside0.mk (HA.out.same ⟨h3⟩); clear h3)
        | (go_at_call 18; refine (HPL.out w3 H3.out).mono ?_; rintro e w4 ⟨s4, rfl, h4, _⟩; have H4 := Aside0.mk h4; clear h4)
        | (go_at_call 9; refine (awake_any _).mono ?_; rintro e w5 ⟨rfl, hk⟩; have HK5 := Aside0.mk hk; clear hk))
      go_ret
      exact ⟨rfl, H4.out.old.trans (HK5.out.below (fun _ q => q.elim) H4.out.old.size)⟩

theorem orthoepylaw12_StrHopes.walk (a0 : Option Addr) (len0 cap0 : Nat) (z0 : List Int) (w : World) (w0 : (a0 = none ∧ len0 = 0 ∧ cap0 = 0 ∧ z0 = []) ∨
    ∃ x, a0 = some x ∧ len0 ≤ cap0 ∧ cap0 ≤ maxLen ∧ z0.length = cap0 ∧ (∀ i, i < z0.length → w.cell? (x.add i) = some (.int .u8 (z0.getD i 0))) ∧ ∀ n ∈ z0, (Lit.int .u8 n).wf = true) (y0 : len0 * 1 ≤ 140737488351232) :
    Calls Try.prog 4 #[.slice a0 len0 cap0] w fun e w' => e = .returned (.bool true) ∧ Below w.heap.size w w' := by
  obtain ⟨l0, rfl, hr0, hm0, hw0, hc0⟩ := ReadsInt.ofRowC w0
  by_cases hl : (80 : Int) < (l0.length : Int)
  · exact hopes_long a0 cap0 l0 w hl
  · exact hopes_short a0 cap0 l0 w (Kd.C_of_reads (d := (0 : Int)) (h1 := fun _ => rfl) hr0) (byt_wf hw0) hl

end Go.Proofs.Ytgggjfbgcadboaa.Pure
