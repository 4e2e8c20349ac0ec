-- The machine's side of laws, written by a program of this session (wip/gen/pp.sh). Lean checks it.
import Derived.Test.YtoalfgmnikbpaaaPAllx0
import Derived.Test.YtoalfgmnikbpaaaPAllx3
import Derived.Test.YtoalfgmnikbpaaaPAllx4
import Derived.Test.YtoalfgmnikbpaaaPAllx6
import Derived.Test.YtoalfgmnikbpaaaPAllx8
namespace Go.Proofs.Ytoalfgmnikbpaaa.PAll
open Go.RowKit Go.Proofs.YtoalfgmnikbpaaaW.PrintWords Go.Proofs.YtoalfgmnikbpaaaW.PrintLast Go.Proofs.YtoalfgmnikbpaaaW.PrintMore
attribute [local go_sem] max2_int min2_int max_two min_two max_three min_three max_four min_four   -- for this text's walks alone
set_option linter.unusedVariables false
set_option linter.unusedSimpArgs false

/-! ### orthoepylaw02_Utf8Back: function 4 -/
def orthoepylaw02_Utf8Back.l0 : Nat → List Int → List Int → List Int → Int → Bool → Int → Int → Option (Bool)
  | 0, _, _, _, _, _, _, _ => none
  | k + 1, x3, x4, x5, x6, x7, x8, x9 => if x9 < (x3.length : Int) then (if 0 ≤ x9 then (if (rd x3 x9) < 128 then (orthoepylaw02_Utf8Back.l0 k x3 x4 x5 x6 x7 (wrap64 (x8 + 1)) (wrap64 (x9 + 1))) else (if (rd x3 x9) < 2048 then (orthoepylaw02_Utf8Back.l0 k x3 x4 x5 x6 x7 (wrap64 (x8 + 2)) (wrap64 (x9 + 1))) else (if (rd x3 x9) < 65536 then (orthoepylaw02_Utf8Back.l0 k x3 x4 x5 x6 x7 (wrap64 (x8 + 3)) (wrap64 (x9 + 1))) else (orthoepylaw02_Utf8Back.l0 k x3 x4 x5 x6 x7 (wrap64 (x8 + 4)) (wrap64 (x9 + 1)))))) else (none)) else (if x7 = true then (if x6 = (x4.length : Int) then ((orthoepyref07_Same.f k x5 x3).bind fun t308 => (if t308 = true then (if x8 = (x4.length : Int) then ((orthoepylaw02_awake.f).bind fun t309 => (some t309)) else (some false)) else (some false))) else (some false)) else (some false))
def orthoepylaw02_Utf8Back.f (k : Nat) (l0 : List Int) : Option (Bool) := (orthoepylaw00_Runes.f k l0).bind fun t297 => ((utf8_Text.f k t297).bind fun t300 => ((utf8_All.f k t300).bind fun bt303 => (orthoepylaw02_Utf8Back.l0 k t297 t300 bt303.1 bt303.2.1 bt303.2.2 0 0)))
theorem orthoepylaw02_Utf8Back.mono_l : ∀ k, (∀ y0 y1 y2 y3 y4 y5 y6, LeO (orthoepylaw02_Utf8Back.l0 k y0 y1 y2 y3 y4 y5 y6) (orthoepylaw02_Utf8Back.l0 (k + 1) y0 y1 y2 y3 y4 y5 y6))
  | 0 => fun _ _ _ _ _ _ _ r h => by simp [orthoepylaw02_Utf8Back.l0] at h
  | k + 1 => by
    have ih0 := orthoepylaw02_Utf8Back.mono_l k
    · intro y0 y1 y2 y3 y4 y5 y6
      unfold orthoepylaw02_Utf8Back.l0
      repeat' first
      | (with_reducible exact ih0 _ _ _ _ _ _ _)
      | (with_reducible exact orthoepylaw00_Runes.mono _ _)
      | (with_reducible exact orthoepyref07_Same.mono _ _ _)
      | (with_reducible exact utf8_All.mono _ _)
      | (with_reducible exact utf8_Text.mono _ _)
      | (with_reducible exact LeO.refl _)
      | (with_reducible exact LeO.none _)
      | (with_reducible refine LeO.ite ?_ ?_)
      | (with_reducible refine LeO.bind ?_ (fun _ => ?_))
      | exact ih0 _ _ _ _ _ _ _
      | exact orthoepylaw00_Runes.mono _ _
      | exact orthoepyref07_Same.mono _ _ _
      | exact utf8_All.mono _ _
      | exact utf8_Text.mono _ _
      | exact LeO.none _
      | refine LeO.ite ?_ ?_
      | refine LeO.bind ?_ (fun _ => ?_)
theorem orthoepylaw02_Utf8Back.mono : ∀ a0 k, LeO (orthoepylaw02_Utf8Back.f k a0) (orthoepylaw02_Utf8Back.f (k + 1) a0) := by
  intro a0 k
  have ih0 := orthoepylaw02_Utf8Back.mono_l k
  unfold orthoepylaw02_Utf8Back.f
  repeat' first
      | (with_reducible exact ih0 _ _ _ _ _ _ _)
      | (with_reducible exact orthoepylaw00_Runes.mono _ _)
      | (with_reducible exact orthoepyref07_Same.mono _ _ _)
      | (with_reducible exact utf8_All.mono _ _)
      | (with_reducible exact utf8_Text.mono _ _)
      | (with_reducible exact LeO.refl _)
      | (with_reducible exact LeO.none _)
      | (with_reducible refine LeO.ite ?_ ?_)
      | (with_reducible refine LeO.bind ?_ (fun _ => ?_))
      | exact ih0 _ _ _ _ _ _ _
      | exact orthoepylaw00_Runes.mono _ _
      | exact orthoepyref07_Same.mono _ _ _
      | exact utf8_All.mono _ _
      | exact utf8_Text.mono _ _
      | exact LeO.none _
      | refine LeO.ite ?_ ?_
      | refine LeO.bind ?_ (fun _ => ?_)
set_option maxHeartbeats 8000000 in
set_option maxRecDepth 100000 in
theorem orthoepylaw02_Utf8Back.calls (k : Nat) (A0 : Option Addr) (c0 : Nat) (l0 : List Int) (r : Bool) (w : World) (hr0 : Kd.C (Kd.int .i64) w A0 l0.length l0) (hc0 : l0.length ≤ c0) (h : orthoepylaw02_Utf8Back.f k l0 = some r) (hT_ : Aside0 (r = true)) :
    Calls Try.prog 4 #[.slice A0 l0.length c0] w fun e w' => e = .returned (.bool r) ∧ Below w.heap.size w w' := by
  have HR0 := Aside0.mk hr0
  have HC0 := Aside0.mk hc0
  clear hr0 hc0
  have HB := Aside0.mk (Below.refl w.heap.size w)
  have H : ((orthoepylaw00_Runes.f k l0).bind fun t297 => ((utf8_Text.f k t297).bind fun t300 => ((utf8_All.f k t300).bind fun bt303 => (orthoepylaw02_Utf8Back.l0 k t297 t300 bt303.1 bt303.2.1 bt303.2.2 0 0)))) = some r := h
  clear h
  replace H := Option.bind_eq_some_iff.mp H
  obtain ⟨t297, A20, H⟩ := H
  replace H : ((utf8_Text.f k t297).bind fun t300 => ((utf8_All.f k t300).bind fun bt303 => (orthoepylaw02_Utf8Back.l0 k t297 t300 bt303.1 bt303.2.1 bt303.2.2 0 0))) = some r := H
  have A2 := Aside0.mk A20
  clear A20
  replace H := Option.bind_eq_some_iff.mp H
  obtain ⟨t300, A30, H⟩ := H
  replace H : ((utf8_All.f k t300).bind fun bt303 => (orthoepylaw02_Utf8Back.l0 k t297 t300 bt303.1 bt303.2.1 bt303.2.2 0 0)) = some r := H
  have A3 := Aside0.mk A30
  clear A30
  replace H := Option.bind_eq_some_iff.mp H
  obtain ⟨⟨t303, t304, t305⟩, A40, H⟩ := H
  replace H : (orthoepylaw02_Utf8Back.l0 k t297 t300 t303 t304 t305 0 0) = some r := H
  have A4 := Aside0.mk A40
  clear A40
  have H' := Aside0.mk H
  clear H
  go_enter Try.func4, Try.ntmps4
  go_wp2_with (first | ((with_reducible refine gate_callee (f := 18) rfl ?_); refine goesL_ (some 11) rfl rfl Try.func18 (by kernel_rfl) rfl #[.slice A0 l0.length c0] rfl (by (try simp only [List.map_toArray, List.map_cons, List.map_nil]); first | done | rfl | (simp only [List.length_drop, List.length_take]; rfl)) ?_; (with_reducible refine (orthoepylaw00_Runes.calls k _ _ l0 t297 _ ?side1 ?side2 A2.out).mono ?_); (case side1 => repeat (first | exact HR0.out | (with_reducible refine Kd.C_alloc ?_ _) | (with_reducible refine Kd.C_drewN ?_ _) | (with_reducible refine Kd.C_drew ?_))); (case side2 => exact HC0.out); rintro e w5 ⟨v298, rfl, ho0, hb⟩; refine ⟨_, rfl, ?_⟩; have n0_ := Aside0.mk (Kd.R_lower ho0 (below_size (by repeat (first | (with_reducible first | exact HB.out | apply below_alloc | apply pw_below_drewN | apply below_drew1) | exact HB.out)))); have n1_ := Aside0.mk (below_step (by repeat (first | (with_reducible first | exact HB.out | apply below_alloc | apply pw_below_drewN | apply below_drew1) | exact HB.out)) hb); clear HB; have HO299 := n0_; have HB := n1_; clear n0_ n1_; (try clear hb); (try clear hb2); (try clear hk); (try clear hi); (try clear ho0); obtain ⟨Ao6, co6, eo6⟩ := Kd.R_slice HO299.out; subst eo6) | ((with_reducible refine gate_callee (f := 14) rfl ?_); refine goesL_ (some 13) rfl rfl Try.func14 (by kernel_rfl) rfl #[.slice Ao6 t297.length co6] rfl (by (try simp only [List.map_toArray, List.map_cons, List.map_nil]); first | done | rfl | (simp only [List.length_drop, List.length_take]; rfl)) ?_; (with_reducible refine (utf8_Text.calls k _ _ t297 t300 _ ?side1 ?side2 A3.out).mono ?_); (case side1 => repeat (first | exact (Kd.R_reads' HO299.out).2.2 | (with_reducible refine Kd.C_alloc ?_ _) | (with_reducible refine Kd.C_drewN ?_ _) | (with_reducible refine Kd.C_drew ?_))); (case side2 => exact (Kd.R_reads' HO299.out).2.1); rintro e w7 ⟨v301, rfl, ho0, hb⟩; refine ⟨_, rfl, ?_⟩; have n0_ := Aside0.mk (Kd.R_below (by (with_reducible repeat (first | apply Kd.R_alloc | apply Kd.R_drewN | apply Kd.R_drew)); exact HO299.out) hb); have n1_ := Aside0.mk (Kd.R_lower ho0 (below_size (by repeat (first | (with_reducible first | exact HB.out | apply below_alloc | apply pw_below_drewN | apply below_drew1) | exact HB.out)))); have n2_ := Aside0.mk (below_step (by repeat (first | (with_reducible first | exact HB.out | apply below_alloc | apply pw_below_drewN | apply below_drew1) | exact HB.out)) hb); clear HO299; clear HB; have HO299 := n0_; have HO302 := n1_; have HB := n2_; clear n0_ n1_ n2_; (try clear hb); (try clear hb2); (try clear hk); (try clear hi); (try clear ho0); obtain ⟨Ao8, co8, eo8⟩ := Kd.R_slice HO302.out; subst eo8) | ((with_reducible refine gate_callee (f := 11) rfl ?_); refine goesL_ (some 16) rfl rfl Try.func11 (by kernel_rfl) rfl #[.slice Ao8 t300.length co8] rfl (by (try simp only [List.map_toArray, List.map_cons, List.map_nil]); first | done | rfl | (simp only [List.length_drop, List.length_take]; rfl)) ?_; (with_reducible refine (utf8_All.calls k _ _ t300 t303 t304 t305 _ ?side1 ?side2 A4.out).mono ?_); (case side1 => repeat (first | exact (Kd.R_reads' HO302.out).2.2 | (with_reducible refine Kd.C_alloc ?_ _) | (with_reducible refine Kd.C_drewN ?_ _) | (with_reducible refine Kd.C_drew ?_))); (case side2 => exact (Kd.R_reads' HO302.out).2.1); rintro e w9 ⟨v306, rfl, ho0, hb⟩; refine ⟨_, rfl, ?_⟩; have n0_ := Aside0.mk (Kd.R_elder' (by (with_reducible repeat (first | apply Kd.R_alloc | apply Kd.R_drewN | apply Kd.R_drew)); exact HO299.out) (Kd.R_base ho0) hb); have n1_ := Aside0.mk (Kd.R_below (by (with_reducible repeat (first | apply Kd.R_alloc | apply Kd.R_drewN | apply Kd.R_drew)); exact HO302.out) hb); have n2_ := Aside0.mk (Kd.R_lower (Kd.R_new' ho0 (Kd.R_lt (by (with_reducible repeat (first | apply Kd.R_alloc | apply Kd.R_drewN | apply Kd.R_drew)); exact HO299.out))) (below_size (by repeat (first | (with_reducible first | exact HB.out | apply below_alloc | apply pw_below_drewN | apply below_drew1) | exact HB.out)))); have n3_ := Aside0.mk (below_step (by repeat (first | (with_reducible first | exact HB.out | apply below_alloc | apply pw_below_drewN | apply below_drew1) | exact HB.out)) hb); clear HO299; clear HO302; clear HB; have HO299 := n0_; have HO302 := n1_; have HO307 := n2_; have HB := n3_; clear n0_ n1_ n2_ n3_; (try clear hb); (try clear hb2); (try clear hk); (try clear hi); (try clear ho0)))
  go_loopg [8, 9] k (fun kq v8 v9 w' => ∃ (x8_1 : Int) (x9_1 : Int), v8 = .int .i64 x8_1 ∧ v9 = .int .i64 x9_1 ∧ Aside0 (orthoepylaw02_Utf8Back.l0 kq t297 t300 t303 t304 t305 x8_1 x9_1 = some r) ∧ Aside0 (kq ≤ k) ∧ Aside0 (Kd.R (Kd.int .i32) 21 w' w.heap.size (fun k_ => some k_ ≠ (v306 : Value).ownBlock) (.slice Ao6 t297.length co6) t297) ∧ Aside0 (Kd.R (Kd.int .u8) 5 w' w.heap.size (fun _ => True) (.slice Ao8 t300.length co8) t300) ∧ Aside0 (Kd.R (Kd.int .i32) 21 w' w.heap.size (fun k_ => some k_ ≠ ((.slice Ao6 t297.length co6) : Value).ownBlock) v306 t303) ∧ Aside0 (Below w.heap.size w w'))
  case atStart => exact ⟨(0), (0), (by first | rfl | (simp; done) | (simp [*]; done)), (by first | rfl | (simp; done) | (simp [*]; done)), H', ⟨Nat.le_refl _⟩, ⟨by (with_reducible repeat (first | apply Kd.R_alloc | apply Kd.R_drewN | apply Kd.R_drew)); exact Kd.R_mono HO299.out (fun _ hk => hk.2)⟩, ⟨by (with_reducible repeat (first | apply Kd.R_alloc | apply Kd.R_drewN | apply Kd.R_drew)); exact HO302.out⟩, ⟨by (with_reducible repeat (first | apply Kd.R_alloc | apply Kd.R_drewN | apply Kd.R_drew)); exact Kd.R_mono HO307.out (fun _ hk => hk.2)⟩, ⟨by repeat (first | (with_reducible first | exact HB.out | apply below_alloc | apply pw_below_drewN | apply below_drew1) | exact HB.out)⟩⟩
  case round =>
    clear H'
    try clear c1
    try clear p2
    try clear c4
    obtain ⟨x8_1, x9_1, rfl, rfl, HA, HK1, HO_3, HO_4, HO_5, HB⟩ := hrel
    cases gk with
    | zero => exact absurd HA.out (by simp [orthoepylaw02_Utf8Back.l0])
    | succ k1 =>
      have H := HA.out
      clear HA
      simp only [orthoepylaw02_Utf8Back.l0] at H
      by_cases c10 : x9_1 < (t297.length : Int)
      · rw [if_pos c10] at H
        have c10b0 : decide (x9_1 < (t297.length : Int)) = true := decide_eq_true c10
        clear c10
        by_cases c11 : 0 ≤ x9_1
        · rw [if_pos c11] at H
          have c11b0 : decide (0 ≤ x9_1) = true := decide_eq_true c11
          clear c11
          by_cases c12 : (rd t297 x9_1) < 128
          · rw [if_pos c12] at H
            have c12b0 : decide ((rd t297 x9_1) < 128) = true := decide_eq_true c12
            clear c12
            have H' := Aside0.mk H
            clear H
            have p310 : 0 ≤ (x9_1 : Int) := of_decide_eq_true (by first | (with_reducible assumption) | assumption)
            have q310 : x9_1 < (t297.length : Int) := of_decide_eq_true (by first | (with_reducible assumption) | assumption)
            obtain ⟨ad310, e310, hx310_0⟩ := Kd.at_int (Kd.R_reads' HO_3.out).2.2 x9_1 p310 q310
            cases e310
            replace p310 := eq_true p310
            replace q310 := eq_true q310
            go_wp2
            go_roundg k1
            case measure => have := HK1.out; omega
            case rel => exact ⟨(wrap64 (x8_1 + 1)), (wrap64 (x9_1 + 1)), (by first | rfl | (simp; done) | (simp [*]; done)), (by first | rfl | (simp; done) | (simp [*]; done)), H', ⟨by have := HK1.out; omega⟩, ⟨by (with_reducible repeat (first | apply Kd.R_alloc | apply Kd.R_drewN | apply Kd.R_drew)); exact HO_3.out⟩, ⟨by (with_reducible repeat (first | apply Kd.R_alloc | apply Kd.R_drewN | apply Kd.R_drew)); exact HO_4.out⟩, ⟨by (with_reducible repeat (first | apply Kd.R_alloc | apply Kd.R_drewN | apply Kd.R_drew)); exact HO_5.out⟩, ⟨by repeat (first | (with_reducible first | exact HB.out | apply below_alloc | apply pw_below_drewN | apply below_drew1) | exact HB.out)⟩⟩
          · rw [if_neg c12] at H
            have c12b0 : decide ((rd t297 x9_1) < 128) = false := decide_eq_false c12
            clear c12
            by_cases c13 : (rd t297 x9_1) < 2048
            · rw [if_pos c13] at H
              have c13b0 : decide ((rd t297 x9_1) < 2048) = true := decide_eq_true c13
              clear c13
              have H' := Aside0.mk H
              clear H
              have p310 : 0 ≤ (x9_1 : Int) := of_decide_eq_true (by first | (with_reducible assumption) | assumption)
              have q310 : x9_1 < (t297.length : Int) := of_decide_eq_true (by first | (with_reducible assumption) | assumption)
              obtain ⟨ad310, e310, hx310_0⟩ := Kd.at_int (Kd.R_reads' HO_3.out).2.2 x9_1 p310 q310
              cases e310
              replace p310 := eq_true p310
              replace q310 := eq_true q310
              have p311 : 0 ≤ (x9_1 : Int) := of_decide_eq_true (by first | (with_reducible assumption) | assumption)
              have q311 : x9_1 < (t297.length : Int) := of_decide_eq_true (by first | (with_reducible assumption) | assumption)
              obtain ⟨ad311, e311, hx311_0⟩ := Kd.at_int (Kd.R_reads' HO_3.out).2.2 x9_1 p311 q311
              obtain rfl : ad310 = ad311 := (by injection e311)
              replace p311 := eq_true p311
              replace q311 := eq_true q311
              go_wp2
              go_roundg k1
              case measure => have := HK1.out; omega
              case rel => exact ⟨(wrap64 (x8_1 + 2)), (wrap64 (x9_1 + 1)), (by first | rfl | (simp; done) | (simp [*]; done)), (by first | rfl | (simp; done) | (simp [*]; done)), H', ⟨by have := HK1.out; omega⟩, ⟨by (with_reducible repeat (first | apply Kd.R_alloc | apply Kd.R_drewN | apply Kd.R_drew)); exact HO_3.out⟩, ⟨by (with_reducible repeat (first | apply Kd.R_alloc | apply Kd.R_drewN | apply Kd.R_drew)); exact HO_4.out⟩, ⟨by (with_reducible repeat (first | apply Kd.R_alloc | apply Kd.R_drewN | apply Kd.R_drew)); exact HO_5.out⟩, ⟨by repeat (first | (with_reducible first | exact HB.out | apply below_alloc | apply pw_below_drewN | apply below_drew1) | exact HB.out)⟩⟩
            · rw [if_neg c13] at H
              have c13b0 : decide ((rd t297 x9_1) < 2048) = false := decide_eq_false c13
              clear c13
              by_cases c14 : (rd t297 x9_1) < 65536
              · rw [if_pos c14] at H
                have c14b0 : decide ((rd t297 x9_1) < 65536) = true := decide_eq_true c14
                clear c14
                have H' := Aside0.mk H
                clear H
                have p310 : 0 ≤ (x9_1 : Int) := of_decide_eq_true (by first | (with_reducible assumption) | assumption)
                have q310 : x9_1 < (t297.length : Int) := of_decide_eq_true (by first | (with_reducible assumption) | assumption)
                obtain ⟨ad310, e310, hx310_0⟩ := Kd.at_int (Kd.R_reads' HO_3.out).2.2 x9_1 p310 q310
                cases e310
                replace p310 := eq_true p310
                replace q310 := eq_true q310
                have p311 : 0 ≤ (x9_1 : Int) := of_decide_eq_true (by first | (with_reducible assumption) | assumption)
                have q311 : x9_1 < (t297.length : Int) := of_decide_eq_true (by first | (with_reducible assumption) | assumption)
                obtain ⟨ad311, e311, hx311_0⟩ := Kd.at_int (Kd.R_reads' HO_3.out).2.2 x9_1 p311 q311
                obtain rfl : ad310 = ad311 := (by injection e311)
                replace p311 := eq_true p311
                replace q311 := eq_true q311
                have p312 : 0 ≤ (x9_1 : Int) := of_decide_eq_true (by first | (with_reducible assumption) | assumption)
                have q312 : x9_1 < (t297.length : Int) := of_decide_eq_true (by first | (with_reducible assumption) | assumption)
                obtain ⟨ad312, e312, hx312_0⟩ := Kd.at_int (Kd.R_reads' HO_3.out).2.2 x9_1 p312 q312
                obtain rfl : ad310 = ad312 := (by injection e312)
                replace p312 := eq_true p312
                replace q312 := eq_true q312
                go_wp2
                go_roundg k1
                case measure => have := HK1.out; omega
                case rel => exact ⟨(wrap64 (x8_1 + 3)), (wrap64 (x9_1 + 1)), (by first | rfl | (simp; done) | (simp [*]; done)), (by first | rfl | (simp; done) | (simp [*]; done)), H', ⟨by have := HK1.out; omega⟩, ⟨by (with_reducible repeat (first | apply Kd.R_alloc | apply Kd.R_drewN | apply Kd.R_drew)); exact HO_3.out⟩, ⟨by (with_reducible repeat (first | apply Kd.R_alloc | apply Kd.R_drewN | apply Kd.R_drew)); exact HO_4.out⟩, ⟨by (with_reducible repeat (first | apply Kd.R_alloc | apply Kd.R_drewN | apply Kd.R_drew)); exact HO_5.out⟩, ⟨by repeat (first | (with_reducible first | exact HB.out | apply below_alloc | apply pw_below_drewN | apply below_drew1) | exact HB.out)⟩⟩
              · rw [if_neg c14] at H
                have c14b0 : decide ((rd t297 x9_1) < 65536) = false := decide_eq_false c14
                clear c14
                have H' := Aside0.mk H
                clear H
                have p310 : 0 ≤ (x9_1 : Int) := of_decide_eq_true (by first | (with_reducible assumption) | assumption)
                have q310 : x9_1 < (t297.length : Int) := of_decide_eq_true (by first | (with_reducible assumption) | assumption)
                obtain ⟨ad310, e310, hx310_0⟩ := Kd.at_int (Kd.R_reads' HO_3.out).2.2 x9_1 p310 q310
                cases e310
                replace p310 := eq_true p310
                replace q310 := eq_true q310
                have p311 : 0 ≤ (x9_1 : Int) := of_decide_eq_true (by first | (with_reducible assumption) | assumption)
                have q311 : x9_1 < (t297.length : Int) := of_decide_eq_true (by first | (with_reducible assumption) | assumption)
                obtain ⟨ad311, e311, hx311_0⟩ := Kd.at_int (Kd.R_reads' HO_3.out).2.2 x9_1 p311 q311
                obtain rfl : ad310 = ad311 := (by injection e311)
                replace p311 := eq_true p311
                replace q311 := eq_true q311
                have p312 : 0 ≤ (x9_1 : Int) := of_decide_eq_true (by first | (with_reducible assumption) | assumption)
                have q312 : x9_1 < (t297.length : Int) := of_decide_eq_true (by first | (with_reducible assumption) | assumption)
                obtain ⟨ad312, e312, hx312_0⟩ := Kd.at_int (Kd.R_reads' HO_3.out).2.2 x9_1 p312 q312
                obtain rfl : ad310 = ad312 := (by injection e312)
                replace p312 := eq_true p312
                replace q312 := eq_true q312
                go_wp2
                go_roundg k1
                case measure => have := HK1.out; omega
                case rel => exact ⟨(wrap64 (x8_1 + 4)), (wrap64 (x9_1 + 1)), (by first | rfl | (simp; done) | (simp [*]; done)), (by first | rfl | (simp; done) | (simp [*]; done)), H', ⟨by have := HK1.out; omega⟩, ⟨by (with_reducible repeat (first | apply Kd.R_alloc | apply Kd.R_drewN | apply Kd.R_drew)); exact HO_3.out⟩, ⟨by (with_reducible repeat (first | apply Kd.R_alloc | apply Kd.R_drewN | apply Kd.R_drew)); exact HO_4.out⟩, ⟨by (with_reducible repeat (first | apply Kd.R_alloc | apply Kd.R_drewN | apply Kd.R_drew)); exact HO_5.out⟩, ⟨by repeat (first | (with_reducible first | exact HB.out | apply below_alloc | apply pw_below_drewN | apply below_drew1) | exact HB.out)⟩⟩
        · rw [if_neg c11] at H
          exact absurd H (by simp)
      · rw [if_neg c10] at H
        have c10b0 : decide (x9_1 < (t297.length : Int)) = false := decide_eq_false c10
        clear c10
        by_cases c15 : t305 = true
        · subst c15
          have H1 : (if t304 = (t300.length : Int) then ((orthoepyref07_Same.f k1 t303 t297).bind fun t308 => (if t308 = true then (if x8_1 = (t300.length : Int) then ((orthoepylaw02_awake.f).bind fun t309 => (some t309)) else (some false)) else (some false))) else (some false)) = some r := by rw [if_pos rfl] at H; exact H
          clear H
          have H := H1
          clear H1
          by_cases c16 : t304 = (t300.length : Int)
          · rw [if_pos c16] at H
            have c16b0 : (t304 == (t300.length : Int)) = true := beq_iff_eq.mpr c16
            have c16b1 : (t304 != (t300.length : Int)) = false := bne_eq_false_iff_eq.mpr c16
            clear c16
            replace H := Option.bind_eq_some_iff.mp H
            obtain ⟨t308, A170, H⟩ := H
            replace H : (if t308 = true then (if x8_1 = (t300.length : Int) then ((orthoepylaw02_awake.f).bind fun t309 => (some t309)) else (some false)) else (some false)) = some r := H
            have A17 := Aside0.mk A170
            clear A170
            by_cases c18 : t308 = true
            · subst c18
              have H1 : (if x8_1 = (t300.length : Int) then ((orthoepylaw02_awake.f).bind fun t309 => (some t309)) else (some false)) = some r := by rw [if_pos rfl] at H; exact H
              clear H
              have H := H1
              clear H1
              by_cases c19 : x8_1 = (t300.length : Int)
              · rw [if_pos c19] at H
                have c19b0 : (x8_1 == (t300.length : Int)) = true := beq_iff_eq.mpr c19
                have c19b1 : (x8_1 != (t300.length : Int)) = false := bne_eq_false_iff_eq.mpr c19
                clear c19
                replace H := Option.bind_eq_some_iff.mp H
                obtain ⟨t309, A200, H⟩ := H
                replace H : (some t309) = some r := H
                have A20 := Aside0.mk A200
                clear A200
                obtain rfl := Option.some.inj H
                obtain ⟨Ao21, co21, eo21⟩ := Kd.R_slice HO_5.out
                subst eo21
                go_wp2_with (first | (go_at_call 13; (with_reducible refine (orthoepyref07_Same.calls k1 _ _ t303 _ _ t297 true _ ?side1 ?side2 ?side3 ?side4 A17.out).mono ?_); (case side1 => repeat (first | exact (Kd.R_reads' HO_5.out).2.2 | (with_reducible refine Kd.C_alloc ?_ _) | (with_reducible refine Kd.C_drewN ?_ _) | (with_reducible refine Kd.C_drew ?_))); (case side2 => exact (Kd.R_reads' HO_5.out).2.1); (case side3 => repeat (first | exact (Kd.R_reads' HO_3.out).2.2 | (with_reducible refine Kd.C_alloc ?_ _) | (with_reducible refine Kd.C_drewN ?_ _) | (with_reducible refine Kd.C_drew ?_))); (case side4 => exact (Kd.R_reads' HO_3.out).2.1); rintro e w' ⟨rfl, ⟨nd, rfl⟩⟩) | (go_at_call 8; (with_reducible refine (orthoepylaw02_awake.calls  t309 _ A20.out).mono ?_); rintro e w22 ⟨rfl, hb⟩; have n0_ := Aside0.mk (Kd.R_below (by (with_reducible repeat (first | apply Kd.R_alloc | apply Kd.R_drewN | apply Kd.R_drew)); exact HO_3.out) hb); have n1_ := Aside0.mk (Kd.R_below (by (with_reducible repeat (first | apply Kd.R_alloc | apply Kd.R_drewN | apply Kd.R_drew)); exact HO_4.out) hb); have n2_ := Aside0.mk (Kd.R_below (by (with_reducible repeat (first | apply Kd.R_alloc | apply Kd.R_drewN | apply Kd.R_drew)); exact HO_5.out) hb); have n3_ := Aside0.mk (below_step (by repeat (first | (with_reducible first | exact HB.out | apply below_alloc | apply pw_below_drewN | apply below_drew1) | exact HB.out)) hb); clear HO_3; clear HO_4; clear HO_5; clear HB; have HO_3 := n0_; have HO_4 := n1_; have HO_5 := n2_; have HB := n3_; clear n0_ n1_ n2_ n3_; (try clear hb); (try clear hb2); (try clear hk); (try clear hi)))
                go_ret
                exact ⟨by first | rfl | (simp [errW_none, errW_some] <;> rfl) | (simp [*, errW_none, errW_some] <;> rfl), by repeat (first | (with_reducible first | exact HB.out | apply below_alloc | apply pw_below_drewN | apply below_drew1) | exact HB.out)⟩
              · rw [if_neg c19] at H
                have c19b0 : (x8_1 == (t300.length : Int)) = false := beq_eq_false_iff_ne.mpr c19
                have c19b1 : (x8_1 != (t300.length : Int)) = true := bne_iff_ne.mpr c19
                obtain rfl := Option.some.inj H
                exact absurd hT_.out (by decide)
            · replace c18 := Bool.eq_false_iff.mpr c18
              subst c18
              have H1 : (some false) = some r := by rw [if_neg (show ¬ (false = true) by decide)] at H; exact H
              clear H
              have H := H1
              clear H1
              obtain rfl := Option.some.inj H
              exact absurd hT_.out (by decide)
          · rw [if_neg c16] at H
            have c16b0 : (t304 == (t300.length : Int)) = false := beq_eq_false_iff_ne.mpr c16
            have c16b1 : (t304 != (t300.length : Int)) = true := bne_iff_ne.mpr c16
            obtain rfl := Option.some.inj H
            exact absurd hT_.out (by decide)
        · replace c15 := Bool.eq_false_iff.mpr c15
          subst c15
          have H1 : (some false) = some r := by rw [if_neg (show ¬ (false = true) by decide)] at H; exact H
          clear H
          have H := H1
          clear H1
          obtain rfl := Option.some.inj H
          exact absurd hT_.out (by decide)

/-- THE ONE PURE STATEMENT of orthoepylaw02_Utf8Back: yours. -/
def orthoepylaw02_Utf8Back.Pure : Prop := ∀ (l0 : List Int), l0.length ≤ maxLen → l0.length * 8 ≤ 140737488351232 → (∀ x ∈ l0, (Lit.int .i64 x).wf = true) → ∃ k, orthoepylaw02_Utf8Back.f k l0 = some true
theorem orthoepylaw02_Utf8Back.walk (P : orthoepylaw02_Utf8Back.Pure) (a0 : Option Addr) (len0 cap0 : Nat) (z0 : List Int) (w : World) (w0 : (a0 = none ∧ len0 = 0 ∧ cap0 = 0 ∧ z0 = []) ∨ ∃ x, a0 = some x ∧ len0 ≤ cap0 ∧ cap0 ≤ maxLen ∧ z0.length = cap0 ∧ (∀ i, i < z0.length → w.cell? (x.add i) = some (.int .i64 (z0.getD i 0))) ∧ ∀ n ∈ z0, (Lit.int .i64 n).wf = true) (y0 : len0 * 8 ≤ 140737488351232) :
    Calls Try.prog 4 #[.slice a0 len0 cap0] w fun e w' => e = .returned (.bool true) ∧ Below w.heap.size w w' := by
  obtain ⟨l0, rfl, hr0, hm0, hw0, hc0⟩ := ReadsInt.ofRowC w0
  obtain ⟨k, h⟩ := P l0 hm0 y0 hw0
  refine (orthoepylaw02_Utf8Back.calls k _ _ l0 true w (Kd.C_of_reads (d := (0 : Int)) (h1 := fun _ => rfl) hr0) hc0 h ⟨rfl⟩).mono ?_
  rintro e w' ⟨rfl, hd⟩
  exact ⟨rfl, hd⟩

/-! ### orthoepylaw02_begins: function 19 -/
def orthoepylaw02_begins.f (k : Nat) (l0 : List Int) : Option (Bool) := (orthoepyref02_All.f k l0).bind fun bt313 => (some (bt313.2.1 == (l0.length : Int)))
theorem orthoepylaw02_begins.mono : ∀ a0 k, LeO (orthoepylaw02_begins.f k a0) (orthoepylaw02_begins.f (k + 1) a0) := by
  intro a0 k
  unfold orthoepylaw02_begins.f
  repeat' first
      | (with_reducible exact orthoepyref02_All.mono _ _)
      | (with_reducible exact LeO.refl _)
      | (with_reducible exact LeO.none _)
      | (with_reducible refine LeO.ite ?_ ?_)
      | (with_reducible refine LeO.bind ?_ (fun _ => ?_))
      | exact orthoepyref02_All.mono _ _
      | exact LeO.none _
      | refine LeO.ite ?_ ?_
      | refine LeO.bind ?_ (fun _ => ?_)
set_option maxHeartbeats 8000000 in
set_option maxRecDepth 100000 in
theorem orthoepylaw02_begins.calls (k : Nat) (A0 : Option Addr) (c0 : Nat) (l0 : List Int) (r : Bool) (w : World) (hr0 : Kd.C (Kd.int .u8) w A0 l0.length l0) (hc0 : l0.length ≤ c0) (h : orthoepylaw02_begins.f k l0 = some r) :
    Calls Try.prog 19 #[.slice A0 l0.length c0] w fun e w' => e = .returned (.bool r) ∧ Below w.heap.size w w' := by
  have HR0 := Aside0.mk hr0
  have HC0 := Aside0.mk hc0
  clear hr0 hc0
  have HB := Aside0.mk (Below.refl w.heap.size w)
  have H : ((orthoepyref02_All.f k l0).bind fun bt313 => (some (bt313.2.1 == (l0.length : Int)))) = some r := h
  clear h
  replace H := Option.bind_eq_some_iff.mp H
  obtain ⟨⟨t313, t314, t315⟩, A20, H⟩ := H
  replace H : (some (t314 == (l0.length : Int))) = some r := H
  have A2 := Aside0.mk A20
  clear A20
  obtain rfl := Option.some.inj H
  go_enter Try.func19, Try.ntmps19
  go_wp2_with (first | ((with_reducible refine gate_callee (f := 12) rfl ?_); refine goesL_ (some 8) rfl rfl Try.func12 (by kernel_rfl) rfl #[.slice A0 l0.length c0] rfl (by (try simp only [List.map_toArray, List.map_cons, List.map_nil]); first | done | rfl | (simp only [List.length_drop, List.length_take]; rfl)) ?_; (with_reducible refine (orthoepyref02_All.calls k _ _ l0 t313 t314 t315 _ ?side1 ?side2 A2.out).mono ?_); (case side1 => repeat (first | exact HR0.out | (with_reducible refine Kd.C_alloc ?_ _) | (with_reducible refine Kd.C_drewN ?_ _) | (with_reducible refine Kd.C_drew ?_))); (case side2 => exact HC0.out); rintro e w3 ⟨v316, rfl, ho0, hb⟩; refine ⟨_, rfl, ?_⟩; have n0_ := Aside0.mk (Kd.R_lower ho0 (below_size (by repeat (first | (with_reducible first | exact HB.out | apply below_alloc | apply pw_below_drewN | apply below_drew1) | exact HB.out)))); have n1_ := Aside0.mk (below_step (by repeat (first | (with_reducible first | exact HB.out | apply below_alloc | apply pw_below_drewN | apply below_drew1) | exact HB.out)) hb); clear HB; have HO317 := n0_; have HB := n1_; clear n0_ n1_; (try clear hb); (try clear hb2); (try clear hk); (try clear hi); (try clear ho0)))
  go_ret
  exact ⟨by first | rfl | (simp [errW_none, errW_some] <;> rfl) | (simp [*, errW_none, errW_some] <;> rfl), by repeat (first | (with_reducible first | exact HB.out | apply below_alloc | apply pw_below_drewN | apply below_drew1) | exact HB.out)⟩

end Go.Proofs.Ytoalfgmnikbpaaa.PAll
