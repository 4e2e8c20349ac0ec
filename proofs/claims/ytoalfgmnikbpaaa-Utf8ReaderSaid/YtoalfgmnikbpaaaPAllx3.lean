-- The machine's side of laws, written by a program of this session (wip/gen/pp.sh). Lean checks it.
import Derived.Test.YtoalfgmnikbpaaaPAllx0
import Derived.Test.YtoalfgmnikbpaaaPAllx1
import Derived.Test.YtoalfgmnikbpaaaPAllx2
namespace Go.Proofs.Ytoalfgmnikbpaaa.PAll
open Go.RowKit Go.Proofs.YtoalfgmnikbpaaaW.PrintWords Go.Proofs.YtoalfgmnikbpaaaW.PrintLast Go.Proofs.YtoalfgmnikbpaaaW.PrintMore
attribute [local go_sem] max2_int min2_int max_two min_two max_three min_three max_four min_four   -- for this text's walks alone
set_option linter.unusedVariables false
set_option linter.unusedSimpArgs false

/-! ### utf8_First: function 9 -/
def utf8_First.l0 : Nat → List Int → List Int → Int → Int → Int → Int → Int → Int → Option (Int × Int × Bool)
  | 0, _, _, _, _, _, _, _, _ => none
  | k + 1, x0, x11, x12, x13, x111000, x111001, x111002, x111003 => if x13 < x12 then (if 0 ≤ x13 then (if x13 < (x11.length : Int) then ((utf8_Reader_Push.f k x111000 x111001 x111002 x111003 (rd x11 x13)).bind fun bt112 => (if bt112.2.1 = 2 then (some (bt112.1, wrap64 (x13 + 1), true)) else (if bt112.2.1 = 3 then (some (0, x13, false)) else (utf8_First.l0 k x0 x11 x12 (wrap64 (x13 + 1)) bt112.2.2.1 bt112.2.2.2.1 bt112.2.2.2.2.1 bt112.2.2.2.2.2)))) else (none)) else (none)) else (some (0, (x0.length : Int), false))
def utf8_First.f (k : Nat) (l0 : List Int) : Option (Int × Int × Bool) := (utf8_New.f).bind fun bt106 => (utf8_First.l0 k l0 l0 (l0.length : Int) 0 bt106.1 bt106.2.1 bt106.2.2.1 bt106.2.2.2)
theorem utf8_First.mono_l : ∀ k, (∀ y0 y1 y2 y3 y4 y5 y6 y7, LeO (utf8_First.l0 k y0 y1 y2 y3 y4 y5 y6 y7) (utf8_First.l0 (k + 1) y0 y1 y2 y3 y4 y5 y6 y7))
  | 0 => fun _ _ _ _ _ _ _ _ r h => by simp [utf8_First.l0] at h
  | k + 1 => by
    have ih0 := utf8_First.mono_l k
    · intro y0 y1 y2 y3 y4 y5 y6 y7
      unfold utf8_First.l0
      repeat' first
      | (with_reducible exact ih0 _ _ _ _ _ _ _ _)
      | (with_reducible exact utf8_Reader_Push.mono _ _ _ _ _ _)
      | (with_reducible exact LeO.refl _)
      | (with_reducible exact LeO.none _)
      | (with_reducible refine LeO.ite ?_ ?_)
      | (with_reducible refine LeO.bind ?_ (fun _ => ?_))
      | exact ih0 _ _ _ _ _ _ _ _
      | exact utf8_Reader_Push.mono _ _ _ _ _ _
      | exact LeO.none _
      | refine LeO.ite ?_ ?_
      | refine LeO.bind ?_ (fun _ => ?_)
theorem utf8_First.mono : ∀ a0 k, LeO (utf8_First.f k a0) (utf8_First.f (k + 1) a0) := by
  intro a0 k
  have ih0 := utf8_First.mono_l k
  unfold utf8_First.f
  repeat' first
      | (with_reducible exact ih0 _ _ _ _ _ _ _ _)
      | (with_reducible exact utf8_Reader_Push.mono _ _ _ _ _ _)
      | (with_reducible exact LeO.refl _)
      | (with_reducible exact LeO.none _)
      | (with_reducible refine LeO.ite ?_ ?_)
      | (with_reducible refine LeO.bind ?_ (fun _ => ?_))
      | exact ih0 _ _ _ _ _ _ _ _
      | exact utf8_Reader_Push.mono _ _ _ _ _ _
      | exact LeO.none _
      | refine LeO.ite ?_ ?_
      | refine LeO.bind ?_ (fun _ => ?_)
set_option maxHeartbeats 8000000 in
set_option maxRecDepth 100000 in
theorem utf8_First.calls (k : Nat) (A0 : Option Addr) (c0 : Nat) (l0 : List Int) (r1 : Int) (r2 : Int) (r3 : Bool) (w : World) (hr0 : Kd.C (Kd.int .u8) w A0 l0.length l0) (hc0 : l0.length ≤ c0) (h : utf8_First.f k l0 = some (r1, r2, r3)) :
    Calls Try.prog 9 #[.slice A0 l0.length c0] w fun e w' => e = .returned (.tuple #[.int .i32 r1, .int .i64 r2, .bool r3]) ∧ Below w.heap.size w w' := by
  have HR0 := Aside0.mk hr0
  have HC0 := Aside0.mk hc0
  clear hr0 hc0
  have HB := Aside0.mk (Below.refl w.heap.size w)
  have H : ((utf8_New.f).bind fun bt106 => (utf8_First.l0 k l0 l0 (l0.length : Int) 0 bt106.1 bt106.2.1 bt106.2.2.1 bt106.2.2.2)) = some (r1, r2, r3) := h
  clear h
  replace H := Option.bind_eq_some_iff.mp H
  obtain ⟨⟨t106, t107, t108, t109⟩, A20, H⟩ := H
  replace H : (utf8_First.l0 k l0 l0 (l0.length : Int) 0 t106 t107 t108 t109) = some (r1, r2, r3) := H
  have A2 := Aside0.mk A20
  clear A20
  have H' := Aside0.mk H
  clear H
  go_enter Try.func9, Try.ntmps9
  go_wp2_with (first | ((with_reducible refine gate_callee (f := 20) rfl ?_); refine goesL_ (some 10) rfl rfl Try.func20 (by kernel_rfl) rfl #[] rfl (by (try simp only [List.map_toArray, List.map_cons, List.map_nil]); first | done | rfl | (simp only [List.length_drop, List.length_take]; rfl)) ?_; (with_reducible refine (utf8_New.calls  t106 t107 t108 t109 w _ ?side1 A2.out).mono ?_); (case side1 => repeat (first | (with_reducible first | exact HB.out | apply below_alloc | apply pw_below_drewN | apply below_drew1) | exact HB.out)); rintro e w3 ⟨g110, rfl, hi, hb, hb2⟩; refine ⟨_, rfl, ?_⟩; have n0_ := Aside0.mk (hb); have n1_ := Aside0.mk (hi); clear HB; have HB := n0_; have HI110 := n1_; clear n0_ n1_; (try clear hb); (try clear hb2); (try clear hk); (try clear hi)))
  go_loopg [13] k (fun kq v13 w' => ∃ (x13_1 : Int) (x111000_1 : Int) (x111001_1 : Int) (x111002_1 : Int) (x111003_1 : Int), v13 = .int .i64 x13_1 ∧ Aside0 (utf8_First.l0 kq l0 l0 (l0.length : Int) x13_1 x111000_1 x111001_1 x111002_1 x111003_1 = some (r1, r2, r3)) ∧ Aside0 (kq ≤ k) ∧ Aside0 (IsS53 w w' g110 x111000_1 x111001_1 x111002_1 x111003_1) ∧ Aside0 (Below w.heap.size w w'))
  case atStart => exact ⟨(0), (t106), (t107), (t108), (t109), (by first | rfl | (simp; done) | (simp [*]; done)), H', ⟨Nat.le_refl _⟩, ⟨by repeat (first | (with_reducible first | exact HI110.out | apply IsS53.alloc | apply IsS53.drewN | apply IsS53.drew | apply IsS53.set_0 | apply IsS53.set_1 | apply IsS53.set_2 | apply IsS53.set_3) | exact HI110.out)⟩, ⟨by repeat (first | (with_reducible first | exact HB.out | apply below_alloc | apply pw_below_drewN | apply below_drew1 | refine below_set ?_ (IsS53.ge HI110.out)) | exact HB.out)⟩⟩
  case round =>
    clear H'
    try clear c2
    try clear p2
    obtain ⟨x13_1, x111000_1, x111001_1, x111002_1, x111003_1, rfl, HA, HK1, HI110, HB⟩ := hrel
    cases gk with
    | zero => exact absurd HA.out (by simp [utf8_First.l0])
    | succ k1 =>
      have H := HA.out
      clear HA
      simp only [utf8_First.l0] at H
      by_cases c4 : x13_1 < (l0.length : Int)
      · rw [if_pos c4] at H
        have c4b0 : decide (x13_1 < (l0.length : Int)) = true := decide_eq_true c4
        clear c4
        by_cases c5 : 0 ≤ x13_1
        · rw [if_pos c5] at H
          have c5b0 : decide (0 ≤ x13_1) = true := decide_eq_true c5
          clear c5
          by_cases c6 : x13_1 < (l0.length : Int)
          · rw [if_pos c6] at H
            have c6b0 : decide (x13_1 < (l0.length : Int)) = true := decide_eq_true c6
            clear c6
            replace H := Option.bind_eq_some_iff.mp H
            obtain ⟨⟨t112, t113, t114, t115, t116, t117⟩, A70, H⟩ := H
            replace H : (if t113 = 2 then (some (t112, wrap64 (x13_1 + 1), true)) else (if t113 = 3 then (some (0, x13_1, false)) else (utf8_First.l0 k1 l0 l0 (l0.length : Int) (wrap64 (x13_1 + 1)) t114 t115 t116 t117))) = some (r1, r2, r3) := H
            have A7 := Aside0.mk A70
            clear A70
            by_cases c8 : t113 = 2
            · rw [if_pos c8] at H
              have c8b0 : (t113 == 2) = true := beq_iff_eq.mpr c8
              have c8b1 : (t113 != 2) = false := bne_eq_false_iff_eq.mpr c8
              clear c8
              simp only [Option.some.injEq, Prod.mk.injEq] at H
              obtain ⟨rfl, rfl, rfl⟩ := H
              have p111 : 0 ≤ (x13_1 : Int) := of_decide_eq_true (by first | (with_reducible assumption) | assumption)
              have q111 : x13_1 < (l0.length : Int) := of_decide_eq_true (by first | (with_reducible assumption) | assumption)
              obtain ⟨ad111, e111, hx111_0⟩ := Kd.at_int HR0.out x13_1 p111 q111
              cases e111
              replace hx111_0 := (HB.out.cell (World.block_lt_of_cell? w _ hx111_0)).trans hx111_0
              replace p111 := eq_true p111
              replace q111 := eq_true q111
              go_wp2_with (first | ((with_reducible refine gate_callee (f := 21) rfl ?_); refine goesL_ (some 21) rfl rfl Try.func21 (by kernel_rfl) rfl #[.pointer (some ⟨g110, 0, none⟩), .int .u8 (rd l0 x13_1)] rfl (by (try simp only [List.map_toArray, List.map_cons, List.map_nil]); first | done | rfl | (simp only [List.length_drop, List.length_take]; rfl)) ?_; (with_reducible refine (utf8_Reader_Push.calls k1 g110 x111000_1 x111001_1 x111002_1 x111003_1 (rd l0 x13_1) t112 t113 t114 t115 t116 t117 w _ ?side1 ?side2 A7.out).mono ?_); (case side1 => repeat (first | (with_reducible first | exact HI110.out | apply IsS53.alloc | apply IsS53.drewN | apply IsS53.drew | apply IsS53.set_0 | apply IsS53.set_1 | apply IsS53.set_2 | apply IsS53.set_3) | exact HI110.out)); (case side2 => repeat (first | (with_reducible first | exact HB.out | apply below_alloc | apply pw_below_drewN | apply below_drew1 | refine below_set ?_ (IsS53.ge HI110.out)) | exact HB.out)); rintro e w9 ⟨rfl, hi, hb, hk⟩; refine ⟨_, rfl, ?_⟩; have n0_ := Aside0.mk (hb); have n1_ := Aside0.mk (hi); clear HB; clear HI110; have HB := n0_; have HI110 := n1_; clear n0_ n1_; (try clear hb); (try clear hb2); (try clear hk); (try clear hi)))
              go_ret3
              exact ⟨by first | rfl | (simp [errW_none, errW_some] <;> rfl) | (simp [*, errW_none, errW_some] <;> rfl), by repeat (first | (with_reducible first | exact HB.out | apply below_alloc | apply pw_below_drewN | apply below_drew1 | refine below_set ?_ (IsS53.ge HI110.out)) | exact HB.out)⟩
            · rw [if_neg c8] at H
              have c8b0 : (t113 == 2) = false := beq_eq_false_iff_ne.mpr c8
              have c8b1 : (t113 != 2) = true := bne_iff_ne.mpr c8
              by_cases c10 : t113 = 3
              · rw [if_pos c10] at H
                have c10b0 : (t113 == 3) = true := beq_iff_eq.mpr c10
                have c10b1 : (t113 != 3) = false := bne_eq_false_iff_eq.mpr c10
                clear c10
                simp only [Option.some.injEq, Prod.mk.injEq] at H
                obtain ⟨rfl, rfl, rfl⟩ := H
                have p111 : 0 ≤ (x13_1 : Int) := of_decide_eq_true (by first | (with_reducible assumption) | assumption)
                have q111 : x13_1 < (l0.length : Int) := of_decide_eq_true (by first | (with_reducible assumption) | assumption)
                obtain ⟨ad111, e111, hx111_0⟩ := Kd.at_int HR0.out x13_1 p111 q111
                cases e111
                replace hx111_0 := (HB.out.cell (World.block_lt_of_cell? w _ hx111_0)).trans hx111_0
                replace p111 := eq_true p111
                replace q111 := eq_true q111
                go_wp2_with (first | ((with_reducible refine gate_callee (f := 21) rfl ?_); refine goesL_ (some 21) rfl rfl Try.func21 (by kernel_rfl) rfl #[.pointer (some ⟨g110, 0, none⟩), .int .u8 (rd l0 x13_1)] rfl (by (try simp only [List.map_toArray, List.map_cons, List.map_nil]); first | done | rfl | (simp only [List.length_drop, List.length_take]; rfl)) ?_; (with_reducible refine (utf8_Reader_Push.calls k1 g110 x111000_1 x111001_1 x111002_1 x111003_1 (rd l0 x13_1) t112 t113 t114 t115 t116 t117 w _ ?side1 ?side2 A7.out).mono ?_); (case side1 => repeat (first | (with_reducible first | exact HI110.out | apply IsS53.alloc | apply IsS53.drewN | apply IsS53.drew | apply IsS53.set_0 | apply IsS53.set_1 | apply IsS53.set_2 | apply IsS53.set_3) | exact HI110.out)); (case side2 => repeat (first | (with_reducible first | exact HB.out | apply below_alloc | apply pw_below_drewN | apply below_drew1 | refine below_set ?_ (IsS53.ge HI110.out)) | exact HB.out)); rintro e w11 ⟨rfl, hi, hb, hk⟩; refine ⟨_, rfl, ?_⟩; have n0_ := Aside0.mk (hb); have n1_ := Aside0.mk (hi); clear HB; clear HI110; have HB := n0_; have HI110 := n1_; clear n0_ n1_; (try clear hb); (try clear hb2); (try clear hk); (try clear hi)))
                go_ret3
                exact ⟨by first | rfl | (simp [errW_none, errW_some] <;> rfl) | (simp [*, errW_none, errW_some] <;> rfl), by repeat (first | (with_reducible first | exact HB.out | apply below_alloc | apply pw_below_drewN | apply below_drew1 | refine below_set ?_ (IsS53.ge HI110.out)) | exact HB.out)⟩
              · rw [if_neg c10] at H
                have c10b0 : (t113 == 3) = false := beq_eq_false_iff_ne.mpr c10
                have c10b1 : (t113 != 3) = true := bne_iff_ne.mpr c10
                have H' := Aside0.mk H
                clear H
                have p111 : 0 ≤ (x13_1 : Int) := of_decide_eq_true (by first | (with_reducible assumption) | assumption)
                have q111 : x13_1 < (l0.length : Int) := of_decide_eq_true (by first | (with_reducible assumption) | assumption)
                obtain ⟨ad111, e111, hx111_0⟩ := Kd.at_int HR0.out x13_1 p111 q111
                cases e111
                replace hx111_0 := (HB.out.cell (World.block_lt_of_cell? w _ hx111_0)).trans hx111_0
                replace p111 := eq_true p111
                replace q111 := eq_true q111
                go_wp2_with (first | ((with_reducible refine gate_callee (f := 21) rfl ?_); refine goesL_ (some 21) rfl rfl Try.func21 (by kernel_rfl) rfl #[.pointer (some ⟨g110, 0, none⟩), .int .u8 (rd l0 x13_1)] rfl (by (try simp only [List.map_toArray, List.map_cons, List.map_nil]); first | done | rfl | (simp only [List.length_drop, List.length_take]; rfl)) ?_; (with_reducible refine (utf8_Reader_Push.calls k1 g110 x111000_1 x111001_1 x111002_1 x111003_1 (rd l0 x13_1) t112 t113 t114 t115 t116 t117 w _ ?side1 ?side2 A7.out).mono ?_); (case side1 => repeat (first | (with_reducible first | exact HI110.out | apply IsS53.alloc | apply IsS53.drewN | apply IsS53.drew | apply IsS53.set_0 | apply IsS53.set_1 | apply IsS53.set_2 | apply IsS53.set_3) | exact HI110.out)); (case side2 => repeat (first | (with_reducible first | exact HB.out | apply below_alloc | apply pw_below_drewN | apply below_drew1 | refine below_set ?_ (IsS53.ge HI110.out)) | exact HB.out)); rintro e w12 ⟨rfl, hi, hb, hk⟩; refine ⟨_, rfl, ?_⟩; have n0_ := Aside0.mk (hb); have n1_ := Aside0.mk (hi); clear HB; clear HI110; have HB := n0_; have HI110 := n1_; clear n0_ n1_; (try clear hb); (try clear hb2); (try clear hk); (try clear hi)))
                go_roundg k1
                case measure => have := HK1.out; omega
                case rel => exact ⟨(wrap64 (x13_1 + 1)), (t114), (t115), (t116), (t117), (by first | rfl | (simp; done) | (simp [*]; done)), H', ⟨by have := HK1.out; omega⟩, ⟨by repeat (first | (with_reducible first | exact HI110.out | apply IsS53.alloc | apply IsS53.drewN | apply IsS53.drew | apply IsS53.set_0 | apply IsS53.set_1 | apply IsS53.set_2 | apply IsS53.set_3) | exact HI110.out)⟩, ⟨by repeat (first | (with_reducible first | exact HB.out | apply below_alloc | apply pw_below_drewN | apply below_drew1 | refine below_set ?_ (IsS53.ge HI110.out)) | exact HB.out)⟩⟩
          · rw [if_neg c6] at H
            exact absurd H (by simp)
        · rw [if_neg c5] at H
          exact absurd H (by simp)
      · rw [if_neg c4] at H
        have c4b0 : decide (x13_1 < (l0.length : Int)) = false := decide_eq_false c4
        clear c4
        simp only [Option.some.injEq, Prod.mk.injEq] at H
        obtain ⟨rfl, rfl, rfl⟩ := H
        go_wp2
        go_ret3
        exact ⟨by first | rfl | (simp [errW_none, errW_some] <;> rfl) | (simp [*, errW_none, errW_some] <;> rfl), by repeat (first | (with_reducible first | exact HB.out | apply below_alloc | apply pw_below_drewN | apply below_drew1 | refine below_set ?_ (IsS53.ge HI110.out)) | exact HB.out)⟩

/-! ### utf8_Reader_Left: function 23 -/
def utf8_Reader_Left.f (s0_0 : Int) (s0_1 : Int) (s0_2 : Int) (s0_3 : Int) : Option (Int × Int × Int × Int × Int) := some (s0_2, s0_0, s0_1, s0_2, s0_3)
set_option maxHeartbeats 8000000 in
set_option maxRecDepth 100000 in
theorem utf8_Reader_Left.calls (g : Nat) (s0_0 : Int) (s0_1 : Int) (s0_2 : Int) (s0_3 : Int) (r1 : Int) (r2 : Int) (r3 : Int) (r4 : Int) (r5 : Int) (w0 w : World) (hI : IsS53 w0 w g s0_0 s0_1 s0_2 s0_3) (hB : Below w0.heap.size w0 w) (h : utf8_Reader_Left.f s0_0 s0_1 s0_2 s0_3 = some (r1, r2, r3, r4, r5)) :
    Calls Try.prog 23 #[.pointer (some ⟨g, 0, none⟩)] w fun e w' => e = .returned (.int .i64 r1) ∧ IsS53 w0 w' g r2 r3 r4 r5 ∧ Below w0.heap.size w0 w' ∧ KeepBut w w' g none := by
  have HI0 := Aside0.mk hI
  have HK := Aside0.mk (KeepBut.refl w g none)
  have HL := Aside0.mk hB.size
  clear hI
  have HW0 := Aside0.mk hB.size
  have HB := Aside0.mk hB
  clear hB
  have H : (some (s0_2, s0_0, s0_1, s0_2, s0_3)) = some (r1, r2, r3, r4, r5) := h
  clear h
  simp only [Option.some.injEq, Prod.mk.injEq] at H
  obtain ⟨rfl, rfl, rfl, rfl, rfl⟩ := H
  obtain ⟨HGz2, hgz2⟩ := HI0.out
  have hcz2_0 := cellS53_0 HGz2
  have hcz2_1 := cellS53_1 HGz2
  have hcz2_2 := cellS53_2 HGz2
  have hcz2_3 := cellS53_3 HGz2
  have hfz2_0 := blk_frozen HGz2 0
  have hfz2_1 := blk_frozen HGz2 1
  have hfz2_2 := blk_frozen HGz2 2
  have hfz2_3 := blk_frozen HGz2 3
  clear HGz2 hgz2
  go_enter Try.func23, Try.ntmps23
  go_wp2
  go_ret
  exact ⟨by first | rfl | (simp [errW_none, errW_some] <;> rfl) | (simp [*, errW_none, errW_some] <;> rfl), by repeat (first | (with_reducible first | exact HI0.out | apply IsS53.alloc | apply IsS53.drewN | apply IsS53.drew | apply IsS53.set_0 | apply IsS53.set_1 | apply IsS53.set_2 | apply IsS53.set_3) | exact HI0.out), by repeat (first | (with_reducible first | exact HB.out | apply below_alloc | apply pw_below_drewN | apply below_drew1 | refine below_set ?_ (IsS53.ge HI0.out)) | exact HB.out), by repeat (first | (with_reducible first | exact HK.out | apply KeepBut.set_ | apply keep_drewN | apply keep_drew | apply keep_alloc) | exact HK.out)⟩

/-! ### utf8_All: function 11 -/
def utf8_All.l0 : Nat → List Int → List Int → List Int → Int → Int → Int → Int → Int → Int → Option (List Int × Int × Bool)
  | 0, _, _, _, _, _, _, _, _, _ => none
  | k + 1, x0, x6, x15, x16, x17, x123000, x123001, x123002, x123003 => if x17 < x16 then (if 0 ≤ x17 then (if x17 < (x15.length : Int) then ((utf8_Reader_Push.f k x123000 x123001 x123002 x123003 (rd x15 x17)).bind fun bt132 => (if bt132.2.1 = 2 then (if x6.length < 35184372088832 then (utf8_All.l0 k x0 (x6 ++ [bt132.1]) x15 x16 (wrap64 (x17 + 1)) bt132.2.2.1 bt132.2.2.2.1 bt132.2.2.2.2.1 bt132.2.2.2.2.2) else (none)) else (if bt132.2.1 = 3 then (some (([] : List Int), x17, false)) else (utf8_All.l0 k x0 x6 x15 x16 (wrap64 (x17 + 1)) bt132.2.2.1 bt132.2.2.2.1 bt132.2.2.2.2.1 bt132.2.2.2.2.2)))) else (none)) else (none)) else ((utf8_Reader_Left.f x123000 x123001 x123002 x123003).bind fun bt126 => (if bt126.1 > 0 then (some (([] : List Int), (x0.length : Int), false)) else (some (x6, (x0.length : Int), true))))
def utf8_All.f (k : Nat) (l0 : List Int) : Option (List Int × Int × Bool) := (utf8_New.f).bind fun bt118 => (if 0 ≤ (l0.length : Int) then (if ((l0.length : Int) : Int).toNat ≤ 70368744177664 then (utf8_All.l0 k l0 ([]) l0 (l0.length : Int) 0 bt118.1 bt118.2.1 bt118.2.2.1 bt118.2.2.2) else (none)) else (none))
theorem utf8_All.mono_l : ∀ k, (∀ y0 y1 y2 y3 y4 y5 y6 y7 y8, LeO (utf8_All.l0 k y0 y1 y2 y3 y4 y5 y6 y7 y8) (utf8_All.l0 (k + 1) y0 y1 y2 y3 y4 y5 y6 y7 y8))
  | 0 => fun _ _ _ _ _ _ _ _ _ r h => by simp [utf8_All.l0] at h
  | k + 1 => by
    have ih0 := utf8_All.mono_l k
    · intro y0 y1 y2 y3 y4 y5 y6 y7 y8
      unfold utf8_All.l0
      repeat' first
      | (with_reducible exact ih0 _ _ _ _ _ _ _ _ _)
      | (with_reducible exact utf8_Reader_Push.mono _ _ _ _ _ _)
      | (with_reducible exact LeO.refl _)
      | (with_reducible exact LeO.none _)
      | (with_reducible refine LeO.ite ?_ ?_)
      | (with_reducible refine LeO.bind ?_ (fun _ => ?_))
      | exact ih0 _ _ _ _ _ _ _ _ _
      | exact utf8_Reader_Push.mono _ _ _ _ _ _
      | exact LeO.none _
      | refine LeO.ite ?_ ?_
      | refine LeO.bind ?_ (fun _ => ?_)
theorem utf8_All.mono : ∀ a0 k, LeO (utf8_All.f k a0) (utf8_All.f (k + 1) a0) := by
  intro a0 k
  have ih0 := utf8_All.mono_l k
  unfold utf8_All.f
  repeat' first
      | (with_reducible exact ih0 _ _ _ _ _ _ _ _ _)
      | (with_reducible exact utf8_Reader_Push.mono _ _ _ _ _ _)
      | (with_reducible exact LeO.refl _)
      | (with_reducible exact LeO.none _)
      | (with_reducible refine LeO.ite ?_ ?_)
      | (with_reducible refine LeO.bind ?_ (fun _ => ?_))
      | exact ih0 _ _ _ _ _ _ _ _ _
      | exact utf8_Reader_Push.mono _ _ _ _ _ _
      | exact LeO.none _
      | refine LeO.ite ?_ ?_
      | refine LeO.bind ?_ (fun _ => ?_)
set_option maxHeartbeats 8000000 in
set_option maxRecDepth 100000 in
theorem utf8_All.calls (k : Nat) (A0 : Option Addr) (c0 : Nat) (l0 : List Int) (r1 : List Int) (r2 : Int) (r3 : Bool) (w : World) (hr0 : Kd.C (Kd.int .u8) w A0 l0.length l0) (hc0 : l0.length ≤ c0) (h : utf8_All.f k l0 = some (r1, r2, r3)) :
    Calls Try.prog 11 #[.slice A0 l0.length c0] w fun e w' => ∃ v0_ : Value, e = .returned (.tuple #[v0_, .int .i64 r2, .bool r3]) ∧ Kd.R (Kd.int .i32) 21 w' w.heap.size (fun _ => True) v0_ r1 ∧ Below w.heap.size w w' := by
  have HR0 := Aside0.mk hr0
  have HC0 := Aside0.mk hc0
  clear hr0 hc0
  have HB := Aside0.mk (Below.refl w.heap.size w)
  have H : ((utf8_New.f).bind fun bt118 => (if 0 ≤ (l0.length : Int) then (if ((l0.length : Int) : Int).toNat ≤ 70368744177664 then (utf8_All.l0 k l0 ([]) l0 (l0.length : Int) 0 bt118.1 bt118.2.1 bt118.2.2.1 bt118.2.2.2) else (none)) else (none))) = some (r1, r2, r3) := h
  clear h
  replace H := Option.bind_eq_some_iff.mp H
  obtain ⟨⟨t118, t119, t120, t121⟩, A20, H⟩ := H
  replace H : (if 0 ≤ (l0.length : Int) then (if ((l0.length : Int) : Int).toNat ≤ 70368744177664 then (utf8_All.l0 k l0 ([]) l0 (l0.length : Int) 0 t118 t119 t120 t121) else (none)) else (none)) = some (r1, r2, r3) := H
  have A2 := Aside0.mk A20
  clear A20
  by_cases c3 : 0 ≤ (l0.length : Int)
  · rw [if_pos c3] at H
    have c3b0 := eq_true c3
    have c3b1 : decide (0 ≤ (l0.length : Int)) = true := decide_eq_true c3
    clear c3
    by_cases c4 : ((l0.length : Int) : Int).toNat ≤ 70368744177664
    · rw [if_pos c4] at H
      have c4b0 := eq_true c4
      have c4b1 : decide (((l0.length : Int) : Int).toNat ≤ 70368744177664) = true := decide_eq_true c4
      clear c4
      obtain ⟨y123, hy123⟩ : ∃ y_ : List Int, y_ = ([]) := ⟨_, rfl⟩
      replace H : (utf8_All.l0 k l0 y123 l0 (l0.length : Int) 0 t118 t119 t120 t121) = some (r1, r2, r3) := by first | (rw [hy123]; with_reducible exact H) | (have H2_ := (Option.bind_some _ _).symm.trans H; rw [hy123]; with_reducible exact H2_) | (have H2_ := (Option.bind_some _ _).symm.trans H; with_reducible exact H2_) | with_reducible exact H | (rw [hy123]; exact H) | exact H
      have Ny123 := Aside0.mk hy123
      clear hy123
      have H' := Aside0.mk H
      clear H
      go_enter Try.func11, Try.ntmps11
      go_wp2_with (first | ((with_reducible refine gate_callee (f := 20) rfl ?_); refine goesL_ (some 11) rfl rfl Try.func20 (by kernel_rfl) rfl #[] rfl (by (try simp only [List.map_toArray, List.map_cons, List.map_nil]); first | done | rfl | (simp only [List.length_drop, List.length_take]; rfl)) ?_; (with_reducible refine (utf8_New.calls  t118 t119 t120 t121 w _ ?side1 A2.out).mono ?_); (case side1 => repeat (first | (with_reducible first | exact HB.out | apply below_alloc | apply pw_below_drewN | apply below_drew1) | exact HB.out)); rintro e w5 ⟨g122, rfl, hi, hb, hb2⟩; refine ⟨_, rfl, ?_⟩; have n0_ := Aside0.mk (hb); have n1_ := Aside0.mk (hi); clear HB; have HB := n0_; have HI122 := n1_; clear n0_ n1_; (try clear hb); (try clear hb2); (try clear hk); (try clear hi)) | ((with_reducible refine gate_dst (N := 14) rfl ?_); refine Kd.R_makecap (Kd.int .i32) _ 21 rfl (N := 14) rfl 23 _ _ rfl (l0.length : Int) rfl rfl Try.underlying23 (.int .i32 0) 4 info21 rfl (by decide) (by omega) 0 (ok := fun _ => True) (okp := fun _ => True) rfl (fun _ hk => hk) trivial (of_decide_eq_true (by first | (with_reducible assumption) | assumption)) (Nat.le_trans (Nat.mul_le_mul_right _ (of_decide_eq_true (by first | (with_reducible assumption) | assumption) : (l0.length : Int).toNat ≤ 70368744177664)) (by omega)) (Below.refl _ _) (Nat.le_refl _) ?_; intro v124 w6 ho7 hb hg_ hnew_; clear hg_ hnew_; (first | rw [← Ny123.out] at ho7 | (simp only [Int.reduceToNat] at ho7; rw [← Ny123.out] at ho7)); have n0_ := Aside0.mk (Kd.R_lower ho7 (below_size (by repeat (first | (with_reducible first | exact HB.out | apply below_alloc | apply pw_below_drewN | apply below_drew1 | refine below_set ?_ (IsS53.ge HI122.out)) | exact HB.out)))); have n1_ := Aside0.mk (IsS53.below (by repeat (first | (with_reducible first | exact HI122.out | apply IsS53.alloc | apply IsS53.drewN | apply IsS53.drew | apply IsS53.set_0 | apply IsS53.set_1 | apply IsS53.set_2 | apply IsS53.set_3) | exact HI122.out)) hb); have n2_ := Aside0.mk (below_step (by repeat (first | (with_reducible first | exact HB.out | apply below_alloc | apply pw_below_drewN | apply below_drew1 | refine below_set ?_ (IsS53.ge HI122.out)) | exact HB.out)) hb); clear HI122; clear HB; have HO125 := n0_; have HI122 := n1_; have HB := n2_; clear n0_ n1_ n2_; clear hb ho7))
      go_loopg [6, 17] k (fun kq v6 v17 w' => ∃ (x6_1 : List Int) (x17_1 : Int) (x123000_1 : Int) (x123001_1 : Int) (x123002_1 : Int) (x123003_1 : Int), v17 = .int .i64 x17_1 ∧ Aside0 (utf8_All.l0 kq l0 x6_1 l0 (l0.length : Int) x17_1 x123000_1 x123001_1 x123002_1 x123003_1 = some (r1, r2, r3)) ∧ Aside0 (kq ≤ k) ∧ Aside0 (Kd.R (Kd.int .i32) 21 w' w.heap.size (fun _ => True) v6 x6_1) ∧ Aside0 (IsS53 w w' g122 x123000_1 x123001_1 x123002_1 x123003_1) ∧ Aside0 (Below w.heap.size w w'))
      case atStart => exact ⟨(y123), (0), (t118), (t119), (t120), (t121), (by first | rfl | (simp; done) | (simp [*]; done)), H', ⟨Nat.le_refl _⟩, ⟨by (with_reducible repeat (first | apply Kd.R_alloc | apply Kd.R_drewN | apply Kd.R_drew)); exact HO125.out⟩, ⟨by repeat (first | (with_reducible first | exact HI122.out | apply IsS53.alloc | apply IsS53.drewN | apply IsS53.drew | apply IsS53.set_0 | apply IsS53.set_1 | apply IsS53.set_2 | apply IsS53.set_3) | exact HI122.out)⟩, ⟨by repeat (first | (with_reducible first | exact HB.out | apply below_alloc | apply pw_below_drewN | apply below_drew1 | refine below_set ?_ (IsS53.ge HI122.out)) | exact HB.out)⟩⟩
      case round =>
        clear H'
        try clear c1
        try clear c2
        try clear p2
        try clear c3
        try clear c3b0
        try clear c3b1
        try clear c4
        try clear c4b0
        try clear c4b1
        obtain ⟨x6_1, x17_1, x123000_1, x123001_1, x123002_1, x123003_1, rfl, HA, HK1, HO_6, HI122, HB⟩ := hrel
        cases gk with
        | zero => exact absurd HA.out (by simp [utf8_All.l0])
        | succ k1 =>
          have H := HA.out
          clear HA
          simp only [utf8_All.l0] at H
          by_cases c8 : x17_1 < (l0.length : Int)
          · rw [if_pos c8] at H
            have c8b0 : decide (x17_1 < (l0.length : Int)) = true := decide_eq_true c8
            clear c8
            by_cases c9 : 0 ≤ x17_1
            · rw [if_pos c9] at H
              have c9b0 : decide (0 ≤ x17_1) = true := decide_eq_true c9
              clear c9
              by_cases c10 : x17_1 < (l0.length : Int)
              · rw [if_pos c10] at H
                have c10b0 : decide (x17_1 < (l0.length : Int)) = true := decide_eq_true c10
                clear c10
                replace H := Option.bind_eq_some_iff.mp H
                obtain ⟨⟨t132, t133, t134, t135, t136, t137⟩, A110, H⟩ := H
                replace H : (if t133 = 2 then (if x6_1.length < 35184372088832 then (utf8_All.l0 k1 l0 (x6_1 ++ [t132]) l0 (l0.length : Int) (wrap64 (x17_1 + 1)) t134 t135 t136 t137) else (none)) else (if t133 = 3 then (some (([] : List Int), x17_1, false)) else (utf8_All.l0 k1 l0 x6_1 l0 (l0.length : Int) (wrap64 (x17_1 + 1)) t134 t135 t136 t137))) = some (r1, r2, r3) := H
                have A11 := Aside0.mk A110
                clear A110
                by_cases c12 : t133 = 2
                · rw [if_pos c12] at H
                  have c12b0 : (t133 == 2) = true := beq_iff_eq.mpr c12
                  have c12b1 : (t133 != 2) = false := bne_eq_false_iff_eq.mpr c12
                  clear c12
                  by_cases c13 : x6_1.length < 35184372088832
                  · rw [if_pos c13] at H
                    have LMc13 := Aside0.mk c13
                    clear c13
                    obtain ⟨y138, hy138⟩ : ∃ y_ : List Int, y_ = (x6_1 ++ [t132]) := ⟨_, rfl⟩
                    replace H : (utf8_All.l0 k1 l0 y138 l0 (l0.length : Int) (wrap64 (x17_1 + 1)) t134 t135 t136 t137) = some (r1, r2, r3) := by first | (rw [hy138]; with_reducible exact H) | (have H2_ := (Option.bind_some _ _).symm.trans H; rw [hy138]; with_reducible exact H2_) | (have H2_ := (Option.bind_some _ _).symm.trans H; with_reducible exact H2_) | with_reducible exact H | (rw [hy138]; exact H) | exact H
                    have Ny138 := Aside0.mk hy138
                    clear hy138
                    have H' := Aside0.mk H
                    clear H
                    have p131 : 0 ≤ (x17_1 : Int) := of_decide_eq_true (by first | (with_reducible assumption) | assumption)
                    have q131 : x17_1 < (l0.length : Int) := of_decide_eq_true (by first | (with_reducible assumption) | assumption)
                    obtain ⟨ad131, e131, hx131_0⟩ := Kd.at_int HR0.out x17_1 p131 q131
                    cases e131
                    replace hx131_0 := (HB.out.cell (World.block_lt_of_cell? w _ hx131_0)).trans hx131_0
                    replace p131 := eq_true p131
                    replace q131 := eq_true q131
                    go_wp2_with (first | ((with_reducible refine gate_callee (f := 21) rfl ?_); refine goesL_ (some 25) rfl rfl Try.func21 (by kernel_rfl) rfl #[.pointer (some ⟨g122, 0, none⟩), .int .u8 (rd l0 x17_1)] rfl (by (try simp only [List.map_toArray, List.map_cons, List.map_nil]); first | done | rfl | (simp only [List.length_drop, List.length_take]; rfl)) ?_; (with_reducible refine (utf8_Reader_Push.calls k1 g122 x123000_1 x123001_1 x123002_1 x123003_1 (rd l0 x17_1) t132 t133 t134 t135 t136 t137 w _ ?side1 ?side2 A11.out).mono ?_); (case side1 => repeat (first | (with_reducible first | exact HI122.out | apply IsS53.alloc | apply IsS53.drewN | apply IsS53.drew | apply IsS53.set_0 | apply IsS53.set_1 | apply IsS53.set_2 | apply IsS53.set_3) | exact HI122.out)); (case side2 => repeat (first | (with_reducible first | exact HB.out | apply below_alloc | apply pw_below_drewN | apply below_drew1 | refine below_set ?_ (IsS53.ge HI122.out)) | exact HB.out)); rintro e w14 ⟨rfl, hi, hb, hk⟩; refine ⟨_, rfl, ?_⟩; have n0_ := Aside0.mk (Kd.R_mono (Kd.R_keep (IsS53.apart (show IsS53 w _ g122 x123000_1 x123001_1 x123002_1 x123003_1 from by repeat (first | (with_reducible first | exact HI122.out | apply IsS53.alloc | apply IsS53.drewN | apply IsS53.drew | apply IsS53.set_0 | apply IsS53.set_1 | apply IsS53.set_2 | apply IsS53.set_3) | exact HI122.out)) (by (with_reducible repeat (first | apply Kd.R_alloc | apply Kd.R_drewN | apply Kd.R_drew)); exact HO_6.out) (by decide)) hk (fun _ h => h.2)) (fun _ h => h.1)); have n1_ := Aside0.mk (hb); have n2_ := Aside0.mk (hi); clear HO_6; clear HB; clear HI122; have HO_6 := n0_; have HB := n1_; have HI122 := n2_; clear n0_ n1_ n2_; (try clear hb); (try clear hb2); (try clear hk); (try clear hi)) | ((with_reducible refine gate_builtin (b := .append) (xs := #[.tmp 31, .tmp 33]) rfl ?_); at_builtin; refine Kd.R_append (Kd.int .i32) (w0 := w) w.heap.size rfl (.tmp 31) (.tmp 33) 23 21 (.int .i32 0) 4 rfl Try.underlying23 info21 rfl (by decide) (by omega) u6 x6_1 t132 [.int .i32 t132] (fun _ => True) (fun _ => False) rfl rfl ?aP (fun _ hk => hk.elim) ?aF ?aO ?aB ?aS ?aL ?_; (case aP => exact rfl); (case aB => exact (by repeat (first | (with_reducible first | exact HB.out | apply below_alloc | apply pw_below_drewN | apply below_drew1 | refine below_set ?_ (IsS53.ge HI122.out)) | exact HB.out))); (case aF => exact (fun _ _ => trivial)); (case aO => exact (by (with_reducible repeat (first | apply Kd.R_alloc | apply Kd.R_drewN | apply Kd.R_drew)); exact HO_6.out)); (case aS => exact (below_size (by repeat (first | (with_reducible first | exact HB.out | apply below_alloc | apply pw_below_drewN | apply below_drew1 | refine below_set ?_ (IsS53.ge HI122.out)) | exact HB.out)))); (case aL => have := LMc13.out; omega); intro v139 w15 ho hb hg hat; rw [← Ny138.out] at ho; have n0_ := Aside0.mk (IsS53.grown (by repeat (first | (with_reducible first | exact HI122.out | apply IsS53.alloc | apply IsS53.drewN | apply IsS53.drew | apply IsS53.set_0 | apply IsS53.set_1 | apply IsS53.set_2 | apply IsS53.set_3) | exact HI122.out)) hg (IsS53.own_ne HI122.out HO_6.out (by decide))); have n1_ := Aside0.mk (hb); have n2_ := Aside0.mk (ho); clear HI122; clear HB; clear HO_6; have HI122 := n0_; have HB := n1_; have HO140 := n2_; clear n0_ n1_ n2_; clear ho hb hg hat))
                    go_roundg k1
                    case measure => have := HK1.out; omega
                    case rel => exact ⟨(y138), (wrap64 (x17_1 + 1)), (t134), (t135), (t136), (t137), (by first | rfl | (simp; done) | (simp [*]; done)), H', ⟨by have := HK1.out; omega⟩, ⟨by (with_reducible repeat (first | apply Kd.R_alloc | apply Kd.R_drewN | apply Kd.R_drew)); exact HO140.out⟩, ⟨by repeat (first | (with_reducible first | exact HI122.out | apply IsS53.alloc | apply IsS53.drewN | apply IsS53.drew | apply IsS53.set_0 | apply IsS53.set_1 | apply IsS53.set_2 | apply IsS53.set_3) | exact HI122.out)⟩, ⟨by repeat (first | (with_reducible first | exact HB.out | apply below_alloc | apply pw_below_drewN | apply below_drew1 | refine below_set ?_ (IsS53.ge HI122.out)) | exact HB.out)⟩⟩
                  · rw [if_neg c13] at H
                    exact absurd H (by simp)
                · rw [if_neg c12] at H
                  have c12b0 : (t133 == 2) = false := beq_eq_false_iff_ne.mpr c12
                  have c12b1 : (t133 != 2) = true := bne_iff_ne.mpr c12
                  by_cases c16 : t133 = 3
                  · rw [if_pos c16] at H
                    have c16b0 : (t133 == 3) = true := beq_iff_eq.mpr c16
                    have c16b1 : (t133 != 3) = false := bne_eq_false_iff_eq.mpr c16
                    clear c16
                    simp only [Option.some.injEq, Prod.mk.injEq] at H
                    obtain ⟨rfl, rfl, rfl⟩ := H
                    have p131 : 0 ≤ (x17_1 : Int) := of_decide_eq_true (by first | (with_reducible assumption) | assumption)
                    have q131 : x17_1 < (l0.length : Int) := of_decide_eq_true (by first | (with_reducible assumption) | assumption)
                    obtain ⟨ad131, e131, hx131_0⟩ := Kd.at_int HR0.out x17_1 p131 q131
                    cases e131
                    replace hx131_0 := (HB.out.cell (World.block_lt_of_cell? w _ hx131_0)).trans hx131_0
                    replace p131 := eq_true p131
                    replace q131 := eq_true q131
                    go_wp2_with (first | ((with_reducible refine gate_callee (f := 21) rfl ?_); refine goesL_ (some 25) rfl rfl Try.func21 (by kernel_rfl) rfl #[.pointer (some ⟨g122, 0, none⟩), .int .u8 (rd l0 x17_1)] rfl (by (try simp only [List.map_toArray, List.map_cons, List.map_nil]); first | done | rfl | (simp only [List.length_drop, List.length_take]; rfl)) ?_; (with_reducible refine (utf8_Reader_Push.calls k1 g122 x123000_1 x123001_1 x123002_1 x123003_1 (rd l0 x17_1) t132 t133 t134 t135 t136 t137 w _ ?side1 ?side2 A11.out).mono ?_); (case side1 => repeat (first | (with_reducible first | exact HI122.out | apply IsS53.alloc | apply IsS53.drewN | apply IsS53.drew | apply IsS53.set_0 | apply IsS53.set_1 | apply IsS53.set_2 | apply IsS53.set_3) | exact HI122.out)); (case side2 => repeat (first | (with_reducible first | exact HB.out | apply below_alloc | apply pw_below_drewN | apply below_drew1 | refine below_set ?_ (IsS53.ge HI122.out)) | exact HB.out)); rintro e w17 ⟨rfl, hi, hb, hk⟩; refine ⟨_, rfl, ?_⟩; have n0_ := Aside0.mk (Kd.R_mono (Kd.R_keep (IsS53.apart (show IsS53 w _ g122 x123000_1 x123001_1 x123002_1 x123003_1 from by repeat (first | (with_reducible first | exact HI122.out | apply IsS53.alloc | apply IsS53.drewN | apply IsS53.drew | apply IsS53.set_0 | apply IsS53.set_1 | apply IsS53.set_2 | apply IsS53.set_3) | exact HI122.out)) (by (with_reducible repeat (first | apply Kd.R_alloc | apply Kd.R_drewN | apply Kd.R_drew)); exact HO_6.out) (by decide)) hk (fun _ h => h.2)) (fun _ h => h.1)); have n1_ := Aside0.mk (hb); have n2_ := Aside0.mk (hi); clear HO_6; clear HB; clear HI122; have HO_6 := n0_; have HB := n1_; have HI122 := n2_; clear n0_ n1_ n2_; (try clear hb); (try clear hb2); (try clear hk); (try clear hi)))
                    go_ret3
                    exact ⟨_, by first | rfl | (simp [errW_none, errW_some] <;> rfl) | (simp [*, errW_none, errW_some] <;> rfl), by first | exact Kd.R_nil _ _ _ _ _ | exact Kd.N_nil _ _ _ _ _ | exact Kd.V_nil _ _ _ _ _ | exact Kd.Q_nil _ _ _ _ _ | exact Kd.S_nil _ _ _ _ _, by repeat (first | (with_reducible first | exact HB.out | apply below_alloc | apply pw_below_drewN | apply below_drew1 | refine below_set ?_ (IsS53.ge HI122.out)) | exact HB.out)⟩
                  · rw [if_neg c16] at H
                    have c16b0 : (t133 == 3) = false := beq_eq_false_iff_ne.mpr c16
                    have c16b1 : (t133 != 3) = true := bne_iff_ne.mpr c16
                    have H' := Aside0.mk H
                    clear H
                    have p131 : 0 ≤ (x17_1 : Int) := of_decide_eq_true (by first | (with_reducible assumption) | assumption)
                    have q131 : x17_1 < (l0.length : Int) := of_decide_eq_true (by first | (with_reducible assumption) | assumption)
                    obtain ⟨ad131, e131, hx131_0⟩ := Kd.at_int HR0.out x17_1 p131 q131
                    cases e131
                    replace hx131_0 := (HB.out.cell (World.block_lt_of_cell? w _ hx131_0)).trans hx131_0
                    replace p131 := eq_true p131
                    replace q131 := eq_true q131
                    go_wp2_with (first | ((with_reducible refine gate_callee (f := 21) rfl ?_); refine goesL_ (some 25) rfl rfl Try.func21 (by kernel_rfl) rfl #[.pointer (some ⟨g122, 0, none⟩), .int .u8 (rd l0 x17_1)] rfl (by (try simp only [List.map_toArray, List.map_cons, List.map_nil]); first | done | rfl | (simp only [List.length_drop, List.length_take]; rfl)) ?_; (with_reducible refine (utf8_Reader_Push.calls k1 g122 x123000_1 x123001_1 x123002_1 x123003_1 (rd l0 x17_1) t132 t133 t134 t135 t136 t137 w _ ?side1 ?side2 A11.out).mono ?_); (case side1 => repeat (first | (with_reducible first | exact HI122.out | apply IsS53.alloc | apply IsS53.drewN | apply IsS53.drew | apply IsS53.set_0 | apply IsS53.set_1 | apply IsS53.set_2 | apply IsS53.set_3) | exact HI122.out)); (case side2 => repeat (first | (with_reducible first | exact HB.out | apply below_alloc | apply pw_below_drewN | apply below_drew1 | refine below_set ?_ (IsS53.ge HI122.out)) | exact HB.out)); rintro e w18 ⟨rfl, hi, hb, hk⟩; refine ⟨_, rfl, ?_⟩; have n0_ := Aside0.mk (Kd.R_mono (Kd.R_keep (IsS53.apart (show IsS53 w _ g122 x123000_1 x123001_1 x123002_1 x123003_1 from by repeat (first | (with_reducible first | exact HI122.out | apply IsS53.alloc | apply IsS53.drewN | apply IsS53.drew | apply IsS53.set_0 | apply IsS53.set_1 | apply IsS53.set_2 | apply IsS53.set_3) | exact HI122.out)) (by (with_reducible repeat (first | apply Kd.R_alloc | apply Kd.R_drewN | apply Kd.R_drew)); exact HO_6.out) (by decide)) hk (fun _ h => h.2)) (fun _ h => h.1)); have n1_ := Aside0.mk (hb); have n2_ := Aside0.mk (hi); clear HO_6; clear HB; clear HI122; have HO_6 := n0_; have HB := n1_; have HI122 := n2_; clear n0_ n1_ n2_; (try clear hb); (try clear hb2); (try clear hk); (try clear hi)))
                    go_roundg k1
                    case measure => have := HK1.out; omega
                    case rel => exact ⟨(x6_1), (wrap64 (x17_1 + 1)), (t134), (t135), (t136), (t137), (by first | rfl | (simp; done) | (simp [*]; done)), H', ⟨by have := HK1.out; omega⟩, ⟨by (with_reducible repeat (first | apply Kd.R_alloc | apply Kd.R_drewN | apply Kd.R_drew)); exact HO_6.out⟩, ⟨by repeat (first | (with_reducible first | exact HI122.out | apply IsS53.alloc | apply IsS53.drewN | apply IsS53.drew | apply IsS53.set_0 | apply IsS53.set_1 | apply IsS53.set_2 | apply IsS53.set_3) | exact HI122.out)⟩, ⟨by repeat (first | (with_reducible first | exact HB.out | apply below_alloc | apply pw_below_drewN | apply below_drew1 | refine below_set ?_ (IsS53.ge HI122.out)) | exact HB.out)⟩⟩
              · rw [if_neg c10] at H
                exact absurd H (by simp)
            · rw [if_neg c9] at H
              exact absurd H (by simp)
          · rw [if_neg c8] at H
            have c8b0 : decide (x17_1 < (l0.length : Int)) = false := decide_eq_false c8
            clear c8
            replace H := Option.bind_eq_some_iff.mp H
            obtain ⟨⟨t126, t127, t128, t129, t130⟩, A190, H⟩ := H
            replace H : (if t126 > 0 then (some (([] : List Int), (l0.length : Int), false)) else (some (x6_1, (l0.length : Int), true))) = some (r1, r2, r3) := H
            have A19 := Aside0.mk A190
            clear A190
            by_cases c20 : t126 > 0
            · rw [if_pos c20] at H
              have c20b0 : decide (0 < t126) = true := decide_eq_true c20
              clear c20
              simp only [Option.some.injEq, Prod.mk.injEq] at H
              obtain ⟨rfl, rfl, rfl⟩ := H
              go_wp2_with (first | ((with_reducible refine gate_callee (f := 23) rfl ?_); refine goesL_ (some 40) rfl rfl Try.func23 (by kernel_rfl) rfl #[.pointer (some ⟨g122, 0, none⟩)] rfl (by (try simp only [List.map_toArray, List.map_cons, List.map_nil]); first | done | rfl | (simp only [List.length_drop, List.length_take]; rfl)) ?_; (with_reducible refine (utf8_Reader_Left.calls g122 x123000_1 x123001_1 x123002_1 x123003_1 t126 t127 t128 t129 t130 w _ ?side1 ?side2 A19.out).mono ?_); (case side1 => repeat (first | (with_reducible first | exact HI122.out | apply IsS53.alloc | apply IsS53.drewN | apply IsS53.drew | apply IsS53.set_0 | apply IsS53.set_1 | apply IsS53.set_2 | apply IsS53.set_3) | exact HI122.out)); (case side2 => repeat (first | (with_reducible first | exact HB.out | apply below_alloc | apply pw_below_drewN | apply below_drew1 | refine below_set ?_ (IsS53.ge HI122.out)) | exact HB.out)); rintro e w21 ⟨rfl, hi, hb, hk⟩; refine ⟨_, rfl, ?_⟩; have n0_ := Aside0.mk (Kd.R_mono (Kd.R_keep (IsS53.apart (show IsS53 w _ g122 x123000_1 x123001_1 x123002_1 x123003_1 from by repeat (first | (with_reducible first | exact HI122.out | apply IsS53.alloc | apply IsS53.drewN | apply IsS53.drew | apply IsS53.set_0 | apply IsS53.set_1 | apply IsS53.set_2 | apply IsS53.set_3) | exact HI122.out)) (by (with_reducible repeat (first | apply Kd.R_alloc | apply Kd.R_drewN | apply Kd.R_drew)); exact HO_6.out) (by decide)) hk (fun _ h => h.2)) (fun _ h => h.1)); have n1_ := Aside0.mk (hb); have n2_ := Aside0.mk (hi); clear HO_6; clear HB; clear HI122; have HO_6 := n0_; have HB := n1_; have HI122 := n2_; clear n0_ n1_ n2_; (try clear hb); (try clear hb2); (try clear hk); (try clear hi)))
              go_ret3
              exact ⟨_, by first | rfl | (simp [errW_none, errW_some] <;> rfl) | (simp [*, errW_none, errW_some] <;> rfl), by first | exact Kd.R_nil _ _ _ _ _ | exact Kd.N_nil _ _ _ _ _ | exact Kd.V_nil _ _ _ _ _ | exact Kd.Q_nil _ _ _ _ _ | exact Kd.S_nil _ _ _ _ _, by repeat (first | (with_reducible first | exact HB.out | apply below_alloc | apply pw_below_drewN | apply below_drew1 | refine below_set ?_ (IsS53.ge HI122.out)) | exact HB.out)⟩
            · rw [if_neg c20] at H
              have c20b0 : decide (0 < t126) = false := decide_eq_false c20
              clear c20
              simp only [Option.some.injEq, Prod.mk.injEq] at H
              obtain ⟨rfl, rfl, rfl⟩ := H
              go_wp2_with (first | ((with_reducible refine gate_callee (f := 23) rfl ?_); refine goesL_ (some 40) rfl rfl Try.func23 (by kernel_rfl) rfl #[.pointer (some ⟨g122, 0, none⟩)] rfl (by (try simp only [List.map_toArray, List.map_cons, List.map_nil]); first | done | rfl | (simp only [List.length_drop, List.length_take]; rfl)) ?_; (with_reducible refine (utf8_Reader_Left.calls g122 x123000_1 x123001_1 x123002_1 x123003_1 t126 t127 t128 t129 t130 w _ ?side1 ?side2 A19.out).mono ?_); (case side1 => repeat (first | (with_reducible first | exact HI122.out | apply IsS53.alloc | apply IsS53.drewN | apply IsS53.drew | apply IsS53.set_0 | apply IsS53.set_1 | apply IsS53.set_2 | apply IsS53.set_3) | exact HI122.out)); (case side2 => repeat (first | (with_reducible first | exact HB.out | apply below_alloc | apply pw_below_drewN | apply below_drew1 | refine below_set ?_ (IsS53.ge HI122.out)) | exact HB.out)); rintro e w22 ⟨rfl, hi, hb, hk⟩; refine ⟨_, rfl, ?_⟩; have n0_ := Aside0.mk (Kd.R_mono (Kd.R_keep (IsS53.apart (show IsS53 w _ g122 x123000_1 x123001_1 x123002_1 x123003_1 from by repeat (first | (with_reducible first | exact HI122.out | apply IsS53.alloc | apply IsS53.drewN | apply IsS53.drew | apply IsS53.set_0 | apply IsS53.set_1 | apply IsS53.set_2 | apply IsS53.set_3) | exact HI122.out)) (by (with_reducible repeat (first | apply Kd.R_alloc | apply Kd.R_drewN | apply Kd.R_drew)); exact HO_6.out) (by decide)) hk (fun _ h => h.2)) (fun _ h => h.1)); have n1_ := Aside0.mk (hb); have n2_ := Aside0.mk (hi); clear HO_6; clear HB; clear HI122; have HO_6 := n0_; have HB := n1_; have HI122 := n2_; clear n0_ n1_ n2_; (try clear hb); (try clear hb2); (try clear hk); (try clear hi)))
              go_ret3
              exact ⟨_, by first | rfl | (simp [errW_none, errW_some] <;> rfl) | (simp [*, errW_none, errW_some] <;> rfl), by (with_reducible repeat (first | apply Kd.R_alloc | apply Kd.R_drewN | apply Kd.R_drew)); exact HO_6.out, by repeat (first | (with_reducible first | exact HB.out | apply below_alloc | apply pw_below_drewN | apply below_drew1 | refine below_set ?_ (IsS53.ge HI122.out)) | exact HB.out)⟩
    · rw [if_neg c4] at H
      exact absurd H (by simp)
  · rw [if_neg c3] at H
    exact absurd H (by simp)

/-! ### scalar_Is: function 28 -/
def scalar_Is.f (a0 : Int) : Option (Bool) := if a0 ≥ 0 then (if a0 ≤ 1114111 then (if a0 < 55296 then (some true) else (some (decide (a0 > 57343)))) else (some false)) else (some false)
set_option maxHeartbeats 8000000 in
set_option maxRecDepth 100000 in
theorem scalar_Is.calls (a0 : Int) (r : Bool) (w : World) (h : scalar_Is.f a0 = some r) :
    Calls Try.prog 28 #[.int .i32 a0] w fun e w' => e = .returned (.bool r) ∧ Drawn0 w w' := by
  have H : (if a0 ≥ 0 then (if a0 ≤ 1114111 then (if a0 < 55296 then (some true) else (some (decide (a0 > 57343)))) else (some false)) else (some false)) = some r := h
  clear h
  by_cases c2 : a0 ≥ 0
  · rw [if_pos c2] at H
    have c2b0 : decide (0 ≤ a0) = true := decide_eq_true c2
    clear c2
    by_cases c3 : a0 ≤ 1114111
    · rw [if_pos c3] at H
      have c3b0 : decide (a0 ≤ 1114111) = true := decide_eq_true c3
      clear c3
      by_cases c4 : a0 < 55296
      · rw [if_pos c4] at H
        have c4b0 : decide (a0 < 55296) = true := decide_eq_true c4
        clear c4
        obtain rfl := Option.some.inj H
        go_enter Try.func28, Try.ntmps28
        go_wp2
        go_ret
        exact ⟨by first | rfl | (simp; done) | (simp [*]; done), by repeat (first | exact Drawn0.refl _ | apply Drawn0.step)⟩
      · rw [if_neg c4] at H
        have c4b0 : decide (a0 < 55296) = false := decide_eq_false c4
        clear c4
        obtain rfl := Option.some.inj H
        go_enter Try.func28, Try.ntmps28
        go_wp2
        go_ret
        exact ⟨by first | rfl | (simp; done) | (simp [*]; done), by repeat (first | exact Drawn0.refl _ | apply Drawn0.step)⟩
    · rw [if_neg c3] at H
      have c3b0 : decide (a0 ≤ 1114111) = false := decide_eq_false c3
      clear c3
      obtain rfl := Option.some.inj H
      go_enter Try.func28, Try.ntmps28
      go_wp2
      go_ret
      exact ⟨by first | rfl | (simp; done) | (simp [*]; done), by repeat (first | exact Drawn0.refl _ | apply Drawn0.step)⟩
  · rw [if_neg c2] at H
    have c2b0 : decide (0 ≤ a0) = false := decide_eq_false c2
    clear c2
    obtain rfl := Option.some.inj H
    go_enter Try.func28, Try.ntmps28
    go_wp2
    go_ret
    exact ⟨by first | rfl | (simp; done) | (simp [*]; done), by repeat (first | exact Drawn0.refl _ | apply Drawn0.step)⟩

/-! ### utf8_Bytes: function 16 -/
def utf8_Bytes.f (a0 : Int) : Option (List Int) := (scalar_Is.f a0).bind fun t141 => (if t141 = true then (if a0 < 128 then (some (([(a0) % 256] : List Int))) else (if a0 < 2048 then (some (([(Go.bits .or .i32 192 (a0 / 64)) % 256, (Go.bits .or .i32 128 (Go.bits .and .i32 a0 63)) % 256] : List Int))) else (if a0 < 65536 then (some (([(Go.bits .or .i32 224 (a0 / 4096)) % 256, (Go.bits .or .i32 128 (Go.bits .and .i32 (a0 / 64) 63)) % 256, (Go.bits .or .i32 128 (Go.bits .and .i32 a0 63)) % 256] : List Int))) else (some (([(Go.bits .or .i32 240 (a0 / 262144)) % 256, (Go.bits .or .i32 128 (Go.bits .and .i32 (a0 / 4096) 63)) % 256, (Go.bits .or .i32 128 (Go.bits .and .i32 (a0 / 64) 63)) % 256, (Go.bits .or .i32 128 (Go.bits .and .i32 a0 63)) % 256] : List Int)))))) else (some ([] : List Int)))
set_option maxHeartbeats 8000000 in
set_option maxRecDepth 100000 in
theorem utf8_Bytes.calls (a0 : Int) (r : List Int) (w : World) (h : utf8_Bytes.f a0 = some r) :
    Calls Try.prog 16 #[.int .i32 a0] w fun e w' => ∃ v0_ : Value, e = .returned (v0_) ∧ Kd.R (Kd.int .u8) 5 w' w.heap.size (fun _ => True) v0_ r ∧ Below w.heap.size w w' := by
  have HB := Aside0.mk (Below.refl w.heap.size w)
  have H : ((scalar_Is.f a0).bind fun t141 => (if t141 = true then (if a0 < 128 then (some (([(a0) % 256] : List Int))) else (if a0 < 2048 then (some (([(Go.bits .or .i32 192 (a0 / 64)) % 256, (Go.bits .or .i32 128 (Go.bits .and .i32 a0 63)) % 256] : List Int))) else (if a0 < 65536 then (some (([(Go.bits .or .i32 224 (a0 / 4096)) % 256, (Go.bits .or .i32 128 (Go.bits .and .i32 (a0 / 64) 63)) % 256, (Go.bits .or .i32 128 (Go.bits .and .i32 a0 63)) % 256] : List Int))) else (some (([(Go.bits .or .i32 240 (a0 / 262144)) % 256, (Go.bits .or .i32 128 (Go.bits .and .i32 (a0 / 4096) 63)) % 256, (Go.bits .or .i32 128 (Go.bits .and .i32 (a0 / 64) 63)) % 256, (Go.bits .or .i32 128 (Go.bits .and .i32 a0 63)) % 256] : List Int)))))) else (some ([] : List Int)))) = some r := h
  clear h
  replace H := Option.bind_eq_some_iff.mp H
  obtain ⟨t141, A20, H⟩ := H
  replace H : (if t141 = true then (if a0 < 128 then (some (([(a0) % 256] : List Int))) else (if a0 < 2048 then (some (([(Go.bits .or .i32 192 (a0 / 64)) % 256, (Go.bits .or .i32 128 (Go.bits .and .i32 a0 63)) % 256] : List Int))) else (if a0 < 65536 then (some (([(Go.bits .or .i32 224 (a0 / 4096)) % 256, (Go.bits .or .i32 128 (Go.bits .and .i32 (a0 / 64) 63)) % 256, (Go.bits .or .i32 128 (Go.bits .and .i32 a0 63)) % 256] : List Int))) else (some (([(Go.bits .or .i32 240 (a0 / 262144)) % 256, (Go.bits .or .i32 128 (Go.bits .and .i32 (a0 / 4096) 63)) % 256, (Go.bits .or .i32 128 (Go.bits .and .i32 (a0 / 64) 63)) % 256, (Go.bits .or .i32 128 (Go.bits .and .i32 a0 63)) % 256] : List Int)))))) else (some ([] : List Int))) = some r := H
  have A2 := Aside0.mk A20
  clear A20
  by_cases c3 : t141 = true
  · subst c3
    have H1 : (if a0 < 128 then (some (([(a0) % 256] : List Int))) else (if a0 < 2048 then (some (([(Go.bits .or .i32 192 (a0 / 64)) % 256, (Go.bits .or .i32 128 (Go.bits .and .i32 a0 63)) % 256] : List Int))) else (if a0 < 65536 then (some (([(Go.bits .or .i32 224 (a0 / 4096)) % 256, (Go.bits .or .i32 128 (Go.bits .and .i32 (a0 / 64) 63)) % 256, (Go.bits .or .i32 128 (Go.bits .and .i32 a0 63)) % 256] : List Int))) else (some (([(Go.bits .or .i32 240 (a0 / 262144)) % 256, (Go.bits .or .i32 128 (Go.bits .and .i32 (a0 / 4096) 63)) % 256, (Go.bits .or .i32 128 (Go.bits .and .i32 (a0 / 64) 63)) % 256, (Go.bits .or .i32 128 (Go.bits .and .i32 a0 63)) % 256] : List Int)))))) = some r := by rw [if_pos rfl] at H; exact H
    clear H
    have H := H1
    clear H1
    by_cases c4 : a0 < 128
    · rw [if_pos c4] at H
      have c4b0 : decide (a0 < 128) = true := decide_eq_true c4
      clear c4
      obtain ⟨y142, hy142⟩ : ∃ y_ : List Int, y_ = (([(a0) % 256] : List Int)) := ⟨_, rfl⟩
      replace H : (some y142) = some r := by first | (rw [hy142]; with_reducible exact H) | (have H2_ := (Option.bind_some _ _).symm.trans H; rw [hy142]; with_reducible exact H2_) | (have H2_ := (Option.bind_some _ _).symm.trans H; with_reducible exact H2_) | with_reducible exact H | (rw [hy142]; exact H) | exact H
      have Ny142 := Aside0.mk hy142
      clear hy142
      obtain rfl := Option.some.inj H
      go_enter Try.func16, Try.ntmps16
      go_wp2_with (first | ((with_reducible refine gate_callee (f := 28) rfl ?_); refine goesL_ (some 5) rfl rfl Try.func28 (by kernel_rfl) rfl #[.int .i32 a0] rfl (by (try simp only [List.map_toArray, List.map_cons, List.map_nil]); first | done | rfl | (simp only [List.length_drop, List.length_take]; rfl)) ?_; (with_reducible refine (scalar_Is.calls a0 true _ A2.out).mono ?_); rintro e w' ⟨rfl, ⟨nd, rfl⟩⟩; refine ⟨_, rfl, ?_⟩) | ((with_reducible refine gate_dst (N := 12) rfl ?_); refine Kd.R_lit (Kd.int .u8) _ 5 ?hg (N := 12) ?hd (xs := ([(a0) % 256] : List Int)) (inner := [.int .u8 ((a0) % 256)]) (ok := fun _ => True) (okp := fun _ => True) ?hr ?hp (fun _ hk => hk) trivial (Below.refl _ _) (Nat.le_refl _) (by simp) ?_; (case hd => rfl); (case hg => rfl); (case hr => first | (go_simp; done) | (go_simp; rfl)); (case hp => exact (Reps.one (show Kd.M (Kd.int .u8) _ _ _ ((a0) % 256) [.int .u8 ((a0) % 256)] from rfl) (Reps.none _ _))); intro v143 w5 ho6 hb hg_ hnew_; clear hg_ hnew_; (first | rw [← Ny142.out] at ho6 | (simp only [Int.reduceToNat] at ho6; rw [← Ny142.out] at ho6)); have n0_ := Aside0.mk (Kd.R_lower ho6 (below_size (by repeat (first | (with_reducible first | exact HB.out | apply below_alloc | apply pw_below_drewN | apply below_drew1) | exact HB.out)))); have n1_ := Aside0.mk (below_step (by repeat (first | (with_reducible first | exact HB.out | apply below_alloc | apply pw_below_drewN | apply below_drew1) | exact HB.out)) hb); clear HB; have HO144 := n0_; have HB := n1_; clear n0_ n1_; clear hb ho6))
      go_ret
      exact ⟨_, by first | rfl | (simp [errW_none, errW_some] <;> rfl) | (simp [*, errW_none, errW_some] <;> rfl), by (with_reducible repeat (first | apply Kd.R_alloc | apply Kd.R_drewN | apply Kd.R_drew)); exact HO144.out, by repeat (first | (with_reducible first | exact HB.out | apply below_alloc | apply pw_below_drewN | apply below_drew1) | exact HB.out)⟩
    · rw [if_neg c4] at H
      have c4b0 : decide (a0 < 128) = false := decide_eq_false c4
      clear c4
      by_cases c7 : a0 < 2048
      · rw [if_pos c7] at H
        have c7b0 : decide (a0 < 2048) = true := decide_eq_true c7
        clear c7
        obtain ⟨y145, hy145⟩ : ∃ y_ : List Int, y_ = (([(Go.bits .or .i32 192 (a0 / 64)) % 256, (Go.bits .or .i32 128 (Go.bits .and .i32 a0 63)) % 256] : List Int)) := ⟨_, rfl⟩
        replace H : (some y145) = some r := by first | (rw [hy145]; with_reducible exact H) | (have H2_ := (Option.bind_some _ _).symm.trans H; rw [hy145]; with_reducible exact H2_) | (have H2_ := (Option.bind_some _ _).symm.trans H; with_reducible exact H2_) | with_reducible exact H | (rw [hy145]; exact H) | exact H
        have Ny145 := Aside0.mk hy145
        clear hy145
        obtain rfl := Option.some.inj H
        go_enter Try.func16, Try.ntmps16
        go_wp2_with (first | ((with_reducible refine gate_callee (f := 28) rfl ?_); refine goesL_ (some 5) rfl rfl Try.func28 (by kernel_rfl) rfl #[.int .i32 a0] rfl (by (try simp only [List.map_toArray, List.map_cons, List.map_nil]); first | done | rfl | (simp only [List.length_drop, List.length_take]; rfl)) ?_; (with_reducible refine (scalar_Is.calls a0 true _ A2.out).mono ?_); rintro e w' ⟨rfl, ⟨nd, rfl⟩⟩; refine ⟨_, rfl, ?_⟩) | ((with_reducible refine gate_dst (N := 24) rfl ?_); refine Kd.R_lit (Kd.int .u8) _ 5 ?hg (N := 24) ?hd (xs := ([(Go.bits .or .i32 192 (a0 / 64)) % 256, (Go.bits .or .i32 128 (Go.bits .and .i32 a0 63)) % 256] : List Int)) (inner := [.int .u8 ((Go.bits .or .i32 192 (a0 / 64)) % 256), .int .u8 ((Go.bits .or .i32 128 (Go.bits .and .i32 a0 63)) % 256)]) (ok := fun _ => True) (okp := fun _ => True) ?hr ?hp (fun _ hk => hk) trivial (Below.refl _ _) (Nat.le_refl _) (by simp) ?_; (case hd => rfl); (case hg => rfl); (case hr => first | (go_simp; done) | (go_simp; rfl)); (case hp => exact (Reps.one (show Kd.M (Kd.int .u8) _ _ _ ((Go.bits .or .i32 192 (a0 / 64)) % 256) [.int .u8 ((Go.bits .or .i32 192 (a0 / 64)) % 256)] from rfl) (Reps.one (show Kd.M (Kd.int .u8) _ _ _ ((Go.bits .or .i32 128 (Go.bits .and .i32 a0 63)) % 256) [.int .u8 ((Go.bits .or .i32 128 (Go.bits .and .i32 a0 63)) % 256)] from rfl) (Reps.none _ _)))); intro v146 w8 ho9 hb hg_ hnew_; clear hg_ hnew_; (first | rw [← Ny145.out] at ho9 | (simp only [Int.reduceToNat] at ho9; rw [← Ny145.out] at ho9)); have n0_ := Aside0.mk (Kd.R_lower ho9 (below_size (by repeat (first | (with_reducible first | exact HB.out | apply below_alloc | apply pw_below_drewN | apply below_drew1) | exact HB.out)))); have n1_ := Aside0.mk (below_step (by repeat (first | (with_reducible first | exact HB.out | apply below_alloc | apply pw_below_drewN | apply below_drew1) | exact HB.out)) hb); clear HB; have HO147 := n0_; have HB := n1_; clear n0_ n1_; clear hb ho9))
        go_ret
        exact ⟨_, by first | rfl | (simp [errW_none, errW_some] <;> rfl) | (simp [*, errW_none, errW_some] <;> rfl), by (with_reducible repeat (first | apply Kd.R_alloc | apply Kd.R_drewN | apply Kd.R_drew)); exact HO147.out, by repeat (first | (with_reducible first | exact HB.out | apply below_alloc | apply pw_below_drewN | apply below_drew1) | exact HB.out)⟩
      · rw [if_neg c7] at H
        have c7b0 : decide (a0 < 2048) = false := decide_eq_false c7
        clear c7
        by_cases c10 : a0 < 65536
        · rw [if_pos c10] at H
          have c10b0 : decide (a0 < 65536) = true := decide_eq_true c10
          clear c10
          obtain ⟨y148, hy148⟩ : ∃ y_ : List Int, y_ = (([(Go.bits .or .i32 224 (a0 / 4096)) % 256, (Go.bits .or .i32 128 (Go.bits .and .i32 (a0 / 64) 63)) % 256, (Go.bits .or .i32 128 (Go.bits .and .i32 a0 63)) % 256] : List Int)) := ⟨_, rfl⟩
          replace H : (some y148) = some r := by first | (rw [hy148]; with_reducible exact H) | (have H2_ := (Option.bind_some _ _).symm.trans H; rw [hy148]; with_reducible exact H2_) | (have H2_ := (Option.bind_some _ _).symm.trans H; with_reducible exact H2_) | with_reducible exact H | (rw [hy148]; exact H) | exact H
          have Ny148 := Aside0.mk hy148
          clear hy148
          obtain rfl := Option.some.inj H
          go_enter Try.func16, Try.ntmps16
          go_wp2_with (first | ((with_reducible refine gate_callee (f := 28) rfl ?_); refine goesL_ (some 5) rfl rfl Try.func28 (by kernel_rfl) rfl #[.int .i32 a0] rfl (by (try simp only [List.map_toArray, List.map_cons, List.map_nil]); first | done | rfl | (simp only [List.length_drop, List.length_take]; rfl)) ?_; (with_reducible refine (scalar_Is.calls a0 true _ A2.out).mono ?_); rintro e w' ⟨rfl, ⟨nd, rfl⟩⟩; refine ⟨_, rfl, ?_⟩) | ((with_reducible refine gate_dst (N := 41) rfl ?_); refine Kd.R_lit (Kd.int .u8) _ 5 ?hg (N := 41) ?hd (xs := ([(Go.bits .or .i32 224 (a0 / 4096)) % 256, (Go.bits .or .i32 128 (Go.bits .and .i32 (a0 / 64) 63)) % 256, (Go.bits .or .i32 128 (Go.bits .and .i32 a0 63)) % 256] : List Int)) (inner := [.int .u8 ((Go.bits .or .i32 224 (a0 / 4096)) % 256), .int .u8 ((Go.bits .or .i32 128 (Go.bits .and .i32 (a0 / 64) 63)) % 256), .int .u8 ((Go.bits .or .i32 128 (Go.bits .and .i32 a0 63)) % 256)]) (ok := fun _ => True) (okp := fun _ => True) ?hr ?hp (fun _ hk => hk) trivial (Below.refl _ _) (Nat.le_refl _) (by simp) ?_; (case hd => rfl); (case hg => rfl); (case hr => first | (go_simp; done) | (go_simp; rfl)); (case hp => exact (Reps.one (show Kd.M (Kd.int .u8) _ _ _ ((Go.bits .or .i32 224 (a0 / 4096)) % 256) [.int .u8 ((Go.bits .or .i32 224 (a0 / 4096)) % 256)] from rfl) (Reps.one (show Kd.M (Kd.int .u8) _ _ _ ((Go.bits .or .i32 128 (Go.bits .and .i32 (a0 / 64) 63)) % 256) [.int .u8 ((Go.bits .or .i32 128 (Go.bits .and .i32 (a0 / 64) 63)) % 256)] from rfl) (Reps.one (show Kd.M (Kd.int .u8) _ _ _ ((Go.bits .or .i32 128 (Go.bits .and .i32 a0 63)) % 256) [.int .u8 ((Go.bits .or .i32 128 (Go.bits .and .i32 a0 63)) % 256)] from rfl) (Reps.none _ _))))); intro v149 w11 ho12 hb hg_ hnew_; clear hg_ hnew_; (first | rw [← Ny148.out] at ho12 | (simp only [Int.reduceToNat] at ho12; rw [← Ny148.out] at ho12)); have n0_ := Aside0.mk (Kd.R_lower ho12 (below_size (by repeat (first | (with_reducible first | exact HB.out | apply below_alloc | apply pw_below_drewN | apply below_drew1) | exact HB.out)))); have n1_ := Aside0.mk (below_step (by repeat (first | (with_reducible first | exact HB.out | apply below_alloc | apply pw_below_drewN | apply below_drew1) | exact HB.out)) hb); clear HB; have HO150 := n0_; have HB := n1_; clear n0_ n1_; clear hb ho12))
          go_ret
          exact ⟨_, by first | rfl | (simp [errW_none, errW_some] <;> rfl) | (simp [*, errW_none, errW_some] <;> rfl), by (with_reducible repeat (first | apply Kd.R_alloc | apply Kd.R_drewN | apply Kd.R_drew)); exact HO150.out, by repeat (first | (with_reducible first | exact HB.out | apply below_alloc | apply pw_below_drewN | apply below_drew1) | exact HB.out)⟩
        · rw [if_neg c10] at H
          have c10b0 : decide (a0 < 65536) = false := decide_eq_false c10
          clear c10
          obtain ⟨y151, hy151⟩ : ∃ y_ : List Int, y_ = (([(Go.bits .or .i32 240 (a0 / 262144)) % 256, (Go.bits .or .i32 128 (Go.bits .and .i32 (a0 / 4096) 63)) % 256, (Go.bits .or .i32 128 (Go.bits .and .i32 (a0 / 64) 63)) % 256, (Go.bits .or .i32 128 (Go.bits .and .i32 a0 63)) % 256] : List Int)) := ⟨_, rfl⟩
          replace H : (some y151) = some r := by first | (rw [hy151]; with_reducible exact H) | (have H2_ := (Option.bind_some _ _).symm.trans H; rw [hy151]; with_reducible exact H2_) | (have H2_ := (Option.bind_some _ _).symm.trans H; with_reducible exact H2_) | with_reducible exact H | (rw [hy151]; exact H) | exact H
          have Ny151 := Aside0.mk hy151
          clear hy151
          obtain rfl := Option.some.inj H
          go_enter Try.func16, Try.ntmps16
          go_wp2_with (first | ((with_reducible refine gate_callee (f := 28) rfl ?_); refine goesL_ (some 5) rfl rfl Try.func28 (by kernel_rfl) rfl #[.int .i32 a0] rfl (by (try simp only [List.map_toArray, List.map_cons, List.map_nil]); first | done | rfl | (simp only [List.length_drop, List.length_take]; rfl)) ?_; (with_reducible refine (scalar_Is.calls a0 true _ A2.out).mono ?_); rintro e w' ⟨rfl, ⟨nd, rfl⟩⟩; refine ⟨_, rfl, ?_⟩) | ((with_reducible refine gate_dst (N := 60) rfl ?_); refine Kd.R_lit (Kd.int .u8) _ 5 ?hg (N := 60) ?hd (xs := ([(Go.bits .or .i32 240 (a0 / 262144)) % 256, (Go.bits .or .i32 128 (Go.bits .and .i32 (a0 / 4096) 63)) % 256, (Go.bits .or .i32 128 (Go.bits .and .i32 (a0 / 64) 63)) % 256, (Go.bits .or .i32 128 (Go.bits .and .i32 a0 63)) % 256] : List Int)) (inner := [.int .u8 ((Go.bits .or .i32 240 (a0 / 262144)) % 256), .int .u8 ((Go.bits .or .i32 128 (Go.bits .and .i32 (a0 / 4096) 63)) % 256), .int .u8 ((Go.bits .or .i32 128 (Go.bits .and .i32 (a0 / 64) 63)) % 256), .int .u8 ((Go.bits .or .i32 128 (Go.bits .and .i32 a0 63)) % 256)]) (ok := fun _ => True) (okp := fun _ => True) ?hr ?hp (fun _ hk => hk) trivial (Below.refl _ _) (Nat.le_refl _) (by simp) ?_; (case hd => rfl); (case hg => rfl); (case hr => first | (go_simp; done) | (go_simp; rfl)); (case hp => exact (Reps.one (show Kd.M (Kd.int .u8) _ _ _ ((Go.bits .or .i32 240 (a0 / 262144)) % 256) [.int .u8 ((Go.bits .or .i32 240 (a0 / 262144)) % 256)] from rfl) (Reps.one (show Kd.M (Kd.int .u8) _ _ _ ((Go.bits .or .i32 128 (Go.bits .and .i32 (a0 / 4096) 63)) % 256) [.int .u8 ((Go.bits .or .i32 128 (Go.bits .and .i32 (a0 / 4096) 63)) % 256)] from rfl) (Reps.one (show Kd.M (Kd.int .u8) _ _ _ ((Go.bits .or .i32 128 (Go.bits .and .i32 (a0 / 64) 63)) % 256) [.int .u8 ((Go.bits .or .i32 128 (Go.bits .and .i32 (a0 / 64) 63)) % 256)] from rfl) (Reps.one (show Kd.M (Kd.int .u8) _ _ _ ((Go.bits .or .i32 128 (Go.bits .and .i32 a0 63)) % 256) [.int .u8 ((Go.bits .or .i32 128 (Go.bits .and .i32 a0 63)) % 256)] from rfl) (Reps.none _ _)))))); intro v152 w13 ho14 hb hg_ hnew_; clear hg_ hnew_; (first | rw [← Ny151.out] at ho14 | (simp only [Int.reduceToNat] at ho14; rw [← Ny151.out] at ho14)); have n0_ := Aside0.mk (Kd.R_lower ho14 (below_size (by repeat (first | (with_reducible first | exact HB.out | apply below_alloc | apply pw_below_drewN | apply below_drew1) | exact HB.out)))); have n1_ := Aside0.mk (below_step (by repeat (first | (with_reducible first | exact HB.out | apply below_alloc | apply pw_below_drewN | apply below_drew1) | exact HB.out)) hb); clear HB; have HO153 := n0_; have HB := n1_; clear n0_ n1_; clear hb ho14))
          go_ret
          exact ⟨_, by first | rfl | (simp [errW_none, errW_some] <;> rfl) | (simp [*, errW_none, errW_some] <;> rfl), by (with_reducible repeat (first | apply Kd.R_alloc | apply Kd.R_drewN | apply Kd.R_drew)); exact HO153.out, by repeat (first | (with_reducible first | exact HB.out | apply below_alloc | apply pw_below_drewN | apply below_drew1) | exact HB.out)⟩
  · replace c3 := Bool.eq_false_iff.mpr c3
    subst c3
    have H1 : (some ([] : List Int)) = some r := by rw [if_neg (show ¬ (false = true) by decide)] at H; exact H
    clear H
    have H := H1
    clear H1
    obtain rfl := Option.some.inj H
    go_enter Try.func16, Try.ntmps16
    go_wp2_with (first | ((with_reducible refine gate_callee (f := 28) rfl ?_); refine goesL_ (some 5) rfl rfl Try.func28 (by kernel_rfl) rfl #[.int .i32 a0] rfl (by (try simp only [List.map_toArray, List.map_cons, List.map_nil]); first | done | rfl | (simp only [List.length_drop, List.length_take]; rfl)) ?_; (with_reducible refine (scalar_Is.calls a0 false _ A2.out).mono ?_); rintro e w' ⟨rfl, ⟨nd, rfl⟩⟩; refine ⟨_, rfl, ?_⟩))
    go_ret
    exact ⟨_, by first | rfl | (simp [errW_none, errW_some] <;> rfl) | (simp [*, errW_none, errW_some] <;> rfl), by first | exact Kd.R_nil _ _ _ _ _ | exact Kd.N_nil _ _ _ _ _ | exact Kd.V_nil _ _ _ _ _ | exact Kd.Q_nil _ _ _ _ _ | exact Kd.S_nil _ _ _ _ _, by repeat (first | (with_reducible first | exact HB.out | apply below_alloc | apply pw_below_drewN | apply below_drew1) | exact HB.out)⟩

/-! ### utf8_Text: function 14 -/
def utf8_Text.l0 : Nat → List Int → List Int → Int → Int → Option (List Int)
  | 0, _, _, _, _ => none
  | k + 1, x3, x9, x10, x11 => if x11 < x10 then (if 0 ≤ x11 then (if x11 < (x9.length : Int) then ((utf8_Bytes.f (rd x9 x11)).bind fun t158 => (if x3.length + t158.length < 140737488355328 then (utf8_Text.l0 k (x3 ++ t158) x9 x10 (wrap64 (x11 + 1))) else (none))) else (none)) else (none)) else (some x3)
def utf8_Text.f (k : Nat) (l0 : List Int) : Option (List Int) := if 0 ≤ (l0.length : Int) then (if ((l0.length : Int) : Int).toNat ≤ 281474976710656 then (utf8_Text.l0 k ([]) l0 (l0.length : Int) 0) else (none)) else (none)
theorem utf8_Text.mono_l : ∀ k, (∀ y0 y1 y2 y3, LeO (utf8_Text.l0 k y0 y1 y2 y3) (utf8_Text.l0 (k + 1) y0 y1 y2 y3))
  | 0 => fun _ _ _ _ r h => by simp [utf8_Text.l0] at h
  | k + 1 => by
    have ih0 := utf8_Text.mono_l k
    · intro y0 y1 y2 y3
      unfold utf8_Text.l0
      repeat' first
      | (with_reducible exact ih0 _ _ _ _)
      | (with_reducible exact LeO.refl _)
      | (with_reducible exact LeO.none _)
      | (with_reducible refine LeO.ite ?_ ?_)
      | (with_reducible refine LeO.bind ?_ (fun _ => ?_))
      | exact ih0 _ _ _ _
      | exact LeO.none _
      | refine LeO.ite ?_ ?_
      | refine LeO.bind ?_ (fun _ => ?_)
theorem utf8_Text.mono : ∀ a0 k, LeO (utf8_Text.f k a0) (utf8_Text.f (k + 1) a0) := by
  intro a0 k
  have ih0 := utf8_Text.mono_l k
  unfold utf8_Text.f
  repeat' first
      | (with_reducible exact ih0 _ _ _ _)
      | (with_reducible exact LeO.refl _)
      | (with_reducible exact LeO.none _)
      | (with_reducible refine LeO.ite ?_ ?_)
      | (with_reducible refine LeO.bind ?_ (fun _ => ?_))
      | exact ih0 _ _ _ _
      | exact LeO.none _
      | refine LeO.ite ?_ ?_
      | refine LeO.bind ?_ (fun _ => ?_)
set_option maxHeartbeats 8000000 in
set_option maxRecDepth 100000 in
theorem utf8_Text.calls (k : Nat) (A0 : Option Addr) (c0 : Nat) (l0 : List Int) (r : List Int) (w : World) (hr0 : Kd.C (Kd.int .i32) w A0 l0.length l0) (hc0 : l0.length ≤ c0) (h : utf8_Text.f k l0 = some r) :
    Calls Try.prog 14 #[.slice A0 l0.length c0] w fun e w' => ∃ v0_ : Value, e = .returned (v0_) ∧ Kd.R (Kd.int .u8) 5 w' w.heap.size (fun _ => True) v0_ r ∧ Below w.heap.size w w' := by
  have HR0 := Aside0.mk hr0
  have HC0 := Aside0.mk hc0
  clear hr0 hc0
  have HB := Aside0.mk (Below.refl w.heap.size w)
  have H : (if 0 ≤ (l0.length : Int) then (if ((l0.length : Int) : Int).toNat ≤ 281474976710656 then (utf8_Text.l0 k ([]) l0 (l0.length : Int) 0) else (none)) else (none)) = some r := h
  clear h
  by_cases c2 : 0 ≤ (l0.length : Int)
  · rw [if_pos c2] at H
    have c2b0 := eq_true c2
    have c2b1 : decide (0 ≤ (l0.length : Int)) = true := decide_eq_true c2
    clear c2
    by_cases c3 : ((l0.length : Int) : Int).toNat ≤ 281474976710656
    · rw [if_pos c3] at H
      have c3b0 := eq_true c3
      have c3b1 : decide (((l0.length : Int) : Int).toNat ≤ 281474976710656) = true := decide_eq_true c3
      clear c3
      obtain ⟨y154, hy154⟩ : ∃ y_ : List Int, y_ = ([]) := ⟨_, rfl⟩
      replace H : (utf8_Text.l0 k y154 l0 (l0.length : Int) 0) = some r := by first | (rw [hy154]; with_reducible exact H) | (have H2_ := (Option.bind_some _ _).symm.trans H; rw [hy154]; with_reducible exact H2_) | (have H2_ := (Option.bind_some _ _).symm.trans H; with_reducible exact H2_) | with_reducible exact H | (rw [hy154]; exact H) | exact H
      have Ny154 := Aside0.mk hy154
      clear hy154
      have H' := Aside0.mk H
      clear H
      go_enter Try.func14, Try.ntmps14
      go_wp2_with (first | ((with_reducible refine gate_dst (N := 8) rfl ?_); refine Kd.R_makecap (Kd.int .u8) _ 5 rfl (N := 8) rfl 22 _ _ rfl (l0.length : Int) rfl rfl Try.underlying22 (.int .u8 0) 1 info5 rfl (by decide) (by omega) 0 (ok := fun _ => True) (okp := fun _ => True) rfl (fun _ hk => hk) trivial (of_decide_eq_true (by first | (with_reducible assumption) | assumption)) (Nat.le_trans (Nat.mul_le_mul_right _ (of_decide_eq_true (by first | (with_reducible assumption) | assumption) : (l0.length : Int).toNat ≤ 281474976710656)) (by omega)) (Below.refl _ _) (Nat.le_refl _) ?_; intro v155 w4 ho5 hb hg_ hnew_; clear hg_ hnew_; (first | rw [← Ny154.out] at ho5 | (simp only [Int.reduceToNat] at ho5; rw [← Ny154.out] at ho5)); have n0_ := Aside0.mk (Kd.R_lower ho5 (below_size (by repeat (first | (with_reducible first | exact HB.out | apply below_alloc | apply pw_below_drewN | apply below_drew1) | exact HB.out)))); have n1_ := Aside0.mk (below_step (by repeat (first | (with_reducible first | exact HB.out | apply below_alloc | apply pw_below_drewN | apply below_drew1) | exact HB.out)) hb); clear HB; have HO156 := n0_; have HB := n1_; clear n0_ n1_; clear hb ho5))
      go_loopg [3, 11] k (fun kq v3 v11 w' => ∃ (x3_1 : List Int) (x11_1 : Int), v11 = .int .i64 x11_1 ∧ Aside0 (utf8_Text.l0 kq x3_1 l0 (l0.length : Int) x11_1 = some r) ∧ Aside0 (kq ≤ k) ∧ Aside0 (Kd.R (Kd.int .u8) 5 w' w.heap.size (fun _ => True) v3 x3_1) ∧ Aside0 (Below w.heap.size w w'))
      case atStart => exact ⟨(y154), (0), (by first | rfl | (simp; done) | (simp [*]; done)), H', ⟨Nat.le_refl _⟩, ⟨by (with_reducible repeat (first | apply Kd.R_alloc | apply Kd.R_drewN | apply Kd.R_drew)); exact HO156.out⟩, ⟨by repeat (first | (with_reducible first | exact HB.out | apply below_alloc | apply pw_below_drewN | apply below_drew1) | exact HB.out)⟩⟩
      case round =>
        clear H'
        try clear c1
        try clear c2
        try clear c2b0
        try clear c2b1
        try clear p2
        try clear c3
        try clear c3b0
        try clear c3b1
        obtain ⟨x3_1, x11_1, rfl, HA, HK1, HO_3, HB⟩ := hrel
        cases gk with
        | zero => exact absurd HA.out (by simp [utf8_Text.l0])
        | succ k1 =>
          have H := HA.out
          clear HA
          simp only [utf8_Text.l0] at H
          by_cases c6 : x11_1 < (l0.length : Int)
          · rw [if_pos c6] at H
            have c6b0 : decide (x11_1 < (l0.length : Int)) = true := decide_eq_true c6
            clear c6
            by_cases c7 : 0 ≤ x11_1
            · rw [if_pos c7] at H
              have c7b0 : decide (0 ≤ x11_1) = true := decide_eq_true c7
              clear c7
              by_cases c8 : x11_1 < (l0.length : Int)
              · rw [if_pos c8] at H
                have c8b0 : decide (x11_1 < (l0.length : Int)) = true := decide_eq_true c8
                clear c8
                replace H := Option.bind_eq_some_iff.mp H
                obtain ⟨t158, A90, H⟩ := H
                replace H : (if x3_1.length + t158.length < 140737488355328 then (utf8_Text.l0 k1 (x3_1 ++ t158) l0 (l0.length : Int) (wrap64 (x11_1 + 1))) else (none)) = some r := H
                have A9 := Aside0.mk A90
                clear A90
                by_cases c10 : x3_1.length + t158.length < 140737488355328
                · rw [if_pos c10] at H
                  have LMc10 := Aside0.mk c10
                  clear c10
                  obtain ⟨y161, hy161⟩ : ∃ y_ : List Int, y_ = (x3_1 ++ t158) := ⟨_, rfl⟩
                  replace H : (utf8_Text.l0 k1 y161 l0 (l0.length : Int) (wrap64 (x11_1 + 1))) = some r := by first | (rw [hy161]; with_reducible exact H) | (have H2_ := (Option.bind_some _ _).symm.trans H; rw [hy161]; with_reducible exact H2_) | (have H2_ := (Option.bind_some _ _).symm.trans H; with_reducible exact H2_) | with_reducible exact H | (rw [hy161]; exact H) | exact H
                  have Ny161 := Aside0.mk hy161
                  clear hy161
                  have H' := Aside0.mk H
                  clear H
                  have p157 : 0 ≤ (x11_1 : Int) := of_decide_eq_true (by first | (with_reducible assumption) | assumption)
                  have q157 : x11_1 < (l0.length : Int) := of_decide_eq_true (by first | (with_reducible assumption) | assumption)
                  obtain ⟨ad157, e157, hx157_0⟩ := Kd.at_int HR0.out x11_1 p157 q157
                  cases e157
                  replace hx157_0 := (HB.out.cell (World.block_lt_of_cell? w _ hx157_0)).trans hx157_0
                  replace p157 := eq_true p157
                  replace q157 := eq_true q157
                  go_wp2_with (first | ((with_reducible refine gate_callee (f := 16) rfl ?_); refine goesL_ (some 17) rfl rfl Try.func16 (by kernel_rfl) rfl #[.int .i32 (rd l0 x11_1)] rfl (by (try simp only [List.map_toArray, List.map_cons, List.map_nil]); first | done | rfl | (simp only [List.length_drop, List.length_take]; rfl)) ?_; (with_reducible refine (utf8_Bytes.calls (rd l0 x11_1) t158 _ A9.out).mono ?_); rintro e w11 ⟨v159, rfl, ho0, hb⟩; refine ⟨_, rfl, ?_⟩; have n0_ := Aside0.mk (Kd.R_elder' (by (with_reducible repeat (first | apply Kd.R_alloc | apply Kd.R_drewN | apply Kd.R_drew)); exact HO_3.out) (Kd.R_base ho0) hb); have n1_ := Aside0.mk (Kd.R_lower (Kd.R_new' ho0 (Kd.R_lt (by (with_reducible repeat (first | apply Kd.R_alloc | apply Kd.R_drewN | apply Kd.R_drew)); exact HO_3.out))) (below_size (by repeat (first | (with_reducible first | exact HB.out | apply below_alloc | apply pw_below_drewN | apply below_drew1) | exact HB.out)))); have n2_ := Aside0.mk (below_step (by repeat (first | (with_reducible first | exact HB.out | apply below_alloc | apply pw_below_drewN | apply below_drew1) | exact HB.out)) hb); clear HO_3; clear HB; have HO_3 := n0_; have HO160 := n1_; have HB := n2_; clear n0_ n1_ n2_; (try clear hb); (try clear hb2); (try clear hk); (try clear hi); (try clear ho0); obtain ⟨Ao13, co13, eo13⟩ := Kd.R_slice HO160.out; subst eo13) | ((with_reducible refine gate_builtin (b := .append) (xs := #[.tmp 15, .tmp 17]) rfl ?_); at_builtin; refine Kd.R_append_rows (Kd.int .u8) (w0 := w) w.heap.size rfl (.tmp 15) (.tmp 17) 22 5 (.int .u8 0) 1 rfl Try.underlying22 info5 rfl (by decide) (by omega) u3 x3_1 t158 _ _ _ (fun k_ => some k_ ≠ (.slice Ao13 t158.length co13 : Value).ownBlock) (fun _ => False) rfl rfl ?aO ?aR (fun _ _ h => h) (fun _ h => h.elim) ?aF ?aB ?aS ?aL ?_; (case aR => repeat (first | exact (Kd.R_reads' HO160.out).2.2 | (with_reducible refine Kd.C_alloc ?_ _) | (with_reducible refine Kd.C_drewN ?_ _) | (with_reducible refine Kd.C_drew ?_))); (case aB => exact (by repeat (first | (with_reducible first | exact HB.out | apply below_alloc | apply pw_below_drewN | apply below_drew1) | exact HB.out))); (case aF => exact (fun k_ hk => Kd.fresh' (Kd.R_lt (by (with_reducible repeat (first | apply Kd.R_alloc | apply Kd.R_drewN | apply Kd.R_drew)); exact HO160.out)) k_ hk)); (case aO => exact (by (with_reducible repeat (first | apply Kd.R_alloc | apply Kd.R_drewN | apply Kd.R_drew)); exact Kd.R_mono HO_3.out (fun _ hk => hk.2))); (case aS => exact (below_size (by repeat (first | (with_reducible first | exact HB.out | apply below_alloc | apply pw_below_drewN | apply below_drew1) | exact HB.out)))); (case aL => have := LMc10.out; omega); intro v162 w12 ho hb hg hat; rw [← Ny161.out] at ho; have n0_ := Aside0.mk (Kd.R_after (ok := (fun _ => True)) (by (with_reducible repeat (first | apply Kd.R_alloc | apply Kd.R_drewN | apply Kd.R_drew)); exact HO160.out) hg hat); have n1_ := Aside0.mk (hb); have n2_ := Aside0.mk (ho); clear HO160; clear HB; clear HO_3; have HO160 := n0_; have HB := n1_; have HO163 := n2_; clear n0_ n1_ n2_; clear ho hb hg hat))
                  go_roundg k1
                  case measure => have := HK1.out; omega
                  case rel => exact ⟨(y161), (wrap64 (x11_1 + 1)), (by first | rfl | (simp; done) | (simp [*]; done)), H', ⟨by have := HK1.out; omega⟩, ⟨by (with_reducible repeat (first | apply Kd.R_alloc | apply Kd.R_drewN | apply Kd.R_drew)); exact Kd.R_mono HO163.out (fun _ hk => trivial)⟩, ⟨by repeat (first | (with_reducible first | exact HB.out | apply below_alloc | apply pw_below_drewN | apply below_drew1) | exact HB.out)⟩⟩
                · rw [if_neg c10] at H
                  exact absurd H (by simp)
              · rw [if_neg c8] at H
                exact absurd H (by simp)
            · rw [if_neg c7] at H
              exact absurd H (by simp)
          · rw [if_neg c6] at H
            have c6b0 : decide (x11_1 < (l0.length : Int)) = false := decide_eq_false c6
            clear c6
            obtain rfl := Option.some.inj H
            go_wp2
            go_ret
            exact ⟨_, by first | rfl | (simp [errW_none, errW_some] <;> rfl) | (simp [*, errW_none, errW_some] <;> rfl), by (with_reducible repeat (first | apply Kd.R_alloc | apply Kd.R_drewN | apply Kd.R_drew)); exact HO_3.out, by repeat (first | (with_reducible first | exact HB.out | apply below_alloc | apply pw_below_drewN | apply below_drew1) | exact HB.out)⟩
    · rw [if_neg c3] at H
      exact absurd H (by simp)
  · rw [if_neg c2] at H
    exact absurd H (by simp)

end Go.Proofs.Ytoalfgmnikbpaaa.PAll
