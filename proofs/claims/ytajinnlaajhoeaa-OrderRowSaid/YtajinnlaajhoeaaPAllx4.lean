-- The machine's side of laws, written by a program of this session (wip/gen/pp.sh). Lean checks it.
import Derived.Test.YtajinnlaajhoeaaPAllx0
import Derived.Test.YtajinnlaajhoeaaPAllx3
namespace Go.Proofs.Ytajinnlaajhoeaa.PAll
open Go.RowKit Go.Proofs.YtajinnlaajhoeaaW.PrintWords Go.Proofs.YtajinnlaajhoeaaW.PrintLast
set_option linter.unusedVariables false
set_option linter.unusedSimpArgs false

/-! ### utf8_Reader_Push: function 44 -/
mutual
def utf8_Reader_Push.j0 : Nat → Int → Bool → Int → Int → Int → Int → Option (Int × Int × Int × Int × Int × Int)
  | 0, _, _, _, _, _, _ => none
  | k + 1, x1, x6, x1000, x1001, x1002, x1003 => if x6 = true then (some (wrap32 (x1), 2, x1000, x1001, x1002, x1003)) else (if x1002 = 0 then ((utf8_size.f x1).bind fun t146 => (utf8_Reader_Push.j1 k x1 (t146 == 0) x1000 x1001 x1002 x1003)) else (utf8_Reader_Push.j1 k x1 false x1000 x1001 x1002 x1003))
def utf8_Reader_Push.j1 : Nat → Int → Bool → Int → Int → Int → Int → Option (Int × Int × Int × Int × Int × Int)
  | 0, _, _, _, _, _, _ => none
  | k + 1, x1, x19, x1000, x1001, x1002, x1003 => if x19 = true then (some (0, 3, x1000, x1001, x1002, x1003)) else (if x1002 = 0 then ((utf8_size.f x1).bind fun t147 => (if 0 ≤ t147 then (some (0, 1, x1, Go.bits .and .i32 (wrap32 (x1)) (shr .i32 127 t147), 1, t147)) else (none))) else (if x1002 = 1 then ((utf8_second.f x1000 x1).bind fun t148 => (utf8_Reader_Push.j2 k x1 (!t148) x1000 x1001 x1002 x1003)) else (utf8_Reader_Push.j2 k x1 false x1000 x1001 x1002 x1003)))
def utf8_Reader_Push.j2 : Nat → Int → Bool → Int → Int → Int → Int → Option (Int × Int × Int × Int × Int × Int)
  | 0, _, _, _, _, _, _ => none
  | k + 1, x1, x59, x1000, x1001, x1002, x1003 => if x59 = true then (utf8_Reader_Push.j3 k x1 x59 x1000 x1001 x1002 x1003) else (utf8_Reader_Push.j3 k x1 ((Go.bits .andNot .u8 x1 63) != 128) x1000 x1001 x1002 x1003)
def utf8_Reader_Push.j3 : Nat → Int → Bool → Int → Int → Int → Int → Option (Int × Int × Int × Int × Int × Int)
  | 0, _, _, _, _, _, _ => none
  | k + 1, x1, x59, x1000, x1001, x1002, x1003 => if x59 = true then (some (0, 3, x1000, x1001, x1002, x1003)) else (if (wrap64 (x1002 + 1)) < x1003 then (some (0, 1, x1000, Go.bits .or .i32 (wrap32 (x1001 * 64)) (wrap32 (Go.bits .and .u8 x1 63)), wrap64 (x1002 + 1), x1003)) else (some (Go.bits .or .i32 (wrap32 (x1001 * 64)) (wrap32 (Go.bits .and .u8 x1 63)), 2, x1000, Go.bits .or .i32 (wrap32 (x1001 * 64)) (wrap32 (Go.bits .and .u8 x1 63)), 0, x1003)))
end
def utf8_Reader_Push.f (k : Nat) (s0_0 : Int) (s0_1 : Int) (s0_2 : Int) (s0_3 : Int) (a1 : Int) : Option (Int × Int × Int × Int × Int × Int) := if s0_2 = 0 then ((utf8_size.f a1).bind fun t145 => (utf8_Reader_Push.j0 k a1 (t145 == 1) s0_0 s0_1 s0_2 s0_3)) else (utf8_Reader_Push.j0 k a1 false s0_0 s0_1 s0_2 s0_3)
theorem utf8_Reader_Push.mono_l : ∀ k, (∀ y0 y1 y2 y3 y4 y5, LeO (utf8_Reader_Push.j0 k y0 y1 y2 y3 y4 y5) (utf8_Reader_Push.j0 (k + 1) y0 y1 y2 y3 y4 y5)) ∧ (∀ y0 y1 y2 y3 y4 y5, LeO (utf8_Reader_Push.j1 k y0 y1 y2 y3 y4 y5) (utf8_Reader_Push.j1 (k + 1) y0 y1 y2 y3 y4 y5)) ∧ (∀ y0 y1 y2 y3 y4 y5, LeO (utf8_Reader_Push.j2 k y0 y1 y2 y3 y4 y5) (utf8_Reader_Push.j2 (k + 1) y0 y1 y2 y3 y4 y5)) ∧ (∀ y0 y1 y2 y3 y4 y5, LeO (utf8_Reader_Push.j3 k y0 y1 y2 y3 y4 y5) (utf8_Reader_Push.j3 (k + 1) y0 y1 y2 y3 y4 y5))
  | 0 => ⟨fun _ _ _ _ _ _ r h => by simp [utf8_Reader_Push.j0] at h, fun _ _ _ _ _ _ r h => by simp [utf8_Reader_Push.j1] at h, fun _ _ _ _ _ _ r h => by simp [utf8_Reader_Push.j2] at h, fun _ _ _ _ _ _ r h => by simp [utf8_Reader_Push.j3] at h⟩
  | k + 1 => by
    obtain ⟨ih0, ih1, ih2, ih3⟩ := utf8_Reader_Push.mono_l k
    refine ⟨?_, ?_, ?_, ?_⟩
    · intro y0 y1 y2 y3 y4 y5
      unfold utf8_Reader_Push.j0
      repeat' first
      | (with_reducible exact ih0 _ _ _ _ _ _)
      | (with_reducible exact ih1 _ _ _ _ _ _)
      | (with_reducible exact ih2 _ _ _ _ _ _)
      | (with_reducible exact ih3 _ _ _ _ _ _)
      | (with_reducible exact LeO.refl _)
      | (with_reducible exact LeO.none _)
      | (with_reducible refine LeO.ite ?_ ?_)
      | (with_reducible refine LeO.bind ?_ (fun _ => ?_))
      | exact ih0 _ _ _ _ _ _
      | exact ih1 _ _ _ _ _ _
      | exact ih2 _ _ _ _ _ _
      | exact ih3 _ _ _ _ _ _
      | exact LeO.none _
      | refine LeO.ite ?_ ?_
      | refine LeO.bind ?_ (fun _ => ?_)
    · intro y0 y1 y2 y3 y4 y5
      unfold utf8_Reader_Push.j1
      repeat' first
      | (with_reducible exact ih0 _ _ _ _ _ _)
      | (with_reducible exact ih1 _ _ _ _ _ _)
      | (with_reducible exact ih2 _ _ _ _ _ _)
      | (with_reducible exact ih3 _ _ _ _ _ _)
      | (with_reducible exact LeO.refl _)
      | (with_reducible exact LeO.none _)
      | (with_reducible refine LeO.ite ?_ ?_)
      | (with_reducible refine LeO.bind ?_ (fun _ => ?_))
      | exact ih0 _ _ _ _ _ _
      | exact ih1 _ _ _ _ _ _
      | exact ih2 _ _ _ _ _ _
      | exact ih3 _ _ _ _ _ _
      | exact LeO.none _
      | refine LeO.ite ?_ ?_
      | refine LeO.bind ?_ (fun _ => ?_)
    · intro y0 y1 y2 y3 y4 y5
      unfold utf8_Reader_Push.j2
      repeat' first
      | (with_reducible exact ih0 _ _ _ _ _ _)
      | (with_reducible exact ih1 _ _ _ _ _ _)
      | (with_reducible exact ih2 _ _ _ _ _ _)
      | (with_reducible exact ih3 _ _ _ _ _ _)
      | (with_reducible exact LeO.refl _)
      | (with_reducible exact LeO.none _)
      | (with_reducible refine LeO.ite ?_ ?_)
      | (with_reducible refine LeO.bind ?_ (fun _ => ?_))
      | exact ih0 _ _ _ _ _ _
      | exact ih1 _ _ _ _ _ _
      | exact ih2 _ _ _ _ _ _
      | exact ih3 _ _ _ _ _ _
      | exact LeO.none _
      | refine LeO.ite ?_ ?_
      | refine LeO.bind ?_ (fun _ => ?_)
    · intro y0 y1 y2 y3 y4 y5
      unfold utf8_Reader_Push.j3
      repeat' first
      | (with_reducible exact ih0 _ _ _ _ _ _)
      | (with_reducible exact ih1 _ _ _ _ _ _)
      | (with_reducible exact ih2 _ _ _ _ _ _)
      | (with_reducible exact ih3 _ _ _ _ _ _)
      | (with_reducible exact LeO.refl _)
      | (with_reducible exact LeO.none _)
      | (with_reducible refine LeO.ite ?_ ?_)
      | (with_reducible refine LeO.bind ?_ (fun _ => ?_))
      | exact ih0 _ _ _ _ _ _
      | exact ih1 _ _ _ _ _ _
      | exact ih2 _ _ _ _ _ _
      | exact ih3 _ _ _ _ _ _
      | exact LeO.none _
      | refine LeO.ite ?_ ?_
      | refine LeO.bind ?_ (fun _ => ?_)
theorem utf8_Reader_Push.mono : ∀ a0 a1 a2 a3 a4 k, LeO (utf8_Reader_Push.f k a0 a1 a2 a3 a4) (utf8_Reader_Push.f (k + 1) a0 a1 a2 a3 a4) := by
  intro a0 a1 a2 a3 a4 k
  obtain ⟨ih0, ih1, ih2, ih3⟩ := utf8_Reader_Push.mono_l k
  unfold utf8_Reader_Push.f
  repeat' first
      | (with_reducible exact ih0 _ _ _ _ _ _)
      | (with_reducible exact ih1 _ _ _ _ _ _)
      | (with_reducible exact ih2 _ _ _ _ _ _)
      | (with_reducible exact ih3 _ _ _ _ _ _)
      | (with_reducible exact LeO.refl _)
      | (with_reducible exact LeO.none _)
      | (with_reducible refine LeO.ite ?_ ?_)
      | (with_reducible refine LeO.bind ?_ (fun _ => ?_))
      | exact ih0 _ _ _ _ _ _
      | exact ih1 _ _ _ _ _ _
      | exact ih2 _ _ _ _ _ _
      | exact ih3 _ _ _ _ _ _
      | exact LeO.none _
      | refine LeO.ite ?_ ?_
      | refine LeO.bind ?_ (fun _ => ?_)
set_option maxHeartbeats 8000000 in
set_option maxRecDepth 100000 in
theorem utf8_Reader_Push.calls (k : Nat) (g : Nat) (s0_0 : Int) (s0_1 : Int) (s0_2 : Int) (s0_3 : Int) (a1 : Int) (r1 : Int) (r2 : Int) (r3 : Int) (r4 : Int) (r5 : Int) (r6 : Int) (w0 w : World) (hI : IsS85 w0 w g s0_0 s0_1 s0_2 s0_3) (hB : Below w0.heap.size w0 w) (h : utf8_Reader_Push.f k s0_0 s0_1 s0_2 s0_3 a1 = some (r1, r2, r3, r4, r5, r6)) :
    Calls Try.prog 44 #[.pointer (some ⟨g, 0, none⟩), .int .u8 a1] w fun e w' => e = .returned (.tuple #[.int .i32 r1, .int .i64 r2]) ∧ IsS85 w0 w' g r3 r4 r5 r6 ∧ Below w0.heap.size w0 w' ∧ KeepBut w w' g none := by
  have HI0 := Aside0.mk hI
  have HK := Aside0.mk (KeepBut.refl w g none)
  have HL := Aside0.mk hB.size
  clear hI
  have HW0 := Aside0.mk hB.size
  have HB := Aside0.mk hB
  clear hB
  have H : (if s0_2 = 0 then ((utf8_size.f a1).bind fun t145 => (utf8_Reader_Push.j0 k a1 (t145 == 1) s0_0 s0_1 s0_2 s0_3)) else (utf8_Reader_Push.j0 k a1 false s0_0 s0_1 s0_2 s0_3)) = some (r1, r2, r3, r4, r5, r6) := h
  clear h
  have HC3 := Aside0.mk H
  clear H
  go_enter Try.func44, Try.ntmps44
  go_upto_region 1 with (fail)
  repeat (go_quiet (fail); go_upto_region 1 with (fail))
  go_cut [6] (fun v6 wc => ∃ (kq : Nat) (x6_2 : Bool), v6 = .bool x6_2 ∧ Aside0 (utf8_Reader_Push.j0 kq a1 x6_2 s0_0 s0_1 s0_2 s0_3 = some (r1, r2, r3, r4, r5, r6)) ∧ Aside0 (kq ≤ k) ∧ Aside0 (IsS85 w0 wc g s0_0 s0_1 s0_2 s0_3) ∧ Aside0 (KeepBut w wc g none) ∧ Aside0 (Below w0.heap.size w0 wc))
  case first =>
    have H := HC3.out
    clear HC3
    by_cases c4 : s0_2 = 0
    · rw [if_pos c4] at H
      have c4b0 : (s0_2 == 0) = true := beq_iff_eq.mpr c4
      have c4b1 : (s0_2 != 0) = false := bne_eq_false_iff_eq.mpr c4
      clear c4
      (first | rw [c4b0] | (simp only [i64_w, i32_w]; rw [c4b0]) | skip)
      replace H := Option.bind_eq_some_iff.mp H
      obtain ⟨t145, A50, H⟩ := H
      replace H : (utf8_Reader_Push.j0 k a1 (t145 == 1) s0_0 s0_1 s0_2 s0_3) = some (r1, r2, r3, r4, r5, r6) := H
      have A5 := Aside0.mk A50
      clear A50
      have H' := Aside0.mk H
      clear H
      obtain ⟨HGz6, hgz6⟩ := HI0.out
      have hcz6_0 := cellS85_0 HGz6
      have hcz6_1 := cellS85_1 HGz6
      have hcz6_2 := cellS85_2 HGz6
      have hcz6_3 := cellS85_3 HGz6
      have hfz6_0 := blk_frozen HGz6 0
      have hfz6_1 := blk_frozen HGz6 1
      have hfz6_2 := blk_frozen HGz6 2
      have hfz6_3 := blk_frozen HGz6 3
      clear HGz6 hgz6
      go_wp2_with (first | (go_at_call 52; (with_reducible refine (utf8_size.calls a1 t145 _ A5.out).mono ?_); rintro e w7 ⟨rfl, hb⟩; have n0_ := Aside0.mk (IsS85.below (by repeat (first | (with_reducible first | exact HI0.out | apply IsS85.alloc | apply IsS85.drewN | apply IsS85.drew | apply IsS85.set_0 | apply IsS85.set_1 | apply IsS85.set_2 | apply IsS85.set_3) | exact HI0.out)) hb); have n1_ := Aside0.mk (KeepBut.trans (by repeat (first | (with_reducible first | exact HK.out | apply KeepBut.set_ | apply keep_drewN | apply keep_drew | apply keep_alloc) | exact HK.out)) (KeepBut.of_below hb g none) (.inl rfl)); have n2_ := Aside0.mk (below_step (by repeat (first | (with_reducible first | exact HB.out | apply below_alloc | apply pw_below_drewN | apply below_drew1 | refine below_set ?_ (IsS85.ge HI0.out)) | exact HB.out)) hb); clear HI0; clear HK; clear HB; have HI0 := n0_; have HK := n1_; have HB := n2_; clear n0_ n1_ n2_; (try clear hb); (try clear hb2); (try clear hk); (try clear hi)))
      repeat (go_quiet (first | (go_at_call 52; (with_reducible refine (utf8_size.calls a1 t145 _ A5.out).mono ?_); rintro e w7 ⟨rfl, hb⟩; have n0_ := Aside0.mk (IsS85.below (by repeat (first | (with_reducible first | exact HI0.out | apply IsS85.alloc | apply IsS85.drewN | apply IsS85.drew | apply IsS85.set_0 | apply IsS85.set_1 | apply IsS85.set_2 | apply IsS85.set_3) | exact HI0.out)) hb); have n1_ := Aside0.mk (KeepBut.trans (by repeat (first | (with_reducible first | exact HK.out | apply KeepBut.set_ | apply keep_drewN | apply keep_drew | apply keep_alloc) | exact HK.out)) (KeepBut.of_below hb g none) (.inl rfl)); have n2_ := Aside0.mk (below_step (by repeat (first | (with_reducible first | exact HB.out | apply below_alloc | apply pw_below_drewN | apply below_drew1 | refine below_set ?_ (IsS85.ge HI0.out)) | exact HB.out)) hb); clear HI0; clear HK; clear HB; have HI0 := n0_; have HK := n1_; have HB := n2_; clear n0_ n1_ n2_; (try clear hb); (try clear hb2); (try clear hk); (try clear hi))); try go_wp2_with (first | (go_at_call 52; (with_reducible refine (utf8_size.calls a1 t145 _ A5.out).mono ?_); rintro e w7 ⟨rfl, hb⟩; have n0_ := Aside0.mk (IsS85.below (by repeat (first | (with_reducible first | exact HI0.out | apply IsS85.alloc | apply IsS85.drewN | apply IsS85.drew | apply IsS85.set_0 | apply IsS85.set_1 | apply IsS85.set_2 | apply IsS85.set_3) | exact HI0.out)) hb); have n1_ := Aside0.mk (KeepBut.trans (by repeat (first | (with_reducible first | exact HK.out | apply KeepBut.set_ | apply keep_drewN | apply keep_drew | apply keep_alloc) | exact HK.out)) (KeepBut.of_below hb g none) (.inl rfl)); have n2_ := Aside0.mk (below_step (by repeat (first | (with_reducible first | exact HB.out | apply below_alloc | apply pw_below_drewN | apply below_drew1 | refine below_set ?_ (IsS85.ge HI0.out)) | exact HB.out)) hb); clear HI0; clear HK; clear HB; have HI0 := n0_; have HK := n1_; have HB := n2_; clear n0_ n1_ n2_; (try clear hb); (try clear hb2); (try clear hk); (try clear hi))))
      go_meet
      case rel => exact ⟨_, ((t145 == 1)), (by first | rfl | (simp; done) | (simp [*]; done)), H', ⟨by first | omega | exact Nat.le_refl _⟩, ⟨by repeat (first | (with_reducible first | exact HI0.out | apply IsS85.alloc | apply IsS85.drewN | apply IsS85.drew | apply IsS85.set_0 | apply IsS85.set_1 | apply IsS85.set_2 | apply IsS85.set_3) | exact HI0.out)⟩, ⟨by repeat (first | (with_reducible first | exact HK.out | apply KeepBut.set_ | apply keep_drewN | apply keep_drew | apply keep_alloc) | exact HK.out)⟩, ⟨by repeat (first | (with_reducible first | exact HB.out | apply below_alloc | apply pw_below_drewN | apply below_drew1 | refine below_set ?_ (IsS85.ge HI0.out)) | exact HB.out)⟩⟩
    · rw [if_neg c4] at H
      have c4b0 : (s0_2 == 0) = false := beq_eq_false_iff_ne.mpr c4
      have c4b1 : (s0_2 != 0) = true := bne_iff_ne.mpr c4
      (first | rw [c4b0] | (simp only [i64_w, i32_w]; rw [c4b0]) | skip)
      have H' := Aside0.mk H
      clear H
      obtain ⟨HGz8, hgz8⟩ := HI0.out
      have hcz8_0 := cellS85_0 HGz8
      have hcz8_1 := cellS85_1 HGz8
      have hcz8_2 := cellS85_2 HGz8
      have hcz8_3 := cellS85_3 HGz8
      have hfz8_0 := blk_frozen HGz8 0
      have hfz8_1 := blk_frozen HGz8 1
      have hfz8_2 := blk_frozen HGz8 2
      have hfz8_3 := blk_frozen HGz8 3
      clear HGz8 hgz8
      go_wp2
      repeat (go_quiet (fail); try go_wp2)
      go_meet
      case rel => exact ⟨_, (false), (by first | rfl | (simp; done) | (simp [*]; done)), H', ⟨by first | omega | exact Nat.le_refl _⟩, ⟨by repeat (first | (with_reducible first | exact HI0.out | apply IsS85.alloc | apply IsS85.drewN | apply IsS85.drew | apply IsS85.set_0 | apply IsS85.set_1 | apply IsS85.set_2 | apply IsS85.set_3) | exact HI0.out)⟩, ⟨by repeat (first | (with_reducible first | exact HK.out | apply KeepBut.set_ | apply keep_drewN | apply keep_drew | apply keep_alloc) | exact HK.out)⟩, ⟨by repeat (first | (with_reducible first | exact HB.out | apply below_alloc | apply pw_below_drewN | apply below_drew1 | refine below_set ?_ (IsS85.ge HI0.out)) | exact HB.out)⟩⟩
  case rest =>
    clear HC3
    try clear p2
    try clear c4
    try clear c4b0
    try clear c4b1
    try clear hcz6_0
    try clear hcz6_1
    try clear hcz6_2
    try clear hcz6_3
    try clear hcz8_0
    try clear hcz8_1
    try clear hcz8_2
    try clear hcz8_3
    try clear hfz6_0
    try clear hfz6_1
    try clear hfz6_2
    try clear hfz6_3
    try clear hfz8_0
    try clear hfz8_1
    try clear hfz8_2
    try clear hfz8_3
    obtain ⟨kq, x6_2, rfl, HA, HJ2, HI0, HK, HB⟩ := hcut
    cases kq with
    | zero => exact absurd HA.out (by simp [utf8_Reader_Push.j0])
    | succ kj2 =>
      have H := HA.out
      clear HA
      simp only [utf8_Reader_Push.j0] at H
      by_cases c9 : x6_2 = true
      · subst c9
        have H1 : (some (wrap32 (a1), 2, s0_0, s0_1, s0_2, s0_3)) = some (r1, r2, r3, r4, r5, r6) := by rw [if_pos rfl] at H; exact H
        clear H
        have H := H1
        clear H1
        simp only [Option.some.injEq, Prod.mk.injEq] at H
        obtain ⟨rfl, rfl, rfl, rfl, rfl, rfl⟩ := H
        go_wp2
        repeat (go_quiet (fail); try go_wp2)
        go_ret2
        exact ⟨by first | rfl | (simp [errW_none, errW_some] <;> rfl) | (simp [*, errW_none, errW_some] <;> rfl), by repeat (first | (with_reducible first | exact HI0.out | apply IsS85.alloc | apply IsS85.drewN | apply IsS85.drew | apply IsS85.set_0 | apply IsS85.set_1 | apply IsS85.set_2 | apply IsS85.set_3) | exact HI0.out), by repeat (first | (with_reducible first | exact HB.out | apply below_alloc | apply pw_below_drewN | apply below_drew1 | refine below_set ?_ (IsS85.ge HI0.out)) | exact HB.out), by repeat (first | (with_reducible first | exact HK.out | apply KeepBut.set_ | apply keep_drewN | apply keep_drew | apply keep_alloc) | exact HK.out)⟩
      · replace c9 := Bool.eq_false_iff.mpr c9
        subst c9
        have H1 : (if s0_2 = 0 then ((utf8_size.f a1).bind fun t146 => (utf8_Reader_Push.j1 kj2 a1 (t146 == 0) s0_0 s0_1 s0_2 s0_3)) else (utf8_Reader_Push.j1 kj2 a1 false s0_0 s0_1 s0_2 s0_3)) = some (r1, r2, r3, r4, r5, r6) := by rw [if_neg (show ¬ (false = true) by decide)] at H; exact H
        clear H
        have H := H1
        clear H1
        have HC10 := Aside0.mk H
        clear H
        go_upto_region 3 with (fail)
        repeat (go_quiet (fail); go_upto_region 3 with (fail))
        go_cut [19] (fun v19 wc => ∃ (kq : Nat) (x19_9 : Bool), v19 = .bool x19_9 ∧ Aside0 (utf8_Reader_Push.j1 kq a1 x19_9 s0_0 s0_1 s0_2 s0_3 = some (r1, r2, r3, r4, r5, r6)) ∧ Aside0 (kq ≤ kj2) ∧ Aside0 (IsS85 w0 wc g s0_0 s0_1 s0_2 s0_3) ∧ Aside0 (KeepBut w wc g none) ∧ Aside0 (Below w0.heap.size w0 wc))
        case first =>
          have H := HC10.out
          clear HC10
          by_cases c11 : s0_2 = 0
          · rw [if_pos c11] at H
            have c11b0 : (s0_2 == 0) = true := beq_iff_eq.mpr c11
            have c11b1 : (s0_2 != 0) = false := bne_eq_false_iff_eq.mpr c11
            clear c11
            (first | rw [c11b0] | (simp only [i64_w, i32_w]; rw [c11b0]) | skip)
            replace H := Option.bind_eq_some_iff.mp H
            obtain ⟨t146, A120, H⟩ := H
            replace H : (utf8_Reader_Push.j1 kj2 a1 (t146 == 0) s0_0 s0_1 s0_2 s0_3) = some (r1, r2, r3, r4, r5, r6) := H
            have A12 := Aside0.mk A120
            clear A120
            have H' := Aside0.mk H
            clear H
            obtain ⟨HGz13, hgz13⟩ := HI0.out
            have hcz13_0 := cellS85_0 HGz13
            have hcz13_1 := cellS85_1 HGz13
            have hcz13_2 := cellS85_2 HGz13
            have hcz13_3 := cellS85_3 HGz13
            have hfz13_0 := blk_frozen HGz13 0
            have hfz13_1 := blk_frozen HGz13 1
            have hfz13_2 := blk_frozen HGz13 2
            have hfz13_3 := blk_frozen HGz13 3
            clear HGz13 hgz13
            go_wp2_with (first | (go_at_call 52; (with_reducible refine (utf8_size.calls a1 t146 _ A12.out).mono ?_); rintro e w14 ⟨rfl, hb⟩; have n0_ := Aside0.mk (IsS85.below (by repeat (first | (with_reducible first | exact HI0.out | apply IsS85.alloc | apply IsS85.drewN | apply IsS85.drew | apply IsS85.set_0 | apply IsS85.set_1 | apply IsS85.set_2 | apply IsS85.set_3) | exact HI0.out)) hb); have n1_ := Aside0.mk (KeepBut.trans (by repeat (first | (with_reducible first | exact HK.out | apply KeepBut.set_ | apply keep_drewN | apply keep_drew | apply keep_alloc) | exact HK.out)) (KeepBut.of_below hb g none) (.inl rfl)); have n2_ := Aside0.mk (below_step (by repeat (first | (with_reducible first | exact HB.out | apply below_alloc | apply pw_below_drewN | apply below_drew1 | refine below_set ?_ (IsS85.ge HI0.out)) | exact HB.out)) hb); clear HI0; clear HK; clear HB; have HI0 := n0_; have HK := n1_; have HB := n2_; clear n0_ n1_ n2_; (try clear hb); (try clear hb2); (try clear hk); (try clear hi)))
            repeat (go_quiet (first | (go_at_call 52; (with_reducible refine (utf8_size.calls a1 t146 _ A12.out).mono ?_); rintro e w14 ⟨rfl, hb⟩; have n0_ := Aside0.mk (IsS85.below (by repeat (first | (with_reducible first | exact HI0.out | apply IsS85.alloc | apply IsS85.drewN | apply IsS85.drew | apply IsS85.set_0 | apply IsS85.set_1 | apply IsS85.set_2 | apply IsS85.set_3) | exact HI0.out)) hb); have n1_ := Aside0.mk (KeepBut.trans (by repeat (first | (with_reducible first | exact HK.out | apply KeepBut.set_ | apply keep_drewN | apply keep_drew | apply keep_alloc) | exact HK.out)) (KeepBut.of_below hb g none) (.inl rfl)); have n2_ := Aside0.mk (below_step (by repeat (first | (with_reducible first | exact HB.out | apply below_alloc | apply pw_below_drewN | apply below_drew1 | refine below_set ?_ (IsS85.ge HI0.out)) | exact HB.out)) hb); clear HI0; clear HK; clear HB; have HI0 := n0_; have HK := n1_; have HB := n2_; clear n0_ n1_ n2_; (try clear hb); (try clear hb2); (try clear hk); (try clear hi))); try go_wp2_with (first | (go_at_call 52; (with_reducible refine (utf8_size.calls a1 t146 _ A12.out).mono ?_); rintro e w14 ⟨rfl, hb⟩; have n0_ := Aside0.mk (IsS85.below (by repeat (first | (with_reducible first | exact HI0.out | apply IsS85.alloc | apply IsS85.drewN | apply IsS85.drew | apply IsS85.set_0 | apply IsS85.set_1 | apply IsS85.set_2 | apply IsS85.set_3) | exact HI0.out)) hb); have n1_ := Aside0.mk (KeepBut.trans (by repeat (first | (with_reducible first | exact HK.out | apply KeepBut.set_ | apply keep_drewN | apply keep_drew | apply keep_alloc) | exact HK.out)) (KeepBut.of_below hb g none) (.inl rfl)); have n2_ := Aside0.mk (below_step (by repeat (first | (with_reducible first | exact HB.out | apply below_alloc | apply pw_below_drewN | apply below_drew1 | refine below_set ?_ (IsS85.ge HI0.out)) | exact HB.out)) hb); clear HI0; clear HK; clear HB; have HI0 := n0_; have HK := n1_; have HB := n2_; clear n0_ n1_ n2_; (try clear hb); (try clear hb2); (try clear hk); (try clear hi))))
            go_meet
            case rel => exact ⟨_, ((t146 == 0)), (by first | rfl | (simp; done) | (simp [*]; done)), H', ⟨by have := HJ2.out; first | omega | exact Nat.le_refl _⟩, ⟨by repeat (first | (with_reducible first | exact HI0.out | apply IsS85.alloc | apply IsS85.drewN | apply IsS85.drew | apply IsS85.set_0 | apply IsS85.set_1 | apply IsS85.set_2 | apply IsS85.set_3) | exact HI0.out)⟩, ⟨by repeat (first | (with_reducible first | exact HK.out | apply KeepBut.set_ | apply keep_drewN | apply keep_drew | apply keep_alloc) | exact HK.out)⟩, ⟨by repeat (first | (with_reducible first | exact HB.out | apply below_alloc | apply pw_below_drewN | apply below_drew1 | refine below_set ?_ (IsS85.ge HI0.out)) | exact HB.out)⟩⟩
          · rw [if_neg c11] at H
            have c11b0 : (s0_2 == 0) = false := beq_eq_false_iff_ne.mpr c11
            have c11b1 : (s0_2 != 0) = true := bne_iff_ne.mpr c11
            (first | rw [c11b0] | (simp only [i64_w, i32_w]; rw [c11b0]) | skip)
            have H' := Aside0.mk H
            clear H
            obtain ⟨HGz15, hgz15⟩ := HI0.out
            have hcz15_0 := cellS85_0 HGz15
            have hcz15_1 := cellS85_1 HGz15
            have hcz15_2 := cellS85_2 HGz15
            have hcz15_3 := cellS85_3 HGz15
            have hfz15_0 := blk_frozen HGz15 0
            have hfz15_1 := blk_frozen HGz15 1
            have hfz15_2 := blk_frozen HGz15 2
            have hfz15_3 := blk_frozen HGz15 3
            clear HGz15 hgz15
            go_wp2
            repeat (go_quiet (fail); try go_wp2)
            go_meet
            case rel => exact ⟨_, (false), (by first | rfl | (simp; done) | (simp [*]; done)), H', ⟨by have := HJ2.out; first | omega | exact Nat.le_refl _⟩, ⟨by repeat (first | (with_reducible first | exact HI0.out | apply IsS85.alloc | apply IsS85.drewN | apply IsS85.drew | apply IsS85.set_0 | apply IsS85.set_1 | apply IsS85.set_2 | apply IsS85.set_3) | exact HI0.out)⟩, ⟨by repeat (first | (with_reducible first | exact HK.out | apply KeepBut.set_ | apply keep_drewN | apply keep_drew | apply keep_alloc) | exact HK.out)⟩, ⟨by repeat (first | (with_reducible first | exact HB.out | apply below_alloc | apply pw_below_drewN | apply below_drew1 | refine below_set ?_ (IsS85.ge HI0.out)) | exact HB.out)⟩⟩
        case rest =>
          clear HC10
          try clear c1
          try clear p2
          try clear p3
          try clear c4
          try clear c4b0
          try clear c4b1
          try clear c9
          try clear c11
          try clear c11b0
          try clear c11b1
          try clear hcz13_0
          try clear hcz13_1
          try clear hcz13_2
          try clear hcz13_3
          try clear hcz15_0
          try clear hcz15_1
          try clear hcz15_2
          try clear hcz15_3
          try clear hcz6_0
          try clear hcz6_1
          try clear hcz6_2
          try clear hcz6_3
          try clear hcz8_0
          try clear hcz8_1
          try clear hcz8_2
          try clear hcz8_3
          try clear hfz13_0
          try clear hfz13_1
          try clear hfz13_2
          try clear hfz13_3
          try clear hfz15_0
          try clear hfz15_1
          try clear hfz15_2
          try clear hfz15_3
          try clear hfz6_0
          try clear hfz6_1
          try clear hfz6_2
          try clear hfz6_3
          try clear hfz8_0
          try clear hfz8_1
          try clear hfz8_2
          try clear hfz8_3
          try clear p2
          obtain ⟨kq, x19_9, rfl, HA, HJ9, HI0, HK, HB⟩ := hcut
          cases kq with
          | zero => exact absurd HA.out (by simp [utf8_Reader_Push.j1])
          | succ kj9 =>
            have H := HA.out
            clear HA
            simp only [utf8_Reader_Push.j1] at H
            by_cases c16 : x19_9 = true
            · subst c16
              have H1 : (some (0, 3, s0_0, s0_1, s0_2, s0_3)) = some (r1, r2, r3, r4, r5, r6) := by rw [if_pos rfl] at H; exact H
              clear H
              have H := H1
              clear H1
              simp only [Option.some.injEq, Prod.mk.injEq] at H
              obtain ⟨rfl, rfl, rfl, rfl, rfl, rfl⟩ := H
              go_wp2
              repeat (go_quiet (fail); try go_wp2)
              go_ret2
              exact ⟨by first | rfl | (simp [errW_none, errW_some] <;> rfl) | (simp [*, errW_none, errW_some] <;> rfl), by repeat (first | (with_reducible first | exact HI0.out | apply IsS85.alloc | apply IsS85.drewN | apply IsS85.drew | apply IsS85.set_0 | apply IsS85.set_1 | apply IsS85.set_2 | apply IsS85.set_3) | exact HI0.out), by repeat (first | (with_reducible first | exact HB.out | apply below_alloc | apply pw_below_drewN | apply below_drew1 | refine below_set ?_ (IsS85.ge HI0.out)) | exact HB.out), by repeat (first | (with_reducible first | exact HK.out | apply KeepBut.set_ | apply keep_drewN | apply keep_drew | apply keep_alloc) | exact HK.out)⟩
            · replace c16 := Bool.eq_false_iff.mpr c16
              subst c16
              have H1 : (if s0_2 = 0 then ((utf8_size.f a1).bind fun t147 => (if 0 ≤ t147 then (some (0, 1, a1, Go.bits .and .i32 (wrap32 (a1)) (shr .i32 127 t147), 1, t147)) else (none))) else (if s0_2 = 1 then ((utf8_second.f s0_0 a1).bind fun t148 => (utf8_Reader_Push.j2 kj9 a1 (!t148) s0_0 s0_1 s0_2 s0_3)) else (utf8_Reader_Push.j2 kj9 a1 false s0_0 s0_1 s0_2 s0_3))) = some (r1, r2, r3, r4, r5, r6) := by rw [if_neg (show ¬ (false = true) by decide)] at H; exact H
              clear H
              have H := H1
              clear H1
              by_cases c17 : s0_2 = 0
              · rw [if_pos c17] at H
                have c17b0 : (s0_2 == 0) = true := beq_iff_eq.mpr c17
                have c17b1 : (s0_2 != 0) = false := bne_eq_false_iff_eq.mpr c17
                clear c17
                replace H := Option.bind_eq_some_iff.mp H
                obtain ⟨t147, A180, H⟩ := H
                replace H : (if 0 ≤ t147 then (some (0, 1, a1, Go.bits .and .i32 (wrap32 (a1)) (shr .i32 127 t147), 1, t147)) else (none)) = some (r1, r2, r3, r4, r5, r6) := H
                have A18 := Aside0.mk A180
                clear A180
                by_cases c19 : 0 ≤ t147
                · rw [if_pos c19] at H
                  have c19b0 := eq_true c19
                  have c19b1 : decide (0 ≤ t147) = true := decide_eq_true c19
                  clear c19
                  obtain ⟨ji20, hji20⟩ : ∃ j_ : Int, (shr .i32 127 t147) = j_ := ⟨_, rfl⟩
                  replace H : (some (0, 1, a1, Go.bits .and .i32 (wrap32 (a1)) (ji20), 1, t147)) = some (r1, r2, r3, r4, r5, r6) := by first | (rw [hji20] at H; exact H) | (simp only [hji20] at H ⊢; exact H)
                  (try rw [hji20] at A18)
                  have hji20_ : (127 / 2 ^ min t147.toNat 32) = ji20 := hji20
                  have hji20z : t147 ≤ 32 → (127 / 2 ^ t147.toNat) = ji20 := shr_small hji20
                  simp only [Option.some.injEq, Prod.mk.injEq] at H
                  obtain ⟨rfl, rfl, rfl, rfl, rfl, rfl⟩ := H
                  obtain ⟨HGz21, hgz21⟩ := HI0.out
                  have hcz21_0 := cellS85_0 HGz21
                  have hcz21_1 := cellS85_1 HGz21
                  have hcz21_2 := cellS85_2 HGz21
                  have hcz21_3 := cellS85_3 HGz21
                  have hfz21_0 := blk_frozen HGz21 0
                  have hfz21_1 := blk_frozen HGz21 1
                  have hfz21_2 := blk_frozen HGz21 2
                  have hfz21_3 := blk_frozen HGz21 3
                  clear HGz21 hgz21
                  go_wp2_with (first | (go_at_call 52; (with_reducible refine (utf8_size.calls a1 t147 _ A18.out).mono ?_); rintro e w22 ⟨rfl, hb⟩; have n0_ := Aside0.mk (IsS85.below (by repeat (first | (with_reducible first | exact HI0.out | apply IsS85.alloc | apply IsS85.drewN | apply IsS85.drew | apply IsS85.set_0 | apply IsS85.set_1 | apply IsS85.set_2 | apply IsS85.set_3) | exact HI0.out)) hb); have n1_ := Aside0.mk (KeepBut.trans (by repeat (first | (with_reducible first | exact HK.out | apply KeepBut.set_ | apply keep_drewN | apply keep_drew | apply keep_alloc) | exact HK.out)) (KeepBut.of_below hb g none) (.inl rfl)); have n2_ := Aside0.mk (below_step (by repeat (first | (with_reducible first | exact HB.out | apply below_alloc | apply pw_below_drewN | apply below_drew1 | refine below_set ?_ (IsS85.ge HI0.out)) | exact HB.out)) hb); clear HI0; clear HK; clear HB; have HI0 := n0_; have HK := n1_; have HB := n2_; clear n0_ n1_ n2_; (try clear hb); (try clear hb2); (try clear hk); (try clear hi); obtain ⟨HGz23, hgz23⟩ := HI0.out; have hcz23_0 := cellS85_0 HGz23; have hcz23_1 := cellS85_1 HGz23; have hcz23_2 := cellS85_2 HGz23; have hcz23_3 := cellS85_3 HGz23; have hfz23_0 := blk_frozen HGz23 0; have hfz23_1 := blk_frozen HGz23 1; have hfz23_2 := blk_frozen HGz23 2; have hfz23_3 := blk_frozen HGz23 3; clear HGz23 hgz23))
                  repeat (go_quiet (first | (go_at_call 52; (with_reducible refine (utf8_size.calls a1 t147 _ A18.out).mono ?_); rintro e w22 ⟨rfl, hb⟩; have n0_ := Aside0.mk (IsS85.below (by repeat (first | (with_reducible first | exact HI0.out | apply IsS85.alloc | apply IsS85.drewN | apply IsS85.drew | apply IsS85.set_0 | apply IsS85.set_1 | apply IsS85.set_2 | apply IsS85.set_3) | exact HI0.out)) hb); have n1_ := Aside0.mk (KeepBut.trans (by repeat (first | (with_reducible first | exact HK.out | apply KeepBut.set_ | apply keep_drewN | apply keep_drew | apply keep_alloc) | exact HK.out)) (KeepBut.of_below hb g none) (.inl rfl)); have n2_ := Aside0.mk (below_step (by repeat (first | (with_reducible first | exact HB.out | apply below_alloc | apply pw_below_drewN | apply below_drew1 | refine below_set ?_ (IsS85.ge HI0.out)) | exact HB.out)) hb); clear HI0; clear HK; clear HB; have HI0 := n0_; have HK := n1_; have HB := n2_; clear n0_ n1_ n2_; (try clear hb); (try clear hb2); (try clear hk); (try clear hi); obtain ⟨HGz23, hgz23⟩ := HI0.out; have hcz23_0 := cellS85_0 HGz23; have hcz23_1 := cellS85_1 HGz23; have hcz23_2 := cellS85_2 HGz23; have hcz23_3 := cellS85_3 HGz23; have hfz23_0 := blk_frozen HGz23 0; have hfz23_1 := blk_frozen HGz23 1; have hfz23_2 := blk_frozen HGz23 2; have hfz23_3 := blk_frozen HGz23 3; clear HGz23 hgz23)); try go_wp2_with (first | (go_at_call 52; (with_reducible refine (utf8_size.calls a1 t147 _ A18.out).mono ?_); rintro e w22 ⟨rfl, hb⟩; have n0_ := Aside0.mk (IsS85.below (by repeat (first | (with_reducible first | exact HI0.out | apply IsS85.alloc | apply IsS85.drewN | apply IsS85.drew | apply IsS85.set_0 | apply IsS85.set_1 | apply IsS85.set_2 | apply IsS85.set_3) | exact HI0.out)) hb); have n1_ := Aside0.mk (KeepBut.trans (by repeat (first | (with_reducible first | exact HK.out | apply KeepBut.set_ | apply keep_drewN | apply keep_drew | apply keep_alloc) | exact HK.out)) (KeepBut.of_below hb g none) (.inl rfl)); have n2_ := Aside0.mk (below_step (by repeat (first | (with_reducible first | exact HB.out | apply below_alloc | apply pw_below_drewN | apply below_drew1 | refine below_set ?_ (IsS85.ge HI0.out)) | exact HB.out)) hb); clear HI0; clear HK; clear HB; have HI0 := n0_; have HK := n1_; have HB := n2_; clear n0_ n1_ n2_; (try clear hb); (try clear hb2); (try clear hk); (try clear hi); obtain ⟨HGz23, hgz23⟩ := HI0.out; have hcz23_0 := cellS85_0 HGz23; have hcz23_1 := cellS85_1 HGz23; have hcz23_2 := cellS85_2 HGz23; have hcz23_3 := cellS85_3 HGz23; have hfz23_0 := blk_frozen HGz23 0; have hfz23_1 := blk_frozen HGz23 1; have hfz23_2 := blk_frozen HGz23 2; have hfz23_3 := blk_frozen HGz23 3; clear HGz23 hgz23)))
                  go_ret2
                  exact ⟨by first | rfl | (simp [errW_none, errW_some] <;> rfl) | (simp only [← hji20]; first | rfl | (simp [errW_none, errW_some] <;> rfl)) | (simp [*, errW_none, errW_some] <;> rfl), by repeat (first | (with_reducible first | exact HI0.out | apply IsS85.alloc | apply IsS85.drewN | apply IsS85.drew | apply IsS85.set_0 | apply IsS85.set_1 | apply IsS85.set_2 | apply IsS85.set_3) | exact HI0.out), by repeat (first | (with_reducible first | exact HB.out | apply below_alloc | apply pw_below_drewN | apply below_drew1 | refine below_set ?_ (IsS85.ge HI0.out)) | exact HB.out), by repeat (first | (with_reducible first | exact HK.out | apply KeepBut.set_ | apply keep_drewN | apply keep_drew | apply keep_alloc) | exact HK.out)⟩
                · rw [if_neg c19] at H
                  exact absurd H (by simp)
              · rw [if_neg c17] at H
                have c17b0 : (s0_2 == 0) = false := beq_eq_false_iff_ne.mpr c17
                have c17b1 : (s0_2 != 0) = true := bne_iff_ne.mpr c17
                have HC24 := Aside0.mk H
                clear H
                obtain ⟨HGz25, hgz25⟩ := HI0.out
                have hcz25_0 := cellS85_0 HGz25
                have hcz25_1 := cellS85_1 HGz25
                have hcz25_2 := cellS85_2 HGz25
                have hcz25_3 := cellS85_3 HGz25
                have hfz25_0 := blk_frozen HGz25 0
                have hfz25_1 := blk_frozen HGz25 1
                have hfz25_2 := blk_frozen HGz25 2
                have hfz25_3 := blk_frozen HGz25 3
                clear HGz25 hgz25
                go_upto_region 9 with (fail)
                repeat (go_quiet (fail); go_upto_region 9 with (fail))
                go_cut [59] (fun v59 wc => ∃ (kq : Nat) (x59_23 : Bool), v59 = .bool x59_23 ∧ Aside0 (utf8_Reader_Push.j2 kq a1 x59_23 s0_0 s0_1 s0_2 s0_3 = some (r1, r2, r3, r4, r5, r6)) ∧ Aside0 (kq ≤ kj9) ∧ Aside0 (IsS85 w0 wc g s0_0 s0_1 s0_2 s0_3) ∧ Aside0 (KeepBut w wc g none) ∧ Aside0 (Below w0.heap.size w0 wc))
                case first =>
                  have H := HC24.out
                  clear HC24
                  by_cases c26 : s0_2 = 1
                  · rw [if_pos c26] at H
                    have c26b0 : (s0_2 == 1) = true := beq_iff_eq.mpr c26
                    have c26b1 : (s0_2 != 1) = false := bne_eq_false_iff_eq.mpr c26
                    clear c26
                    (first | rw [c26b0] | (simp only [i64_w, i32_w]; rw [c26b0]) | skip)
                    replace H := Option.bind_eq_some_iff.mp H
                    obtain ⟨t148, A270, H⟩ := H
                    replace H : (utf8_Reader_Push.j2 kj9 a1 (!t148) s0_0 s0_1 s0_2 s0_3) = some (r1, r2, r3, r4, r5, r6) := H
                    have A27 := Aside0.mk A270
                    clear A270
                    have H' := Aside0.mk H
                    clear H
                    obtain ⟨HGz28, hgz28⟩ := HI0.out
                    have hcz28_0 := cellS85_0 HGz28
                    have hcz28_1 := cellS85_1 HGz28
                    have hcz28_2 := cellS85_2 HGz28
                    have hcz28_3 := cellS85_3 HGz28
                    have hfz28_0 := blk_frozen HGz28 0
                    have hfz28_1 := blk_frozen HGz28 1
                    have hfz28_2 := blk_frozen HGz28 2
                    have hfz28_3 := blk_frozen HGz28 3
                    clear HGz28 hgz28
                    go_wp2_with (first | (go_at_call 53; (with_reducible refine (utf8_second.calls s0_0 a1 t148 _ A27.out).mono ?_); rintro e w' ⟨rfl, ⟨nd, rfl⟩⟩; (try first | exact ⟨rfl, _, World.drewN_drewN _ _ _⟩ | exact ⟨rfl, _, Eq.trans (World.drewN_drewN _ _ _) (congrArg (World.drewN _) (Nat.add_assoc _ _ _))⟩)))
                    repeat (go_quiet (first | (go_at_call 53; (with_reducible refine (utf8_second.calls s0_0 a1 t148 _ A27.out).mono ?_); rintro e w' ⟨rfl, ⟨nd, rfl⟩⟩; (try first | exact ⟨rfl, _, World.drewN_drewN _ _ _⟩ | exact ⟨rfl, _, Eq.trans (World.drewN_drewN _ _ _) (congrArg (World.drewN _) (Nat.add_assoc _ _ _))⟩))); try go_wp2_with (first | (go_at_call 53; (with_reducible refine (utf8_second.calls s0_0 a1 t148 _ A27.out).mono ?_); rintro e w' ⟨rfl, ⟨nd, rfl⟩⟩; (try first | exact ⟨rfl, _, World.drewN_drewN _ _ _⟩ | exact ⟨rfl, _, Eq.trans (World.drewN_drewN _ _ _) (congrArg (World.drewN _) (Nat.add_assoc _ _ _))⟩))))
                    go_meet
                    case rel => exact ⟨_, (!t148), (by first | rfl | (simp; done) | (simp [*]; done)), H', ⟨by have := HJ2.out; have := HJ9.out; first | omega | exact Nat.le_refl _⟩, ⟨by repeat (first | (with_reducible first | exact HI0.out | apply IsS85.alloc | apply IsS85.drewN | apply IsS85.drew | apply IsS85.set_0 | apply IsS85.set_1 | apply IsS85.set_2 | apply IsS85.set_3) | exact HI0.out)⟩, ⟨by repeat (first | (with_reducible first | exact HK.out | apply KeepBut.set_ | apply keep_drewN | apply keep_drew | apply keep_alloc) | exact HK.out)⟩, ⟨by repeat (first | (with_reducible first | exact HB.out | apply below_alloc | apply pw_below_drewN | apply below_drew1 | refine below_set ?_ (IsS85.ge HI0.out)) | exact HB.out)⟩⟩
                  · rw [if_neg c26] at H
                    have c26b0 : (s0_2 == 1) = false := beq_eq_false_iff_ne.mpr c26
                    have c26b1 : (s0_2 != 1) = true := bne_iff_ne.mpr c26
                    (first | rw [c26b0] | (simp only [i64_w, i32_w]; rw [c26b0]) | skip)
                    have H' := Aside0.mk H
                    clear H
                    obtain ⟨HGz29, hgz29⟩ := HI0.out
                    have hcz29_0 := cellS85_0 HGz29
                    have hcz29_1 := cellS85_1 HGz29
                    have hcz29_2 := cellS85_2 HGz29
                    have hcz29_3 := cellS85_3 HGz29
                    have hfz29_0 := blk_frozen HGz29 0
                    have hfz29_1 := blk_frozen HGz29 1
                    have hfz29_2 := blk_frozen HGz29 2
                    have hfz29_3 := blk_frozen HGz29 3
                    clear HGz29 hgz29
                    go_wp2
                    repeat (go_quiet (fail); try go_wp2)
                    go_meet
                    case rel => exact ⟨_, (false), (by first | rfl | (simp; done) | (simp [*]; done)), H', ⟨by have := HJ2.out; have := HJ9.out; first | omega | exact Nat.le_refl _⟩, ⟨by repeat (first | (with_reducible first | exact HI0.out | apply IsS85.alloc | apply IsS85.drewN | apply IsS85.drew | apply IsS85.set_0 | apply IsS85.set_1 | apply IsS85.set_2 | apply IsS85.set_3) | exact HI0.out)⟩, ⟨by repeat (first | (with_reducible first | exact HK.out | apply KeepBut.set_ | apply keep_drewN | apply keep_drew | apply keep_alloc) | exact HK.out)⟩, ⟨by repeat (first | (with_reducible first | exact HB.out | apply below_alloc | apply pw_below_drewN | apply below_drew1 | refine below_set ?_ (IsS85.ge HI0.out)) | exact HB.out)⟩⟩
                case rest =>
                  clear HC24
                  try clear c1
                  try clear c2
                  try clear p2
                  try clear p3
                  try clear c4
                  try clear c4b0
                  try clear c4b1
                  try clear c9
                  try clear c11
                  try clear c11b0
                  try clear c11b1
                  try clear c16
                  try clear c17
                  try clear c17b0
                  try clear c17b1
                  try clear c19
                  try clear c19b0
                  try clear c19b1
                  try clear c26
                  try clear c26b0
                  try clear c26b1
                  try clear hcz13_0
                  try clear hcz13_1
                  try clear hcz13_2
                  try clear hcz13_3
                  try clear hcz15_0
                  try clear hcz15_1
                  try clear hcz15_2
                  try clear hcz15_3
                  try clear hcz21_0
                  try clear hcz21_1
                  try clear hcz21_2
                  try clear hcz21_3
                  try clear hcz23_0
                  try clear hcz23_1
                  try clear hcz23_2
                  try clear hcz23_3
                  try clear hcz25_0
                  try clear hcz25_1
                  try clear hcz25_2
                  try clear hcz25_3
                  try clear hcz28_0
                  try clear hcz28_1
                  try clear hcz28_2
                  try clear hcz28_3
                  try clear hcz29_0
                  try clear hcz29_1
                  try clear hcz29_2
                  try clear hcz29_3
                  try clear hcz6_0
                  try clear hcz6_1
                  try clear hcz6_2
                  try clear hcz6_3
                  try clear hcz8_0
                  try clear hcz8_1
                  try clear hcz8_2
                  try clear hcz8_3
                  try clear hfz13_0
                  try clear hfz13_1
                  try clear hfz13_2
                  try clear hfz13_3
                  try clear hfz15_0
                  try clear hfz15_1
                  try clear hfz15_2
                  try clear hfz15_3
                  try clear hfz21_0
                  try clear hfz21_1
                  try clear hfz21_2
                  try clear hfz21_3
                  try clear hfz23_0
                  try clear hfz23_1
                  try clear hfz23_2
                  try clear hfz23_3
                  try clear hfz25_0
                  try clear hfz25_1
                  try clear hfz25_2
                  try clear hfz25_3
                  try clear hfz28_0
                  try clear hfz28_1
                  try clear hfz28_2
                  try clear hfz28_3
                  try clear hfz29_0
                  try clear hfz29_1
                  try clear hfz29_2
                  try clear hfz29_3
                  try clear hfz6_0
                  try clear hfz6_1
                  try clear hfz6_2
                  try clear hfz6_3
                  try clear hfz8_0
                  try clear hfz8_1
                  try clear hfz8_2
                  try clear hfz8_3
                  try clear p2
                  try clear p3
                  obtain ⟨kq, x59_23, rfl, HA, HJ23, HI0, HK, HB⟩ := hcut
                  cases kq with
                  | zero => exact absurd HA.out (by simp [utf8_Reader_Push.j2])
                  | succ kj23 =>
                    have H := HA.out
                    clear HA
                    simp only [utf8_Reader_Push.j2] at H
                    have HC30 := Aside0.mk H
                    clear H
                    go_upto_if 59 with (fail)
                    repeat (go_quiet (fail); go_upto_if 59 with (fail))
                    go_cut [59] (fun v59 wc => ∃ (kq : Nat) (x59_29 : Bool), v59 = .bool x59_29 ∧ Aside0 (utf8_Reader_Push.j3 kq a1 x59_29 s0_0 s0_1 s0_2 s0_3 = some (r1, r2, r3, r4, r5, r6)) ∧ Aside0 (kq ≤ kj23) ∧ Aside0 (IsS85 w0 wc g s0_0 s0_1 s0_2 s0_3) ∧ Aside0 (KeepBut w wc g none) ∧ Aside0 (Below w0.heap.size w0 wc))
                    case first =>
                      have H := HC30.out
                      clear HC30
                      by_cases c31 : x59_23 = true
                      · subst c31
                        have H1 : (utf8_Reader_Push.j3 kj23 a1 true s0_0 s0_1 s0_2 s0_3) = some (r1, r2, r3, r4, r5, r6) := by rw [if_pos rfl] at H; exact H
                        clear H
                        have H := H1
                        clear H1
                        have H' := Aside0.mk H
                        clear H
                        go_wp2
                        repeat (go_quiet (fail); try go_wp2)
                        go_meet
                        case rel => exact ⟨_, (true), (by first | rfl | (simp; done) | (simp [*]; done)), H', ⟨by have := HJ2.out; have := HJ9.out; have := HJ23.out; first | omega | exact Nat.le_refl _⟩, ⟨by repeat (first | (with_reducible first | exact HI0.out | apply IsS85.alloc | apply IsS85.drewN | apply IsS85.drew | apply IsS85.set_0 | apply IsS85.set_1 | apply IsS85.set_2 | apply IsS85.set_3) | exact HI0.out)⟩, ⟨by repeat (first | (with_reducible first | exact HK.out | apply KeepBut.set_ | apply keep_drewN | apply keep_drew | apply keep_alloc) | exact HK.out)⟩, ⟨by repeat (first | (with_reducible first | exact HB.out | apply below_alloc | apply pw_below_drewN | apply below_drew1 | refine below_set ?_ (IsS85.ge HI0.out)) | exact HB.out)⟩⟩
                      · replace c31 := Bool.eq_false_iff.mpr c31
                        subst c31
                        have H1 : (utf8_Reader_Push.j3 kj23 a1 ((Go.bits .andNot .u8 a1 63) != 128) s0_0 s0_1 s0_2 s0_3) = some (r1, r2, r3, r4, r5, r6) := by rw [if_neg (show ¬ (false = true) by decide)] at H; exact H
                        clear H
                        have H := H1
                        clear H1
                        have H' := Aside0.mk H
                        clear H
                        go_wp2
                        repeat (go_quiet (fail); try go_wp2)
                        go_meet
                        case rel => exact ⟨_, (((Go.bits .andNot .u8 a1 63) != 128)), (by first | rfl | (simp; done) | (simp [*]; done)), H', ⟨by have := HJ2.out; have := HJ9.out; have := HJ23.out; first | omega | exact Nat.le_refl _⟩, ⟨by repeat (first | (with_reducible first | exact HI0.out | apply IsS85.alloc | apply IsS85.drewN | apply IsS85.drew | apply IsS85.set_0 | apply IsS85.set_1 | apply IsS85.set_2 | apply IsS85.set_3) | exact HI0.out)⟩, ⟨by repeat (first | (with_reducible first | exact HK.out | apply KeepBut.set_ | apply keep_drewN | apply keep_drew | apply keep_alloc) | exact HK.out)⟩, ⟨by repeat (first | (with_reducible first | exact HB.out | apply below_alloc | apply pw_below_drewN | apply below_drew1 | refine below_set ?_ (IsS85.ge HI0.out)) | exact HB.out)⟩⟩
                    case rest =>
                      clear HC30
                      try clear c1
                      try clear c2
                      try clear p2
                      try clear c3
                      try clear p3
                      try clear c4
                      try clear c4b0
                      try clear c4b1
                      try clear c9
                      try clear c11
                      try clear c11b0
                      try clear c11b1
                      try clear c16
                      try clear c17
                      try clear c17b0
                      try clear c17b1
                      try clear c19
                      try clear c19b0
                      try clear c19b1
                      try clear c26
                      try clear c26b0
                      try clear c26b1
                      try clear c31
                      try clear hcz13_0
                      try clear hcz13_1
                      try clear hcz13_2
                      try clear hcz13_3
                      try clear hcz15_0
                      try clear hcz15_1
                      try clear hcz15_2
                      try clear hcz15_3
                      try clear hcz21_0
                      try clear hcz21_1
                      try clear hcz21_2
                      try clear hcz21_3
                      try clear hcz23_0
                      try clear hcz23_1
                      try clear hcz23_2
                      try clear hcz23_3
                      try clear hcz25_0
                      try clear hcz25_1
                      try clear hcz25_2
                      try clear hcz25_3
                      try clear hcz28_0
                      try clear hcz28_1
                      try clear hcz28_2
                      try clear hcz28_3
                      try clear hcz29_0
                      try clear hcz29_1
                      try clear hcz29_2
                      try clear hcz29_3
                      try clear hcz6_0
                      try clear hcz6_1
                      try clear hcz6_2
                      try clear hcz6_3
                      try clear hcz8_0
                      try clear hcz8_1
                      try clear hcz8_2
                      try clear hcz8_3
                      try clear hfz13_0
                      try clear hfz13_1
                      try clear hfz13_2
                      try clear hfz13_3
                      try clear hfz15_0
                      try clear hfz15_1
                      try clear hfz15_2
                      try clear hfz15_3
                      try clear hfz21_0
                      try clear hfz21_1
                      try clear hfz21_2
                      try clear hfz21_3
                      try clear hfz23_0
                      try clear hfz23_1
                      try clear hfz23_2
                      try clear hfz23_3
                      try clear hfz25_0
                      try clear hfz25_1
                      try clear hfz25_2
                      try clear hfz25_3
                      try clear hfz28_0
                      try clear hfz28_1
                      try clear hfz28_2
                      try clear hfz28_3
                      try clear hfz29_0
                      try clear hfz29_1
                      try clear hfz29_2
                      try clear hfz29_3
                      try clear hfz6_0
                      try clear hfz6_1
                      try clear hfz6_2
                      try clear hfz6_3
                      try clear hfz8_0
                      try clear hfz8_1
                      try clear hfz8_2
                      try clear hfz8_3
                      try clear p2
                      try clear p3
                      obtain ⟨kq, x59_29, rfl, HA, HJ29, HI0, HK, HB⟩ := hcut
                      cases kq with
                      | zero => exact absurd HA.out (by simp [utf8_Reader_Push.j3])
                      | succ kj29 =>
                        have H := HA.out
                        clear HA
                        simp only [utf8_Reader_Push.j3] at H
                        by_cases c32 : x59_29 = true
                        · subst c32
                          have H1 : (some (0, 3, s0_0, s0_1, s0_2, s0_3)) = some (r1, r2, r3, r4, r5, r6) := by rw [if_pos rfl] at H; exact H
                          clear H
                          have H := H1
                          clear H1
                          simp only [Option.some.injEq, Prod.mk.injEq] at H
                          obtain ⟨rfl, rfl, rfl, rfl, rfl, rfl⟩ := H
                          go_wp2
                          repeat (go_quiet (fail); try go_wp2)
                          go_ret2
                          exact ⟨by first | rfl | (simp [errW_none, errW_some] <;> rfl) | (simp [*, errW_none, errW_some] <;> rfl), by repeat (first | (with_reducible first | exact HI0.out | apply IsS85.alloc | apply IsS85.drewN | apply IsS85.drew | apply IsS85.set_0 | apply IsS85.set_1 | apply IsS85.set_2 | apply IsS85.set_3) | exact HI0.out), by repeat (first | (with_reducible first | exact HB.out | apply below_alloc | apply pw_below_drewN | apply below_drew1 | refine below_set ?_ (IsS85.ge HI0.out)) | exact HB.out), by repeat (first | (with_reducible first | exact HK.out | apply KeepBut.set_ | apply keep_drewN | apply keep_drew | apply keep_alloc) | exact HK.out)⟩
                        · replace c32 := Bool.eq_false_iff.mpr c32
                          subst c32
                          have H1 : (if (wrap64 (s0_2 + 1)) < s0_3 then (some (0, 1, s0_0, Go.bits .or .i32 (wrap32 (s0_1 * 64)) (wrap32 (Go.bits .and .u8 a1 63)), wrap64 (s0_2 + 1), s0_3)) else (some (Go.bits .or .i32 (wrap32 (s0_1 * 64)) (wrap32 (Go.bits .and .u8 a1 63)), 2, s0_0, Go.bits .or .i32 (wrap32 (s0_1 * 64)) (wrap32 (Go.bits .and .u8 a1 63)), 0, s0_3))) = some (r1, r2, r3, r4, r5, r6) := by rw [if_neg (show ¬ (false = true) by decide)] at H; exact H
                          clear H
                          have H := H1
                          clear H1
                          by_cases c33 : (wrap64 (s0_2 + 1)) < s0_3
                          · rw [if_pos c33] at H
                            have c33b0 : decide ((wrap64 (s0_2 + 1)) < s0_3) = true := decide_eq_true c33
                            clear c33
                            simp only [Option.some.injEq, Prod.mk.injEq] at H
                            obtain ⟨rfl, rfl, rfl, rfl, rfl, rfl⟩ := H
                            obtain ⟨HGz34, hgz34⟩ := HI0.out
                            have hcz34_0 := cellS85_0 HGz34
                            have hcz34_1 := cellS85_1 HGz34
                            have hcz34_2 := cellS85_2 HGz34
                            have hcz34_3 := cellS85_3 HGz34
                            have hfz34_0 := blk_frozen HGz34 0
                            have hfz34_1 := blk_frozen HGz34 1
                            have hfz34_2 := blk_frozen HGz34 2
                            have hfz34_3 := blk_frozen HGz34 3
                            clear HGz34 hgz34
                            go_wp2
                            repeat (go_quiet (fail); try go_wp2)
                            go_ret2
                            exact ⟨by first | rfl | (simp [errW_none, errW_some] <;> rfl) | (simp [*, errW_none, errW_some] <;> rfl), by repeat (first | (with_reducible first | exact HI0.out | apply IsS85.alloc | apply IsS85.drewN | apply IsS85.drew | apply IsS85.set_0 | apply IsS85.set_1 | apply IsS85.set_2 | apply IsS85.set_3) | exact HI0.out), by repeat (first | (with_reducible first | exact HB.out | apply below_alloc | apply pw_below_drewN | apply below_drew1 | refine below_set ?_ (IsS85.ge HI0.out)) | exact HB.out), by repeat (first | (with_reducible first | exact HK.out | apply KeepBut.set_ | apply keep_drewN | apply keep_drew | apply keep_alloc) | exact HK.out)⟩
                          · rw [if_neg c33] at H
                            have c33b0 : decide ((wrap64 (s0_2 + 1)) < s0_3) = false := decide_eq_false c33
                            clear c33
                            simp only [Option.some.injEq, Prod.mk.injEq] at H
                            obtain ⟨rfl, rfl, rfl, rfl, rfl, rfl⟩ := H
                            obtain ⟨HGz35, hgz35⟩ := HI0.out
                            have hcz35_0 := cellS85_0 HGz35
                            have hcz35_1 := cellS85_1 HGz35
                            have hcz35_2 := cellS85_2 HGz35
                            have hcz35_3 := cellS85_3 HGz35
                            have hfz35_0 := blk_frozen HGz35 0
                            have hfz35_1 := blk_frozen HGz35 1
                            have hfz35_2 := blk_frozen HGz35 2
                            have hfz35_3 := blk_frozen HGz35 3
                            clear HGz35 hgz35
                            go_wp2
                            repeat (go_quiet (fail); try go_wp2)
                            go_ret2
                            exact ⟨by first | rfl | (simp [errW_none, errW_some] <;> rfl) | (simp [*, errW_none, errW_some] <;> rfl), by repeat (first | (with_reducible first | exact HI0.out | apply IsS85.alloc | apply IsS85.drewN | apply IsS85.drew | apply IsS85.set_0 | apply IsS85.set_1 | apply IsS85.set_2 | apply IsS85.set_3) | exact HI0.out), by repeat (first | (with_reducible first | exact HB.out | apply below_alloc | apply pw_below_drewN | apply below_drew1 | refine below_set ?_ (IsS85.ge HI0.out)) | exact HB.out), by repeat (first | (with_reducible first | exact HK.out | apply KeepBut.set_ | apply keep_drewN | apply keep_drew | apply keep_alloc) | exact HK.out)⟩

/-! ### utf8_Reader_Left: function 45 -/
def utf8_Reader_Left.f (s0_0 : Int) (s0_1 : Int) (s0_2 : Int) (s0_3 : Int) : Option (Int × Int × Int × Int × Int) := some (s0_2, s0_0, s0_1, s0_2, s0_3)
set_option maxHeartbeats 8000000 in
set_option maxRecDepth 100000 in
theorem utf8_Reader_Left.calls (g : Nat) (s0_0 : Int) (s0_1 : Int) (s0_2 : Int) (s0_3 : Int) (r1 : Int) (r2 : Int) (r3 : Int) (r4 : Int) (r5 : Int) (w0 w : World) (hI : IsS85 w0 w g s0_0 s0_1 s0_2 s0_3) (hB : Below w0.heap.size w0 w) (h : utf8_Reader_Left.f s0_0 s0_1 s0_2 s0_3 = some (r1, r2, r3, r4, r5)) :
    Calls Try.prog 45 #[.pointer (some ⟨g, 0, none⟩)] w fun e w' => e = .returned (.int .i64 r1) ∧ IsS85 w0 w' g r2 r3 r4 r5 ∧ Below w0.heap.size w0 w' ∧ KeepBut w w' g none := by
  have HI0 := Aside0.mk hI
  have HK := Aside0.mk (KeepBut.refl w g none)
  have HL := Aside0.mk hB.size
  clear hI
  have HW0 := Aside0.mk hB.size
  have HB := Aside0.mk hB
  clear hB
  have H : (some (s0_2, s0_0, s0_1, s0_2, s0_3)) = some (r1, r2, r3, r4, r5) := h
  clear h
  simp only [Option.some.injEq, Prod.mk.injEq] at H
  obtain ⟨rfl, rfl, rfl, rfl, rfl⟩ := H
  obtain ⟨HGz2, hgz2⟩ := HI0.out
  have hcz2_0 := cellS85_0 HGz2
  have hcz2_1 := cellS85_1 HGz2
  have hcz2_2 := cellS85_2 HGz2
  have hcz2_3 := cellS85_3 HGz2
  have hfz2_0 := blk_frozen HGz2 0
  have hfz2_1 := blk_frozen HGz2 1
  have hfz2_2 := blk_frozen HGz2 2
  have hfz2_3 := blk_frozen HGz2 3
  clear HGz2 hgz2
  go_enter Try.func45, Try.ntmps45
  go_wp2
  go_ret
  exact ⟨by first | rfl | (simp [errW_none, errW_some] <;> rfl) | (simp [*, errW_none, errW_some] <;> rfl), by repeat (first | (with_reducible first | exact HI0.out | apply IsS85.alloc | apply IsS85.drewN | apply IsS85.drew | apply IsS85.set_0 | apply IsS85.set_1 | apply IsS85.set_2 | apply IsS85.set_3) | exact HI0.out), by repeat (first | (with_reducible first | exact HB.out | apply below_alloc | apply pw_below_drewN | apply below_drew1 | refine below_set ?_ (IsS85.ge HI0.out)) | exact HB.out), by repeat (first | (with_reducible first | exact HK.out | apply KeepBut.set_ | apply keep_drewN | apply keep_drew | apply keep_alloc) | exact HK.out)⟩

end Go.Proofs.Ytajinnlaajhoeaa.PAll
