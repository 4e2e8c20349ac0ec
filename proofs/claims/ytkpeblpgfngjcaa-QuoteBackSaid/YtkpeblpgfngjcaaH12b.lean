/- The string under way: Push, New. -/
import Derived.Test.YtkpeblpgfngjcaaPAllx1
import Derived.Test.YtkpeblpgfngjcaaPAllx2
import Derived.Test.YtkpeblpgfngjcaaPAllx3
import Derived.Test.YtkpeblpgfngjcaaPAllx4
import Derived.Test.YtkpeblpgfngjcaaPAllx5
import Derived.Test.YtkpeblpgfngjcaaHKit
import Derived.Test.YtkpeblpgfngjcaaLUtf
import Derived.Test.YtkpeblpgfngjcaaH12a
import Derived.Deep.RegionLaw
namespace Go.Proofs.Ytkpeblpgfngjcaa.Pure
open Go.RowKit Go.Proofs.Ytkpeblpgfngjcaa.PAll Go.Proofs.YtkpeblpgfngjcaaW.PrintWords Go.Proofs.YtkpeblpgfngjcaaW.PrintLast Go.Proofs.YtkpeblpgfngjcaaW.PrintMore
set_option linter.unusedVariables false
set_option linter.unusedSimpArgs false

/-! ### A byte outside of escapes -/
def SV.setr (s : SV) (d0 d1 d2 d3 : Int) : SV := { s with c0 := d0, c1 := d1, c2 := d2, c3 := d3 }
theorem setr_at {base p r : Nat} {S : Nat → Prop} {s : SV} {w : World} (h : StrAt w base S p r s) (d0 d1 d2 d3 : Int) :
    Keeps (fun k => k = r) w ((((w.setCell ⟨r, 0, none⟩ (.int .u8 d0)).setCell ⟨r, 1, none⟩ (.int .i32 d1)).setCell ⟨r, 2, none⟩ (.int .i64 d2)).setCell ⟨r, 3, none⟩ (.int .i64 d3)).drew ∧
      StrAt ((((w.setCell ⟨r, 0, none⟩ (.int .u8 d0)).setCell ⟨r, 1, none⟩ (.int .i32 d1)).setCell ⟨r, 2, none⟩ (.int .i64 d2)).setCell ⟨r, 3, none⟩ (.int .i64 d3)).drew base S p r (s.setr d0 d1 d2 d3) := by
  obtain ⟨A, cp, hp, hrow⟩ := h.row
  have hk := (((((Keeps.refl (fun k => k = r) w).at_ rfl 0 (.int .u8 d0)).at_ rfl 1 (.int .i32 d1)).at_ rfl 2 (.int .i64 d2)).at_ rfl 3 (.int .i64 d3)).drew
  refine ⟨hk, ⟨⟨A, cp, hk.blk hp h.pr, hk.R hrow (fun k hS => (h.ne k hS).2)⟩, ?_, h.ne, ⟨Nat.le_trans h.base_.1 hk.size, h.base_.2⟩, fun k hS => Nat.lt_of_lt_of_le (h.slt k hS) hk.size⟩⟩
  exact (blk_drew (blk_set (blk_set (blk_set (blk_set h.rd 0 _) 1 _) 2 _) 3 _)).trans rfl
theorem plain_low (base p r : Nat) (S : Nat → Prop) (s : SV) (x : Int) (w : World) (h : StrAt w base S p r s) (hx : x < 32) :
    Calls Try.prog 45 #[.pointer (some ⟨p, 0, none⟩), .int .u8 x] w fun e w' => e = .returned (.tuple #[.bool false, .int .i64 2]) ∧ Keeps (fun _ => False) w w' ∧ StrAt w' base S p r s := by
  have H := Aside0.mk h
  clear h
  go_enter Try.func45, Try.ntmps45
  go_wp2
  go_ret2
  exact ⟨rfl, Keeps.refl _ _, H.out⟩
set_option maxHeartbeats 4000000 in
set_option maxRecDepth 100000 in
theorem plain_utf8 (base p r k : Nat) (S : Nat → Prop) (s : SV) (x c told d0 d1 d2 d3 : Int) (w : World) (h : StrAt w base S p r s) (hx : 32 ≤ x) (hx2 : x ≤ 255) (hp : utf8_Reader_Push.f k s.c0 s.c1 s.c2 s.c3 x = some (c, told, d0, d1, d2, d3)) (ht : told = 3) :
    Calls Try.prog 45 #[.pointer (some ⟨p, 0, none⟩), .int .u8 x] w fun e w' => e = .returned (.tuple #[.bool false, .int .i64 4]) ∧ Keeps (fun _ => False) w w' ∧ StrAt w' base S p r s := by
  obtain ⟨A, cp, hpb, hrow⟩ := h.row
  have hrd := h.rd
  have k2 : w.cell? ⟨p, 2, none⟩ = some (.pointer (some ⟨r, 0, none⟩)) := (blk_cell hpb 2).trans rfl
  have r0 : w.cell? ⟨r, 0, none⟩ = some (.int .u8 s.c0) := (blk_cell hrd 0).trans rfl
  have r1 : w.cell? ⟨r, 1, none⟩ = some (.int .i32 s.c1) := (blk_cell hrd 1).trans rfl
  have r2 : w.cell? ⟨r, 2, none⟩ = some (.int .i64 s.c2) := (blk_cell hrd 2).trans rfl
  have r3 : w.cell? ⟨r, 3, none⟩ = some (.int .i64 s.c3) := (blk_cell hrd 3).trans rfl
  have hlt := h.lt
  have H := Aside0.mk h
  have HF := Aside0.mk hp
  have HPB := Aside0.mk hpb
  have HRD := Aside0.mk hrd
  have t3 : (told == 3) = true := beq_iff_eq.mpr ht
  clear h hpb hrow hrd hp ht
  go_enter Try.func45, Try.ntmps45
  go_wp2_with (first
    | (go_at_call 59; refine (utf8_Reader_Push.calls k w.heap.size s.c0 s.c1 s.c2 s.c3 x c told d0 d1 d2 d3 w _ ⟨by simpa using heap_alloc_new w _, Nat.le_refl _⟩ ((Below.refl _ w).alloc (Nat.le_refl _) _) HF.out).mono ?_; rintro e w1 ⟨rfl, hI, hB, _⟩; have HB := Aside0.mk hB; have HI := Aside0.mk hI; have HP1 := Aside0.mk ((hB.block p hlt.1).trans HPB.out); have k6 : w1.cell? ⟨p, 6, none⟩ = some (.int .u16 s.high) := (blk_cell HP1.out 6).trans rfl; clear hI hB))
  go_ret2
  have hk := Keeps.of_below HB.out (fun _ => False)
  exact ⟨rfl, hk, H.out.keep (hk) id id (fun _ _ => id)⟩
set_option maxHeartbeats 4000000 in
set_option maxRecDepth 100000 in
theorem plain_sur (base p r k : Nat) (S : Nat → Prop) (s : SV) (x c told d0 d1 d2 d3 : Int) (w : World) (h : StrAt w base S p r s) (hx : 32 ≤ x) (hx2 : x ≤ 255) (hp : utf8_Reader_Push.f k s.c0 s.c1 s.c2 s.c3 x = some (c, told, d0, d1, d2, d3)) (ht : told ≠ 3) (hh : s.high ≠ 0) (hx92 : x ≠ 92) :
    Calls Try.prog 45 #[.pointer (some ⟨p, 0, none⟩), .int .u8 x] w fun e w' => e = .returned (.tuple #[.bool false, .int .i64 5]) ∧ Keeps (fun _ => False) w w' ∧ StrAt w' base S p r s := by
  obtain ⟨A, cp, hpb, hrow⟩ := h.row
  have hrd := h.rd
  have k2 : w.cell? ⟨p, 2, none⟩ = some (.pointer (some ⟨r, 0, none⟩)) := (blk_cell hpb 2).trans rfl
  have r0 : w.cell? ⟨r, 0, none⟩ = some (.int .u8 s.c0) := (blk_cell hrd 0).trans rfl
  have r1 : w.cell? ⟨r, 1, none⟩ = some (.int .i32 s.c1) := (blk_cell hrd 1).trans rfl
  have r2 : w.cell? ⟨r, 2, none⟩ = some (.int .i64 s.c2) := (blk_cell hrd 2).trans rfl
  have r3 : w.cell? ⟨r, 3, none⟩ = some (.int .i64 s.c3) := (blk_cell hrd 3).trans rfl
  have hlt := h.lt
  have H := Aside0.mk h
  have HF := Aside0.mk hp
  have HPB := Aside0.mk hpb
  have HRD := Aside0.mk hrd
  have t3 : (told == 3) = false := beq_f ht
  have th : (s.high != 0) = true := bne_t hh
  have tx : (x != 92) = true := bne_t hx92
  have tx' : (x == 92) = false := beq_f hx92
  clear h hpb hrow hrd hp ht hh hx92
  go_enter Try.func45, Try.ntmps45
  go_wp2_with (first
    | (go_at_call 59; refine (utf8_Reader_Push.calls k w.heap.size s.c0 s.c1 s.c2 s.c3 x c told d0 d1 d2 d3 w _ ⟨by simpa using heap_alloc_new w _, Nat.le_refl _⟩ ((Below.refl _ w).alloc (Nat.le_refl _) _) HF.out).mono ?_; rintro e w1 ⟨rfl, hI, hB, _⟩; have HB := Aside0.mk hB; have HI := Aside0.mk hI; have HP1 := Aside0.mk ((hB.block p hlt.1).trans HPB.out); have k6 : w1.cell? ⟨p, 6, none⟩ = some (.int .u16 s.high) := (blk_cell HP1.out 6).trans rfl; clear hI hB))
  go_ret2
  have hk := Keeps.of_below HB.out (fun _ => False)
  exact ⟨rfl, hk, H.out.keep (hk) id id (fun _ _ => id)⟩
set_option maxHeartbeats 4000000 in
set_option maxRecDepth 100000 in
theorem plain_begun (base p r k : Nat) (S : Nat → Prop) (s : SV) (x c told d0 d1 d2 d3 : Int) (w : World) (h : StrAt w base S p r s) (hx : 32 ≤ x) (hx2 : x ≤ 255) (hp : utf8_Reader_Push.f k s.c0 s.c1 s.c2 s.c3 x = some (c, told, d0, d1, d2, d3)) (ht : told = 1) (hh : s.high = 0) :
    Calls Try.prog 45 #[.pointer (some ⟨p, 0, none⟩), .int .u8 x] w fun e w' => e = .returned (.tuple #[.bool false, .int .i64 0]) ∧ Keeps (fun k => k = r) w w' ∧ StrAt w' base S p r (s.setr d0 d1 d2 d3) := by
  obtain ⟨A, cp, hpb, hrow⟩ := h.row
  have hrd := h.rd
  have k2 : w.cell? ⟨p, 2, none⟩ = some (.pointer (some ⟨r, 0, none⟩)) := (blk_cell hpb 2).trans rfl
  have r0 : w.cell? ⟨r, 0, none⟩ = some (.int .u8 s.c0) := (blk_cell hrd 0).trans rfl
  have r1 : w.cell? ⟨r, 1, none⟩ = some (.int .i32 s.c1) := (blk_cell hrd 1).trans rfl
  have r2 : w.cell? ⟨r, 2, none⟩ = some (.int .i64 s.c2) := (blk_cell hrd 2).trans rfl
  have r3 : w.cell? ⟨r, 3, none⟩ = some (.int .i64 s.c3) := (blk_cell hrd 3).trans rfl
  have hlt := h.lt
  have H := Aside0.mk h
  have HF := Aside0.mk hp
  have HPB := Aside0.mk hpb
  have HRD := Aside0.mk hrd
  have t3 : (told == 3) = false := by rw [ht]; rfl
  have t1 : (told == 1) = true := beq_iff_eq.mpr ht
  have th : (s.high != 0) = false := by rw [hh]; rfl
  clear h hpb hrow hrd hp ht hh
  go_enter Try.func45, Try.ntmps45
  go_wp2_with (first
    | (go_at_call 59; refine (utf8_Reader_Push.calls k w.heap.size s.c0 s.c1 s.c2 s.c3 x c told d0 d1 d2 d3 w _ ⟨by simpa using heap_alloc_new w _, Nat.le_refl _⟩ ((Below.refl _ w).alloc (Nat.le_refl _) _) HF.out).mono ?_; rintro e w1 ⟨rfl, hI, hB, _⟩; have HB := Aside0.mk hB; have HI := Aside0.mk hI; have HP1 := Aside0.mk ((hB.block p hlt.1).trans HPB.out); have k6 : w1.cell? ⟨p, 6, none⟩ = some (.int .u16 s.high) := (blk_cell HP1.out 6).trans rfl; have e0 := cellS88_0 HI.out.1; have e1 := cellS88_1 HI.out.1; have e2 := cellS88_2 HI.out.1; have e3 := cellS88_3 HI.out.1; have HR1 := Aside0.mk ((hB.block r hlt.2).trans HRD.out); have j2 : w1.cell? ⟨p, 2, none⟩ = some (.pointer (some ⟨r, 0, none⟩)) := (blk_cell HP1.out 2).trans rfl; have q0 : w1.cell? ⟨r, 0, none⟩ = some (.int .u8 s.c0) := (blk_cell HR1.out 0).trans rfl; have q1 : w1.cell? ⟨r, 1, none⟩ = some (.int .i32 s.c1) := (blk_cell HR1.out 1).trans rfl; have q2 : w1.cell? ⟨r, 2, none⟩ = some (.int .i64 s.c2) := (blk_cell HR1.out 2).trans rfl; have q3 : w1.cell? ⟨r, 3, none⟩ = some (.int .i64 s.c3) := (blk_cell HR1.out 3).trans rfl; have f0 := blk_frozen HR1.out 0; have f1 := blk_frozen HR1.out 1; have f2 := blk_frozen HR1.out 2; have f3 := blk_frozen HR1.out 3; clear hI hB))
  go_region
  go_wp2
  go_ret2
  have h1 := H.out.keep (Keeps.of_below HB.out (fun _ => False)) id id (fun _ _ => id)
  have h2 := setr_at h1 d0 d1 d2 d3
  exact ⟨rfl, (Keeps.of_below HB.out _).trans h2.1 (fun _ h => .inl h), h2.2⟩
def SV.over (s : SV) : SV := { s with en := true }
def SV.back (s : SV) : SV := { s with at_ := 1 }
set_option maxHeartbeats 4000000 in
set_option maxRecDepth 100000 in
theorem plain_over (base p r k : Nat) (S : Nat → Prop) (s : SV) (x c told d0 d1 d2 d3 : Int) (w : World) (h : StrAt w base S p r s) (hx : 32 ≤ x) (hx2 : x ≤ 255) (hp : utf8_Reader_Push.f k s.c0 s.c1 s.c2 s.c3 x = some (c, told, d0, d1, d2, d3)) (ht : told = 2) (hh : s.high = 0) (hq : x = 34) :
    Calls Try.prog 45 #[.pointer (some ⟨p, 0, none⟩), .int .u8 x] w fun e w' => e = .returned (.tuple #[.bool true, .int .i64 0]) ∧ Keeps (fun k => k = p) w w' ∧ StrAt w' base S p r s.over := by
  obtain ⟨A, cp, hpb, hrow⟩ := h.row
  have hrd := h.rd
  have k2 : w.cell? ⟨p, 2, none⟩ = some (.pointer (some ⟨r, 0, none⟩)) := (blk_cell hpb 2).trans rfl
  have r0 : w.cell? ⟨r, 0, none⟩ = some (.int .u8 s.c0) := (blk_cell hrd 0).trans rfl
  have r1 : w.cell? ⟨r, 1, none⟩ = some (.int .i32 s.c1) := (blk_cell hrd 1).trans rfl
  have r2 : w.cell? ⟨r, 2, none⟩ = some (.int .i64 s.c2) := (blk_cell hrd 2).trans rfl
  have r3 : w.cell? ⟨r, 3, none⟩ = some (.int .i64 s.c3) := (blk_cell hrd 3).trans rfl
  have hlt := h.lt
  have H := Aside0.mk h
  have HF := Aside0.mk hp
  have HPB := Aside0.mk hpb
  have HRD := Aside0.mk hrd
  have t3 : (told == 3) = false := by rw [ht]; rfl
  have t1 : (told == 1) = false := by rw [ht]; rfl
  have th : (s.high != 0) = false := by rw [hh]; rfl
  have tq : (x == 34) = true := beq_iff_eq.mpr hq
  clear h hpb hrow hrd hp ht hh hq
  go_enter Try.func45, Try.ntmps45
  go_wp2_with (first
    | (go_at_call 59; refine (utf8_Reader_Push.calls k w.heap.size s.c0 s.c1 s.c2 s.c3 x c told d0 d1 d2 d3 w _ ⟨by simpa using heap_alloc_new w _, Nat.le_refl _⟩ ((Below.refl _ w).alloc (Nat.le_refl _) _) HF.out).mono ?_; rintro e w1 ⟨rfl, hI, hB, _⟩; have HB := Aside0.mk hB; have HI := Aside0.mk hI; have HP1 := Aside0.mk ((hB.block p hlt.1).trans HPB.out); have k6 : w1.cell? ⟨p, 6, none⟩ = some (.int .u16 s.high) := (blk_cell HP1.out 6).trans rfl; have f7 := blk_frozen HP1.out 7; have k7 : w1.cell? ⟨p, 7, none⟩ = some (.bool s.en) := (blk_cell HP1.out 7).trans rfl; clear hI hB))
  go_ret2
  have h1 := H.out.keep (Keeps.of_below HB.out (fun _ => False)) id id (fun _ _ => id)
  obtain ⟨A', cp', hp', hrow'⟩ := h1.row
  have hk := (Keeps.refl (fun k => k = p) w1).at_ rfl 7 (.bool true)
  exact ⟨rfl, (Keeps.of_below HB.out _).trans hk (fun _ h => .inl h), ⟨⟨A', cp', (blk_set hp' 7 _).trans rfl, hk.R hrow' (fun k hS => (h1.ne k hS).1)⟩, hk.blk h1.rd (fun e => h1.pr e.symm), h1.ne, ⟨Nat.le_trans h1.base_.1 hk.size, h1.base_.2⟩, fun k hS => Nat.lt_of_lt_of_le (h1.slt k hS) hk.size⟩⟩
set_option maxHeartbeats 4000000 in
set_option maxRecDepth 100000 in
theorem plain_back (base p r k : Nat) (S : Nat → Prop) (s : SV) (x c told d0 d1 d2 d3 : Int) (w : World) (h : StrAt w base S p r s) (hx : 32 ≤ x) (hx2 : x ≤ 255) (hp : utf8_Reader_Push.f k s.c0 s.c1 s.c2 s.c3 x = some (c, told, d0, d1, d2, d3)) (ht : told = 2) (hq : x = 92) :
    Calls Try.prog 45 #[.pointer (some ⟨p, 0, none⟩), .int .u8 x] w fun e w' => e = .returned (.tuple #[.bool false, .int .i64 0]) ∧ Keeps (fun k => k = p) w w' ∧ StrAt w' base S p r s.back := by
  obtain ⟨A, cp, hpb, hrow⟩ := h.row
  have hrd := h.rd
  have k2 : w.cell? ⟨p, 2, none⟩ = some (.pointer (some ⟨r, 0, none⟩)) := (blk_cell hpb 2).trans rfl
  have r0 : w.cell? ⟨r, 0, none⟩ = some (.int .u8 s.c0) := (blk_cell hrd 0).trans rfl
  have r1 : w.cell? ⟨r, 1, none⟩ = some (.int .i32 s.c1) := (blk_cell hrd 1).trans rfl
  have r2 : w.cell? ⟨r, 2, none⟩ = some (.int .i64 s.c2) := (blk_cell hrd 2).trans rfl
  have r3 : w.cell? ⟨r, 3, none⟩ = some (.int .i64 s.c3) := (blk_cell hrd 3).trans rfl
  have hlt := h.lt
  have H := Aside0.mk h
  have HF := Aside0.mk hp
  have HPB := Aside0.mk hpb
  have HRD := Aside0.mk hrd
  have t3 : (told == 3) = false := by rw [ht]; rfl
  have t1 : (told == 1) = false := by rw [ht]; rfl
  have tq : (x == 34) = false := by rw [hq]; rfl
  have tx : (x != 92) = false := by rw [hq]; rfl
  have tx' : (x == 92) = true := beq_iff_eq.mpr hq
  clear h hpb hrow hrd hp ht hq
  go_enter Try.func45, Try.ntmps45
  go_wp2_with (first
    | (go_at_call 59; refine (utf8_Reader_Push.calls k w.heap.size s.c0 s.c1 s.c2 s.c3 x c told d0 d1 d2 d3 w _ ⟨by simpa using heap_alloc_new w _, Nat.le_refl _⟩ ((Below.refl _ w).alloc (Nat.le_refl _) _) HF.out).mono ?_; rintro e w1 ⟨rfl, hI, hB, _⟩; have HB := Aside0.mk hB; have HI := Aside0.mk hI; have HP1 := Aside0.mk ((hB.block p hlt.1).trans HPB.out); have k6 : w1.cell? ⟨p, 6, none⟩ = some (.int .u16 s.high) := (blk_cell HP1.out 6).trans rfl; have f3 := blk_frozen HP1.out 3; have k3 : w1.cell? ⟨p, 3, none⟩ = some (.int .i64 s.at_) := (blk_cell HP1.out 3).trans rfl; clear hI hB))
  all_goals
    go_ret2
    have h1 := H.out.keep (Keeps.of_below HB.out (fun _ => False)) id id (fun _ _ => id)
    obtain ⟨A', cp', hp', hrow'⟩ := h1.row
    have hk := (Keeps.refl (fun k => k = p) w1).at_ rfl 3 (.int .i64 1)
    exact ⟨rfl, (Keeps.of_below HB.out _).trans hk (fun _ h => .inl h), ⟨⟨A', cp', (blk_set hp' 3 _).trans rfl, hk.R hrow' (fun k hS => (h1.ne k hS).1)⟩, hk.blk h1.rd (fun e => h1.pr e.symm), h1.ne, ⟨Nat.le_trans h1.base_.1 hk.size, h1.base_.2⟩, fun k hS => Nat.lt_of_lt_of_le (h1.slt k hS) hk.size⟩⟩
set_option maxHeartbeats 4000000 in
set_option maxRecDepth 100000 in
theorem plain_non (base p r k : Nat) (S : Nat → Prop) (s : SV) (x c told d0 d1 d2 d3 : Int) (w : World) (h : StrAt w base S p r s) (hx : 32 ≤ x) (hx2 : x ≤ 255) (hp : utf8_Reader_Push.f k s.c0 s.c1 s.c2 s.c3 x = some (c, told, d0, d1, d2, d3)) (ht : told = 2) (hh : s.high = 0) (hx34 : x ≠ 34) (hx92 : x ≠ 92) (hn : scalar_Nonchar.f c = some true) :
    Calls Try.prog 45 #[.pointer (some ⟨p, 0, none⟩), .int .u8 x] w fun e w' => e = .returned (.tuple #[.bool false, .int .i64 6]) ∧ Keeps (fun _ => False) w w' ∧ StrAt w' base S p r s := by
  obtain ⟨A, cp, hpb, hrow⟩ := h.row
  have hrd := h.rd
  have k2 : w.cell? ⟨p, 2, none⟩ = some (.pointer (some ⟨r, 0, none⟩)) := (blk_cell hpb 2).trans rfl
  have r0 : w.cell? ⟨r, 0, none⟩ = some (.int .u8 s.c0) := (blk_cell hrd 0).trans rfl
  have r1 : w.cell? ⟨r, 1, none⟩ = some (.int .i32 s.c1) := (blk_cell hrd 1).trans rfl
  have r2 : w.cell? ⟨r, 2, none⟩ = some (.int .i64 s.c2) := (blk_cell hrd 2).trans rfl
  have r3 : w.cell? ⟨r, 3, none⟩ = some (.int .i64 s.c3) := (blk_cell hrd 3).trans rfl
  have hlt := h.lt
  have H := Aside0.mk h
  have HF := Aside0.mk hp
  have HPB := Aside0.mk hpb
  have HRD := Aside0.mk hrd
  have t3 : (told == 3) = false := by rw [ht]; rfl
  have t1 : (told == 1) = false := by rw [ht]; rfl
  have th : (s.high != 0) = false := by rw [hh]; rfl
  have tx : (x != 92) = true := bne_t hx92
  have tx' : (x == 92) = false := beq_f hx92
  have tq : (x == 34) = false := beq_f hx34
  have HN := Aside0.mk hn
  clear h hpb hrow hrd hp ht hh hx34 hx92 hn
  go_enter Try.func45, Try.ntmps45
  go_wp2_with (first
    | (go_at_call 59; refine (utf8_Reader_Push.calls k w.heap.size s.c0 s.c1 s.c2 s.c3 x c told d0 d1 d2 d3 w _ ⟨by simpa using heap_alloc_new w _, Nat.le_refl _⟩ ((Below.refl _ w).alloc (Nat.le_refl _) _) HF.out).mono ?_; rintro e w1 ⟨rfl, hI, hB, _⟩; have HB := Aside0.mk hB; have HI := Aside0.mk hI; have HP1 := Aside0.mk ((hB.block p hlt.1).trans HPB.out); have k6 : w1.cell? ⟨p, 6, none⟩ = some (.int .u16 s.high) := (blk_cell HP1.out 6).trans rfl; clear hI hB) | (go_at_call 60; refine (scalar_Nonchar.calls c true _ HN.out).mono ?_; rintro e w2 ⟨rfl, hd⟩; obtain ⟨nb, hd⟩ := hd.out; subst hd))
  go_ret2
  have hk := Keeps.of_below HB.out (fun _ => False)
  exact ⟨rfl, hk.drewN _, H.out.keep (hk.drewN _) id id (fun _ _ => id)⟩
set_option maxHeartbeats 4000000 in
set_option maxRecDepth 100000 in
theorem plain_say (base p r k : Nat) (S : Nat → Prop) (s : SV) (x c told d0 d1 d2 d3 : Int) (bs : List Int) (w : World) (h : StrAt w base S p r s) (hx : 32 ≤ x) (hx2 : x ≤ 255) (hp : utf8_Reader_Push.f k s.c0 s.c1 s.c2 s.c3 x = some (c, told, d0, d1, d2, d3)) (ht : told = 2) (hh : s.high = 0) (hx34 : x ≠ 34) (hx92 : x ≠ 92) (hn : scalar_Nonchar.f c = some false) (hbs : utf8_Bytes.f c = some bs) (hl : s.text.length + bs.length ≤ 1000000) (hsn : 0 ≤ s.n ∧ s.n ≤ 1000000) :
    Calls Try.prog 45 #[.pointer (some ⟨p, 0, none⟩), .int .u8 x] w fun e w' => e = .returned (.tuple #[.bool false, .int .i64 0]) ∧ Keeps (Mine S p r) w w' ∧ StrAt w' base (More S w w') p r ((s.say bs).setr d0 d1 d2 d3) := by
  obtain ⟨A, cp, hpb, hrow⟩ := h.row
  have hrd := h.rd
  have k2 : w.cell? ⟨p, 2, none⟩ = some (.pointer (some ⟨r, 0, none⟩)) := (blk_cell hpb 2).trans rfl
  have r0 : w.cell? ⟨r, 0, none⟩ = some (.int .u8 s.c0) := (blk_cell hrd 0).trans rfl
  have r1 : w.cell? ⟨r, 1, none⟩ = some (.int .i32 s.c1) := (blk_cell hrd 1).trans rfl
  have r2 : w.cell? ⟨r, 2, none⟩ = some (.int .i64 s.c2) := (blk_cell hrd 2).trans rfl
  have r3 : w.cell? ⟨r, 3, none⟩ = some (.int .i64 s.c3) := (blk_cell hrd 3).trans rfl
  have hlt := h.lt
  have H := Aside0.mk h
  have HF := Aside0.mk hp
  have HPB := Aside0.mk hpb
  have HRD := Aside0.mk hrd
  have t3 : (told == 3) = false := by rw [ht]; rfl
  have t1 : (told == 1) = false := by rw [ht]; rfl
  have th : (s.high != 0) = false := by rw [hh]; rfl
  have tx : (x != 92) = true := bne_t hx92
  have tx' : (x == 92) = false := beq_f hx92
  have tq : (x == 34) = false := beq_f hx34
  have HN := Aside0.mk hn
  have HBS := Aside0.mk hbs
  have HS := Aside0.mk h.slt
  clear h hpb hrow hrd hp ht hh hx34 hx92 hn hbs
  go_enter Try.func45, Try.ntmps45
  go_wp2_with (first
    | (go_at_call 59; refine (utf8_Reader_Push.calls k w.heap.size s.c0 s.c1 s.c2 s.c3 x c told d0 d1 d2 d3 w _ ⟨by simpa using heap_alloc_new w _, Nat.le_refl _⟩ ((Below.refl _ w).alloc (Nat.le_refl _) _) HF.out).mono ?_; rintro e w1 ⟨rfl, hI, hB, _⟩; have HB := Aside0.mk hB; have HI := Aside0.mk hI; have HP1 := Aside0.mk ((hB.block p hlt.1).trans HPB.out); have k6 : w1.cell? ⟨p, 6, none⟩ = some (.int .u16 s.high) := (blk_cell HP1.out 6).trans rfl; clear hI hB) | (go_at_call 60; refine (scalar_Nonchar.calls c false _ HN.out).mono ?_; rintro e w2 ⟨rfl, hd⟩; obtain ⟨nb, hd⟩ := hd.out; subst hd) | (go_at_call 57; refine (say_any base p r S s c bs _ ((H.out.keep (Keeps.of_below HB.out (fun _ => False)) id id (fun _ _ => id)).drewN nb) HBS.out hl hsn).mono ?_; rintro e w3 ⟨rfl, hk3, hs3⟩; have HK3 := Aside0.mk hk3; have HS3 := Aside0.mk hs3; have hi3 := hk3.blk HI.out.1 (fun hh => hh.elim (by omega) (fun hS => by have := HS.out _ hS; omega)); have e0 := cellS88_0 hi3; have e1 := cellS88_1 hi3; have e2 := cellS88_2 hi3; have e3 := cellS88_3 hi3; obtain ⟨A3, cp3, hp3, _⟩ := hs3.row; have hr3 := hs3.rd; have j2 : w3.cell? ⟨p, 2, none⟩ = some (.pointer (some ⟨r, 0, none⟩)) := (blk_cell hp3 2).trans rfl; have q0 : w3.cell? ⟨r, 0, none⟩ = some (.int .u8 s.c0) := (blk_cell hr3 0).trans rfl; have q1 : w3.cell? ⟨r, 1, none⟩ = some (.int .i32 s.c1) := (blk_cell hr3 1).trans rfl; have q2 : w3.cell? ⟨r, 2, none⟩ = some (.int .i64 s.c2) := (blk_cell hr3 2).trans rfl; have q3 : w3.cell? ⟨r, 3, none⟩ = some (.int .i64 s.c3) := (blk_cell hr3 3).trans rfl; have f0 := blk_frozen hr3 0; have f1 := blk_frozen hr3 1; have f2 := blk_frozen hr3 2; have f3 := blk_frozen hr3 3; clear hk3 hs3 hi3 hp3 hr3))
  go_region
  go_wp2
  go_ret2
  have h2 := setr_at HS3.out d0 d1 d2 d3
  have hk1 : Keeps (fun _ => False) w (w1.drewN nb) := (Keeps.of_below HB.out _).drewN nb
  have hk : Keeps (Mine S p r) w w3 := (hk1.mono (fun _ h => h.elim)).trans HK3.out (fun k hh => .inl (hh.elim .inl (fun hS => .inr (.inr hS))))
  have hk4 : Keeps (Mine S p r) w _ := hk.trans h2.1 (fun k hh => .inl (.inr (.inl hh)))
  refine ⟨rfl, hk4, h2.2.mono (fun k hh => ?_) (more_ne H.out.ne H.out.lt.1 H.out.lt.2) (more_lt H.out.slt hk4.size)⟩
  rcases hh with hh | hh
  · exact .inl hh
  · exact .inr ⟨Nat.le_trans hk1.size hh.1, Nat.lt_of_lt_of_le hh.2 h2.1.size⟩

set_option maxHeartbeats 2000000 in
theorem esc_say_34 (base p r : Nat) (S : Nat → Prop) (s : SV) (bs : List Int) (w : World) (h : StrAt w base S p r s) (hh : s.high = 0) (hf : utf8_Bytes.f 34 = some bs) (hl : s.text.length + bs.length ≤ 1000000) (hn : 0 ≤ s.n ∧ s.n ≤ 1000000) :
    Calls Try.prog 43 #[.pointer (some ⟨p, 0, none⟩), .int .u8 34] w fun e w' => e = .returned (.int .i64 0) ∧ Keeps (fun k => k = p ∨ S k) w w' ∧ StrAt w' base (More S w w') p r (s.say bs) := by
  have hk := run_look (w.alloc (.map escE 9)) w.heap.size 34 (heap_alloc_new w _)
  rw [show escF 34 = some 68 from rfl] at hk
  simp only [Option.isSome_some] at hk
  obtain ⟨A, cp, hp, _⟩ := h.row
  have k6 : w.cell? ⟨p, 6, none⟩ = some (.int .u16 s.high) := (blk_cell hp 6).trans rfl
  rw [hh] at k6
  have hlt := blk_lt hp
  have H := Aside0.mk h
  have hK := (Keeps.refl (fun _ => False) w).alloc (.map escE 9)
  have HC := Aside0.mk (does_any base p r S s 34 34 68 bs (w.alloc (.map escE 9)) rfl rfl (h.keep hK id id (fun _ _ => id)) hf hl hn)
  have HK := Aside0.mk hK
  clear h hp hh hf hK
  go_enter Try.func43, Try.ntmps43
  go_wp2_with (first | (go_at_call 53; refine (escapes_any _).mono ?_; rintro e w1 ⟨rfl, rfl⟩) | (go_at_call 68; refine HC.out.mono ?_; rintro e w1 ⟨rfl, hk1, hs1⟩; have HK1 := Aside0.mk hk1; have HS1 := Aside0.mk hs1; clear hk1 hs1))
  go_ret
  have hk2 : Keeps (fun k => k = p ∨ S k) w w1 := (HK.out.mono (fun _ h => h.elim)).trans HK1.out (fun _ h => .inl h)
  refine ⟨rfl, hk2, HS1.out.mono (fun k hh => ?_) (more_ne H.out.ne H.out.lt.1 H.out.lt.2) (more_lt H.out.slt hk2.size)⟩
  rcases hh with hh | hh
  · exact .inl hh
  · exact .inr ⟨Nat.le_trans HK.out.size hh.1, hh.2⟩
set_option maxHeartbeats 2000000 in
theorem esc_say_92 (base p r : Nat) (S : Nat → Prop) (s : SV) (bs : List Int) (w : World) (h : StrAt w base S p r s) (hh : s.high = 0) (hf : utf8_Bytes.f 92 = some bs) (hl : s.text.length + bs.length ≤ 1000000) (hn : 0 ≤ s.n ∧ s.n ≤ 1000000) :
    Calls Try.prog 43 #[.pointer (some ⟨p, 0, none⟩), .int .u8 92] w fun e w' => e = .returned (.int .i64 0) ∧ Keeps (fun k => k = p ∨ S k) w w' ∧ StrAt w' base (More S w w') p r (s.say bs) := by
  have hk := run_look (w.alloc (.map escE 9)) w.heap.size 92 (heap_alloc_new w _)
  rw [show escF 92 = some 68 from rfl] at hk
  simp only [Option.isSome_some] at hk
  obtain ⟨A, cp, hp, _⟩ := h.row
  have k6 : w.cell? ⟨p, 6, none⟩ = some (.int .u16 s.high) := (blk_cell hp 6).trans rfl
  rw [hh] at k6
  have hlt := blk_lt hp
  have H := Aside0.mk h
  have hK := (Keeps.refl (fun _ => False) w).alloc (.map escE 9)
  have HC := Aside0.mk (does_any base p r S s 92 92 68 bs (w.alloc (.map escE 9)) rfl rfl (h.keep hK id id (fun _ _ => id)) hf hl hn)
  have HK := Aside0.mk hK
  clear h hp hh hf hK
  go_enter Try.func43, Try.ntmps43
  go_wp2_with (first | (go_at_call 53; refine (escapes_any _).mono ?_; rintro e w1 ⟨rfl, rfl⟩) | (go_at_call 68; refine HC.out.mono ?_; rintro e w1 ⟨rfl, hk1, hs1⟩; have HK1 := Aside0.mk hk1; have HS1 := Aside0.mk hs1; clear hk1 hs1))
  go_ret
  have hk2 : Keeps (fun k => k = p ∨ S k) w w1 := (HK.out.mono (fun _ h => h.elim)).trans HK1.out (fun _ h => .inl h)
  refine ⟨rfl, hk2, HS1.out.mono (fun k hh => ?_) (more_ne H.out.ne H.out.lt.1 H.out.lt.2) (more_lt H.out.slt hk2.size)⟩
  rcases hh with hh | hh
  · exact .inl hh
  · exact .inr ⟨Nat.le_trans HK.out.size hh.1, hh.2⟩
set_option maxHeartbeats 2000000 in
theorem esc_say_47 (base p r : Nat) (S : Nat → Prop) (s : SV) (bs : List Int) (w : World) (h : StrAt w base S p r s) (hh : s.high = 0) (hf : utf8_Bytes.f 47 = some bs) (hl : s.text.length + bs.length ≤ 1000000) (hn : 0 ≤ s.n ∧ s.n ≤ 1000000) :
    Calls Try.prog 43 #[.pointer (some ⟨p, 0, none⟩), .int .u8 47] w fun e w' => e = .returned (.int .i64 0) ∧ Keeps (fun k => k = p ∨ S k) w w' ∧ StrAt w' base (More S w w') p r (s.say bs) := by
  have hk := run_look (w.alloc (.map escE 9)) w.heap.size 47 (heap_alloc_new w _)
  rw [show escF 47 = some 68 from rfl] at hk
  simp only [Option.isSome_some] at hk
  obtain ⟨A, cp, hp, _⟩ := h.row
  have k6 : w.cell? ⟨p, 6, none⟩ = some (.int .u16 s.high) := (blk_cell hp 6).trans rfl
  rw [hh] at k6
  have hlt := blk_lt hp
  have H := Aside0.mk h
  have hK := (Keeps.refl (fun _ => False) w).alloc (.map escE 9)
  have HC := Aside0.mk (does_any base p r S s 47 47 68 bs (w.alloc (.map escE 9)) rfl rfl (h.keep hK id id (fun _ _ => id)) hf hl hn)
  have HK := Aside0.mk hK
  clear h hp hh hf hK
  go_enter Try.func43, Try.ntmps43
  go_wp2_with (first | (go_at_call 53; refine (escapes_any _).mono ?_; rintro e w1 ⟨rfl, rfl⟩) | (go_at_call 68; refine HC.out.mono ?_; rintro e w1 ⟨rfl, hk1, hs1⟩; have HK1 := Aside0.mk hk1; have HS1 := Aside0.mk hs1; clear hk1 hs1))
  go_ret
  have hk2 : Keeps (fun k => k = p ∨ S k) w w1 := (HK.out.mono (fun _ h => h.elim)).trans HK1.out (fun _ h => .inl h)
  refine ⟨rfl, hk2, HS1.out.mono (fun k hh => ?_) (more_ne H.out.ne H.out.lt.1 H.out.lt.2) (more_lt H.out.slt hk2.size)⟩
  rcases hh with hh | hh
  · exact .inl hh
  · exact .inr ⟨Nat.le_trans HK.out.size hh.1, hh.2⟩
set_option maxHeartbeats 2000000 in
theorem esc_say_98 (base p r : Nat) (S : Nat → Prop) (s : SV) (bs : List Int) (w : World) (h : StrAt w base S p r s) (hh : s.high = 0) (hf : utf8_Bytes.f 8 = some bs) (hl : s.text.length + bs.length ≤ 1000000) (hn : 0 ≤ s.n ∧ s.n ≤ 1000000) :
    Calls Try.prog 43 #[.pointer (some ⟨p, 0, none⟩), .int .u8 98] w fun e w' => e = .returned (.int .i64 0) ∧ Keeps (fun k => k = p ∨ S k) w w' ∧ StrAt w' base (More S w w') p r (s.say bs) := by
  have hk := run_look (w.alloc (.map escE 9)) w.heap.size 98 (heap_alloc_new w _)
  rw [show escF 98 = some 69 from rfl] at hk
  simp only [Option.isSome_some] at hk
  obtain ⟨A, cp, hp, _⟩ := h.row
  have k6 : w.cell? ⟨p, 6, none⟩ = some (.int .u16 s.high) := (blk_cell hp 6).trans rfl
  rw [hh] at k6
  have hlt := blk_lt hp
  have H := Aside0.mk h
  have hK := (Keeps.refl (fun _ => False) w).alloc (.map escE 9)
  have HC := Aside0.mk (does_any base p r S s 98 8 69 bs (w.alloc (.map escE 9)) rfl rfl (h.keep hK id id (fun _ _ => id)) hf hl hn)
  have HK := Aside0.mk hK
  clear h hp hh hf hK
  go_enter Try.func43, Try.ntmps43
  go_wp2_with (first | (go_at_call 53; refine (escapes_any _).mono ?_; rintro e w1 ⟨rfl, rfl⟩) | (go_at_call 69; refine HC.out.mono ?_; rintro e w1 ⟨rfl, hk1, hs1⟩; have HK1 := Aside0.mk hk1; have HS1 := Aside0.mk hs1; clear hk1 hs1))
  go_ret
  have hk2 : Keeps (fun k => k = p ∨ S k) w w1 := (HK.out.mono (fun _ h => h.elim)).trans HK1.out (fun _ h => .inl h)
  refine ⟨rfl, hk2, HS1.out.mono (fun k hh => ?_) (more_ne H.out.ne H.out.lt.1 H.out.lt.2) (more_lt H.out.slt hk2.size)⟩
  rcases hh with hh | hh
  · exact .inl hh
  · exact .inr ⟨Nat.le_trans HK.out.size hh.1, hh.2⟩
set_option maxHeartbeats 2000000 in
theorem esc_say_102 (base p r : Nat) (S : Nat → Prop) (s : SV) (bs : List Int) (w : World) (h : StrAt w base S p r s) (hh : s.high = 0) (hf : utf8_Bytes.f 12 = some bs) (hl : s.text.length + bs.length ≤ 1000000) (hn : 0 ≤ s.n ∧ s.n ≤ 1000000) :
    Calls Try.prog 43 #[.pointer (some ⟨p, 0, none⟩), .int .u8 102] w fun e w' => e = .returned (.int .i64 0) ∧ Keeps (fun k => k = p ∨ S k) w w' ∧ StrAt w' base (More S w w') p r (s.say bs) := by
  have hk := run_look (w.alloc (.map escE 9)) w.heap.size 102 (heap_alloc_new w _)
  rw [show escF 102 = some 70 from rfl] at hk
  simp only [Option.isSome_some] at hk
  obtain ⟨A, cp, hp, _⟩ := h.row
  have k6 : w.cell? ⟨p, 6, none⟩ = some (.int .u16 s.high) := (blk_cell hp 6).trans rfl
  rw [hh] at k6
  have hlt := blk_lt hp
  have H := Aside0.mk h
  have hK := (Keeps.refl (fun _ => False) w).alloc (.map escE 9)
  have HC := Aside0.mk (does_any base p r S s 102 12 70 bs (w.alloc (.map escE 9)) rfl rfl (h.keep hK id id (fun _ _ => id)) hf hl hn)
  have HK := Aside0.mk hK
  clear h hp hh hf hK
  go_enter Try.func43, Try.ntmps43
  go_wp2_with (first | (go_at_call 53; refine (escapes_any _).mono ?_; rintro e w1 ⟨rfl, rfl⟩) | (go_at_call 70; refine HC.out.mono ?_; rintro e w1 ⟨rfl, hk1, hs1⟩; have HK1 := Aside0.mk hk1; have HS1 := Aside0.mk hs1; clear hk1 hs1))
  go_ret
  have hk2 : Keeps (fun k => k = p ∨ S k) w w1 := (HK.out.mono (fun _ h => h.elim)).trans HK1.out (fun _ h => .inl h)
  refine ⟨rfl, hk2, HS1.out.mono (fun k hh => ?_) (more_ne H.out.ne H.out.lt.1 H.out.lt.2) (more_lt H.out.slt hk2.size)⟩
  rcases hh with hh | hh
  · exact .inl hh
  · exact .inr ⟨Nat.le_trans HK.out.size hh.1, hh.2⟩
set_option maxHeartbeats 2000000 in
theorem esc_say_110 (base p r : Nat) (S : Nat → Prop) (s : SV) (bs : List Int) (w : World) (h : StrAt w base S p r s) (hh : s.high = 0) (hf : utf8_Bytes.f 10 = some bs) (hl : s.text.length + bs.length ≤ 1000000) (hn : 0 ≤ s.n ∧ s.n ≤ 1000000) :
    Calls Try.prog 43 #[.pointer (some ⟨p, 0, none⟩), .int .u8 110] w fun e w' => e = .returned (.int .i64 0) ∧ Keeps (fun k => k = p ∨ S k) w w' ∧ StrAt w' base (More S w w') p r (s.say bs) := by
  have hk := run_look (w.alloc (.map escE 9)) w.heap.size 110 (heap_alloc_new w _)
  rw [show escF 110 = some 71 from rfl] at hk
  simp only [Option.isSome_some] at hk
  obtain ⟨A, cp, hp, _⟩ := h.row
  have k6 : w.cell? ⟨p, 6, none⟩ = some (.int .u16 s.high) := (blk_cell hp 6).trans rfl
  rw [hh] at k6
  have hlt := blk_lt hp
  have H := Aside0.mk h
  have hK := (Keeps.refl (fun _ => False) w).alloc (.map escE 9)
  have HC := Aside0.mk (does_any base p r S s 110 10 71 bs (w.alloc (.map escE 9)) rfl rfl (h.keep hK id id (fun _ _ => id)) hf hl hn)
  have HK := Aside0.mk hK
  clear h hp hh hf hK
  go_enter Try.func43, Try.ntmps43
  go_wp2_with (first | (go_at_call 53; refine (escapes_any _).mono ?_; rintro e w1 ⟨rfl, rfl⟩) | (go_at_call 71; refine HC.out.mono ?_; rintro e w1 ⟨rfl, hk1, hs1⟩; have HK1 := Aside0.mk hk1; have HS1 := Aside0.mk hs1; clear hk1 hs1))
  go_ret
  have hk2 : Keeps (fun k => k = p ∨ S k) w w1 := (HK.out.mono (fun _ h => h.elim)).trans HK1.out (fun _ h => .inl h)
  refine ⟨rfl, hk2, HS1.out.mono (fun k hh => ?_) (more_ne H.out.ne H.out.lt.1 H.out.lt.2) (more_lt H.out.slt hk2.size)⟩
  rcases hh with hh | hh
  · exact .inl hh
  · exact .inr ⟨Nat.le_trans HK.out.size hh.1, hh.2⟩
set_option maxHeartbeats 2000000 in
theorem esc_say_114 (base p r : Nat) (S : Nat → Prop) (s : SV) (bs : List Int) (w : World) (h : StrAt w base S p r s) (hh : s.high = 0) (hf : utf8_Bytes.f 13 = some bs) (hl : s.text.length + bs.length ≤ 1000000) (hn : 0 ≤ s.n ∧ s.n ≤ 1000000) :
    Calls Try.prog 43 #[.pointer (some ⟨p, 0, none⟩), .int .u8 114] w fun e w' => e = .returned (.int .i64 0) ∧ Keeps (fun k => k = p ∨ S k) w w' ∧ StrAt w' base (More S w w') p r (s.say bs) := by
  have hk := run_look (w.alloc (.map escE 9)) w.heap.size 114 (heap_alloc_new w _)
  rw [show escF 114 = some 72 from rfl] at hk
  simp only [Option.isSome_some] at hk
  obtain ⟨A, cp, hp, _⟩ := h.row
  have k6 : w.cell? ⟨p, 6, none⟩ = some (.int .u16 s.high) := (blk_cell hp 6).trans rfl
  rw [hh] at k6
  have hlt := blk_lt hp
  have H := Aside0.mk h
  have hK := (Keeps.refl (fun _ => False) w).alloc (.map escE 9)
  have HC := Aside0.mk (does_any base p r S s 114 13 72 bs (w.alloc (.map escE 9)) rfl rfl (h.keep hK id id (fun _ _ => id)) hf hl hn)
  have HK := Aside0.mk hK
  clear h hp hh hf hK
  go_enter Try.func43, Try.ntmps43
  go_wp2_with (first | (go_at_call 53; refine (escapes_any _).mono ?_; rintro e w1 ⟨rfl, rfl⟩) | (go_at_call 72; refine HC.out.mono ?_; rintro e w1 ⟨rfl, hk1, hs1⟩; have HK1 := Aside0.mk hk1; have HS1 := Aside0.mk hs1; clear hk1 hs1))
  go_ret
  have hk2 : Keeps (fun k => k = p ∨ S k) w w1 := (HK.out.mono (fun _ h => h.elim)).trans HK1.out (fun _ h => .inl h)
  refine ⟨rfl, hk2, HS1.out.mono (fun k hh => ?_) (more_ne H.out.ne H.out.lt.1 H.out.lt.2) (more_lt H.out.slt hk2.size)⟩
  rcases hh with hh | hh
  · exact .inl hh
  · exact .inr ⟨Nat.le_trans HK.out.size hh.1, hh.2⟩
set_option maxHeartbeats 2000000 in
theorem esc_say_116 (base p r : Nat) (S : Nat → Prop) (s : SV) (bs : List Int) (w : World) (h : StrAt w base S p r s) (hh : s.high = 0) (hf : utf8_Bytes.f 9 = some bs) (hl : s.text.length + bs.length ≤ 1000000) (hn : 0 ≤ s.n ∧ s.n ≤ 1000000) :
    Calls Try.prog 43 #[.pointer (some ⟨p, 0, none⟩), .int .u8 116] w fun e w' => e = .returned (.int .i64 0) ∧ Keeps (fun k => k = p ∨ S k) w w' ∧ StrAt w' base (More S w w') p r (s.say bs) := by
  have hk := run_look (w.alloc (.map escE 9)) w.heap.size 116 (heap_alloc_new w _)
  rw [show escF 116 = some 73 from rfl] at hk
  simp only [Option.isSome_some] at hk
  obtain ⟨A, cp, hp, _⟩ := h.row
  have k6 : w.cell? ⟨p, 6, none⟩ = some (.int .u16 s.high) := (blk_cell hp 6).trans rfl
  rw [hh] at k6
  have hlt := blk_lt hp
  have H := Aside0.mk h
  have hK := (Keeps.refl (fun _ => False) w).alloc (.map escE 9)
  have HC := Aside0.mk (does_any base p r S s 116 9 73 bs (w.alloc (.map escE 9)) rfl rfl (h.keep hK id id (fun _ _ => id)) hf hl hn)
  have HK := Aside0.mk hK
  clear h hp hh hf hK
  go_enter Try.func43, Try.ntmps43
  go_wp2_with (first | (go_at_call 53; refine (escapes_any _).mono ?_; rintro e w1 ⟨rfl, rfl⟩) | (go_at_call 73; refine HC.out.mono ?_; rintro e w1 ⟨rfl, hk1, hs1⟩; have HK1 := Aside0.mk hk1; have HS1 := Aside0.mk hs1; clear hk1 hs1))
  go_ret
  have hk2 : Keeps (fun k => k = p ∨ S k) w w1 := (HK.out.mono (fun _ h => h.elim)).trans HK1.out (fun _ h => .inl h)
  refine ⟨rfl, hk2, HS1.out.mono (fun k hh => ?_) (more_ne H.out.ne H.out.lt.1 H.out.lt.2) (more_lt H.out.slt hk2.size)⟩
  rcases hh with hh | hh
  · exact .inl hh
  · exact .inr ⟨Nat.le_trans HK.out.size hh.1, hh.2⟩
theorem escape_say (base p r : Nat) (S : Nat → Prop) (s : SV) (x c : Int) (f : Nat) (bs : List Int) (w : World) (h : StrAt w base S p r s) (hF : escF x = some f) (hc : escC x = some c) (hh : s.high = 0) (hf : utf8_Bytes.f c = some bs) (hl : s.text.length + bs.length ≤ 1000000) (hn : 0 ≤ s.n ∧ s.n ≤ 1000000) :
    Calls Try.prog 43 #[.pointer (some ⟨p, 0, none⟩), .int .u8 x] w fun e w' => e = .returned (.int .i64 0) ∧ Keeps (fun k => k = p ∨ S k) w w' ∧ StrAt w' base (More S w w') p r (s.say bs) := by
  unfold escC at hc
  by_cases c0 : x = 34
  · subst c0; obtain rfl := Option.some.inj hc; exact esc_say_34 base p r S s bs w h hh hf hl hn
  by_cases c1 : x = 92
  · subst c1; obtain rfl := Option.some.inj hc; exact esc_say_92 base p r S s bs w h hh hf hl hn
  by_cases c2 : x = 47
  · subst c2; obtain rfl := Option.some.inj hc; exact esc_say_47 base p r S s bs w h hh hf hl hn
  by_cases c3 : x = 98
  · subst c3; obtain rfl := Option.some.inj hc; exact esc_say_98 base p r S s bs w h hh hf hl hn
  by_cases c4 : x = 102
  · subst c4; obtain rfl := Option.some.inj hc; exact esc_say_102 base p r S s bs w h hh hf hl hn
  by_cases c5 : x = 110
  · subst c5; obtain rfl := Option.some.inj hc; exact esc_say_110 base p r S s bs w h hh hf hl hn
  by_cases c6 : x = 114
  · subst c6; obtain rfl := Option.some.inj hc; exact esc_say_114 base p r S s bs w h hh hf hl hn
  by_cases c7 : x = 116
  · subst c7; obtain rfl := Option.some.inj hc; exact esc_say_116 base p r S s bs w h hh hf hl hn
  simp [c0, c1, c2, c3, c4, c5, c6, c7] at hc

/-! ### One byte more -/
def escapeV (s : SV) (x : Int) : Int × SV := if x = 117 then (0, s.begun) else match escC x with | none => (2, s) | some c => if s.high ≠ 0 then (5, s) else (0, s.say (encV c))
def digitsV (s : SV) (x : Int) : Int × SV :=
  if hexV x < 0 then (2, s) else if wrongV s.high (s.u * 16 + hexV x) (s.many + 1) ≠ 0 then (wrongV s.high (s.u * 16 + hexV x) (s.many + 1), s)
  else if s.many + 1 < 4 then (0, s.dig (s.u * 16 + hexV x))
  else if hiS s.high = true ∧ loS (s.u * 16 + hexV x) = true then (0, (s.dig0 (s.u * 16 + hexV x)).say (encV (joinV s.high (s.u * 16 + hexV x))))
  else if hiS (s.u * 16 + hexV x) = true then (0, s.half (s.u * 16 + hexV x)) else (0, (s.dig0 (s.u * 16 + hexV x)).say (encV (s.u * 16 + hexV x)))
def plainV (s : SV) (x : Int) (t : Int × Int × Int × Int × Int × Int) : Bool × Int × SV :=
  if x < 32 then (false, 2, s) else if t.2.1 = 3 then (false, 4, s) else if s.high ≠ 0 ∧ x ≠ 92 then (false, 5, s)
  else if t.2.1 = 1 then (false, 0, s.setr t.2.2.1 t.2.2.2.1 t.2.2.2.2.1 t.2.2.2.2.2) else if x = 34 then (true, 0, s.over) else if x = 92 then (false, 0, s.back)
  else if isNon t.1 = true then (false, 6, s) else (false, 0, (s.say (encV t.1)).setr t.2.2.1 t.2.2.2.1 t.2.2.2.2.1 t.2.2.2.2.2)
structure SV.Ok (s : SV) : Prop where
  len : s.text.length ≤ 900000
  n : 0 ≤ s.n ∧ s.n ≤ 900000
  dig : s.at_ = 2 → s.many = 0 ∧ s.u = 0 ∨ s.many = 1 ∧ 0 ≤ s.u ∧ s.u < 16 ∨ s.many = 2 ∧ 0 ≤ s.u ∧ s.u < 256 ∨ s.many = 3 ∧ 0 ≤ s.u ∧ s.u < 4096
theorem post_keep {P : Program} {f : Nat} {args : Array Value} {w : World} {base p r : Nat} {S : Nat → Prop} {s s' : SV} {v : Value} {T : Nat → Prop} (hs : StrAt w base S p r s) (hT : ∀ k, T k → Mine S p r k)
    (h : Calls P f args w fun e w' => e = .returned v ∧ Keeps T w w' ∧ StrAt w' base S p r s') : Calls P f args w fun e w' => e = .returned v ∧ Keeps (Mine S p r) w w' ∧ StrAt w' base (More S w w') p r s' :=
  h.mono fun e w' ⟨h1, h2, h3⟩ => ⟨h1, h2.mono hT, h3.mono (fun _ h => .inl h) (more_ne hs.ne hs.lt.1 hs.lt.2) (more_lt hs.slt h2.size)⟩
theorem post_more {P : Program} {f : Nat} {args : Array Value} {w : World} {base p r : Nat} {S : Nat → Prop} {s' : SV} {v : Value} {T : Nat → Prop} (hT : ∀ k, T k → Mine S p r k)
    (h : Calls P f args w fun e w' => e = .returned v ∧ Keeps T w w' ∧ StrAt w' base (More S w w') p r s') : Calls P f args w fun e w' => e = .returned v ∧ Keeps (Mine S p r) w w' ∧ StrAt w' base (More S w w') p r s' :=
  h.mono fun e w' ⟨h1, h2, h3⟩ => ⟨h1, h2.mono hT, h3⟩
theorem escape_any (base p r : Nat) (S : Nat → Prop) (s : SV) (x : Int) (w : World) (h : StrAt w base S p r s) (ok : s.Ok) :
    Calls Try.prog 43 #[.pointer (some ⟨p, 0, none⟩), .int .u8 x] w fun e w' => e = .returned (.int .i64 (escapeV s x).1) ∧ Keeps (Mine S p r) w w' ∧ StrAt w' base (More S w w') p r (escapeV s x).2 := by
  unfold escapeV
  by_cases hx : x = 117
  · subst hx
    rw [if_pos rfl]
    exact post_keep h (fun k hk => .inl hk) (escape_unit base p r S s w h)
  · rw [if_neg hx]
    cases hc : escC x with
    | none =>
      have hF : escF x = none := by
        unfold escC at hc
        unfold escF
        (repeat' split at hc) <;> (first | (cases hc; done) | skip) <;> simp [*]
      exact post_keep h (fun _ hk => hk.elim) (escape_none base p r S s x w h hF)
    | some c =>
      obtain ⟨f, hF, _⟩ := escC_F hc
      by_cases hh : s.high = 0
      · simp only [hh, ne_eq, not_true_eq_false, if_false]
        exact post_more (fun k hk => hk.elim .inl (fun h => .inr (.inr h))) (escape_say base p r S s x c f (encV c) w h hF hc hh (bytes_val c) (by have := ok.len; have := (encV_byt c).2; omega) (by have := ok.n; omega))
      · simp only [ne_eq, hh, not_false_eq_true, if_true]
        exact post_keep h (fun _ hk => hk.elim) (escape_high base p r S s x f w h hF hx hh)

theorem digits_any (base p r : Nat) (S : Nat → Prop) (s : SV) (x : Int) (w : World) (h : StrAt w base S p r s) (ok : s.Ok) (ha : s.at_ = 2) :
    Calls Try.prog 44 #[.pointer (some ⟨p, 0, none⟩), .int .u8 x] w fun e w' => e = .returned (.int .i64 (digitsV s x).1) ∧ Keeps (Mine S p r) w w' ∧ StrAt w' base (More S w w') p r (digitsV s x).2 := by
  unfold digitsV
  by_cases hx : hexV x < 0
  · rw [if_pos hx]
    exact post_keep h (fun _ hk => hk.elim) (digits_no base p r S s x w h hx)
  · rw [if_neg hx]
    have hr := hexV_range x
    have hd := ok.dig ha
    have hl := ok.len
    have hn := ok.n
    have hb : s.many = 0 ∧ s.u * 16 + hexV x < 16 ∨ s.many = 1 ∧ s.u * 16 + hexV x < 256 ∨ s.many = 2 ∧ s.u * 16 + hexV x < 4096 ∨ s.many = 3 ∧ s.u * 16 + hexV x < 65536 := by omega
    have hu : 0 ≤ s.u ∧ s.u < 4096 ∧ 0 ≤ s.many ∧ s.many ≤ 3 := by omega
    by_cases he : wrongV s.high (s.u * 16 + hexV x) (s.many + 1) = 0
    · rw [if_neg (by rw [he]; simp)]
      by_cases h3 : s.many + 1 < 4
      · rw [if_pos h3]
        exact post_keep h (fun k hk => .inl hk) (digits_more base p r S s x (hexV x) _ w h rfl (by omega) (by omega) hu.1 hu.2.1 hu.2.2.1 hu.2.2.2 rfl hb he h3)
      · rw [if_neg h3]
        have hm : s.many = 3 := by omega
        have hj := join_val s.high (s.u * 16 + hexV x)
        by_cases hp : hiS s.high = true ∧ loS (s.u * 16 + hexV x) = true
        · rw [if_pos hp] at hj ⊢
          exact post_more (fun k hk => hk.elim .inl (fun h => .inr (.inr h))) (digits_pair base p r S s x (hexV x) _ (joinV s.high (s.u * 16 + hexV x)) (encV (joinV s.high (s.u * 16 + hexV x))) w h rfl (by omega) (by omega) hu.1 hu.2.1 hu.2.2.1 hu.2.2.2 rfl hb he hm hj (bytes_val _) (by have := (encV_byt (joinV s.high (s.u * 16 + hexV x))).2; omega) (by omega))
        · rw [if_neg hp] at hj ⊢
          by_cases hh : hiS (s.u * 16 + hexV x) = true
          · rw [if_pos hh]
            exact post_keep h (fun k hk => .inl hk) (digits_high base p r S s x (hexV x) _ 0 w h rfl (by omega) (by omega) hu.1 hu.2.1 hu.2.2.1 hu.2.2.2 rfl hb he hm hj (by rw [high_val, hh]))
          · rw [if_neg hh]
            exact post_more (fun k hk => hk.elim .inl (fun h => .inr (.inr h))) (digits_one base p r S s x (hexV x) _ 0 (encV (s.u * 16 + hexV x)) w h rfl (by omega) (by omega) hu.1 hu.2.1 hu.2.2.1 hu.2.2.2 rfl hb he hm hj (by rw [high_val]; simp [hh]) (bytes_val _) (by have := (encV_byt (s.u * 16 + hexV x)).2; omega) (by omega))
    · rw [if_pos he]
      exact post_keep h (fun _ hk => hk.elim) (digits_bad base p r S s x (hexV x) _ _ w h rfl (by omega) (by omega) hu.1 hu.2.1 hu.2.2.1 hu.2.2.2 rfl hb rfl he)
theorem plain_any (base p r k : Nat) (S : Nat → Prop) (s : SV) (x : Int) (t : Int × Int × Int × Int × Int × Int) (w : World) (h : StrAt w base S p r s) (ok : s.Ok) (hx : 0 ≤ x ∧ x ≤ 255) (hp : utf8_Reader_Push.f k s.c0 s.c1 s.c2 s.c3 x = some t) (ht : t.2.1 = 1 ∨ t.2.1 = 2 ∨ t.2.1 = 3) (h1 : t.2.1 = 1 → x ≠ 92) :
    Calls Try.prog 45 #[.pointer (some ⟨p, 0, none⟩), .int .u8 x] w fun e w' => e = .returned (.tuple #[.bool (plainV s x t).1, .int .i64 (plainV s x t).2.1]) ∧ Keeps (Mine S p r) w w' ∧ StrAt w' base (More S w w') p r (plainV s x t).2.2 := by
  obtain ⟨c, told, d0, d1, d2, d3⟩ := t
  unfold plainV
  simp only at ht h1 ⊢
  have hl := ok.len
  have hn := ok.n
  by_cases a : x < 32
  · rw [if_pos a]
    exact post_keep h (fun _ hk => hk.elim) (plain_low base p r S s x w h a)
  rw [if_neg a]
  by_cases b : told = 3
  · rw [if_pos b]
    exact post_keep h (fun _ hk => hk.elim) (plain_utf8 base p r k S s x c told d0 d1 d2 d3 w h (by omega) hx.2 hp b)
  rw [if_neg b]
  by_cases e : s.high ≠ 0 ∧ x ≠ 92
  · rw [if_pos e]
    exact post_keep h (fun _ hk => hk.elim) (plain_sur base p r k S s x c told d0 d1 d2 d3 w h (by omega) hx.2 hp b e.1 e.2)
  rw [if_neg e]
  by_cases f : told = 1
  · rw [if_pos f]
    exact post_keep h (fun k hk => .inr (.inl hk)) (plain_begun base p r k S s x c told d0 d1 d2 d3 w h (by omega) hx.2 hp f (by by_cases g : s.high = 0; exact g; exact absurd ⟨g, h1 f⟩ e))
  rw [if_neg f]
  have h2 : told = 2 := by omega
  by_cases g : x = 34
  · rw [if_pos g]
    exact post_keep h (fun k hk => .inl hk) (plain_over base p r k S s x c told d0 d1 d2 d3 w h (by omega) hx.2 hp h2 (by by_cases q : s.high = 0; exact q; exact absurd ⟨q, by omega⟩ e) g)
  rw [if_neg g]
  by_cases i : x = 92
  · rw [if_pos i]
    exact post_keep h (fun k hk => .inl hk) (plain_back base p r k S s x c told d0 d1 d2 d3 w h (by omega) hx.2 hp h2 i)
  rw [if_neg i]
  have hh : s.high = 0 := by by_cases q : s.high = 0; exact q; exact absurd ⟨q, i⟩ e
  by_cases j : isNon c = true
  · rw [if_pos j]
    exact post_keep h (fun _ hk => hk.elim) (plain_non base p r k S s x c told d0 d1 d2 d3 w h (by omega) hx.2 hp h2 hh g i (by rw [non_val, j]))
  · rw [if_neg j]
    exact plain_say base p r k S s x c told d0 d1 d2 d3 (encV c) w h (by omega) hx.2 hp h2 hh g i (by rw [non_val]; simp [j]) (bytes_val c) (by have := (encV_byt c).2; omega) (by omega)
/-- What a byte more makes of a string under way; t: what its reader tells of it. -/
def pushV (s : SV) (x : Int) (t : Int × Int × Int × Int × Int × Int) : Bool × Int × SV :=
  if s.en = true then (false, 2, s) else if s.at_ = 1 then (false, escapeV s x) else if s.at_ = 2 then (false, digitsV s x) else plainV s x t
theorem push_any (base p r k : Nat) (S : Nat → Prop) (s : SV) (x : Int) (t : Int × Int × Int × Int × Int × Int) (w : World) (h : StrAt w base S p r s) (ok : s.Ok) (hx : 0 ≤ x ∧ x ≤ 255)
    (hp : s.en = false → s.at_ ≠ 1 → s.at_ ≠ 2 → utf8_Reader_Push.f k s.c0 s.c1 s.c2 s.c3 x = some t ∧ (t.2.1 = 1 ∨ t.2.1 = 2 ∨ t.2.1 = 3) ∧ (t.2.1 = 1 → x ≠ 92)) :
    Calls Try.prog 27 #[.pointer (some ⟨p, 0, none⟩), .int .u8 x] w fun e w' => e = .returned (.tuple #[.bool (pushV s x t).1, .int .i64 (pushV s x t).2.1]) ∧ Keeps (Mine S p r) w w' ∧ StrAt w' base (More S w w') p r (pushV s x t).2.2 := by
  obtain ⟨A, cp, hpb, hrow⟩ := h.row
  have k7 : w.cell? ⟨p, 7, none⟩ = some (.bool s.en) := (blk_cell hpb 7).trans rfl
  have k3 : w.cell? ⟨p, 3, none⟩ = some (.int .i64 s.at_) := (blk_cell hpb 3).trans rfl
  clear hpb hrow
  unfold pushV
  by_cases e0 : s.en = true
  · rw [if_pos e0]
    rw [e0] at k7
    have H := Aside0.mk (post_keep (P := Try.prog) (f := 0) (args := #[]) (w := w) (v := .bool true) (s' := s) (T := fun _ => False) h (fun _ hk => hk.elim))
    have HS := Aside0.mk h
    clear e0 h ok hp k3
    go_enter Try.func27, Try.ntmps27
    go_wp2
    go_ret2
    exact ⟨rfl, Keeps.refl _ _, HS.out.mono (fun _ h => .inl h) (more_ne HS.out.ne HS.out.lt.1 HS.out.lt.2) (more_lt HS.out.slt (Nat.le_refl _))⟩
  · have e1 : s.en = false := by simpa using e0
    rw [if_neg e0]
    rw [e1] at k7
    by_cases a1 : s.at_ = 1
    · rw [if_pos a1]
      rw [a1] at k3
      have HC := Aside0.mk (escape_any base p r S s x w h ok)
      clear e0 e1 a1 h ok hp
      go_enter Try.func27, Try.ntmps27
      go_wp2_with (go_at_call 43; refine HC.out.mono ?_; rintro e w1 ⟨rfl, hk, hs⟩; have HK := Aside0.mk hk; have HS := Aside0.mk hs; clear hk hs)
      go_ret2
      exact ⟨rfl, HK.out, HS.out⟩
    · have t1 : (s.at_ == 1) = false := beq_f a1
      by_cases a2 : s.at_ = 2
      · rw [if_neg a1, if_pos a2]
        rw [a2] at k3
        have HC := Aside0.mk (digits_any base p r S s x w h ok a2)
        clear e0 e1 a1 a2 t1 h ok hp
        go_enter Try.func27, Try.ntmps27
        go_wp2_with (go_at_call 44; refine HC.out.mono ?_; rintro e w1 ⟨rfl, hk, hs⟩; have HK := Aside0.mk hk; have HS := Aside0.mk hs; clear hk hs)
        go_ret2
        exact ⟨rfl, HK.out, HS.out⟩
      · have t2 : (s.at_ == 2) = false := beq_f a2
        rw [if_neg a1, if_neg a2]
        obtain ⟨p1, p2, p3⟩ := hp e1 a1 a2
        have HC := Aside0.mk (plain_any base p r k S s x t w h ok hx p1 p2 p3)
        clear e0 e1 a1 a2 h ok hp p1 p2 p3
        go_enter Try.func27, Try.ntmps27
        go_wp2_with (go_at_call 45; refine HC.out.mono ?_; rintro e w1 ⟨rfl, hk, hs⟩; have HK := Aside0.mk hk; have HS := Aside0.mk hs; clear hk hs)
        go_ret2
        exact ⟨rfl, HK.out, HS.out⟩

/-! ### New, Text, Len, Inside -/
def SV.zero : SV := ⟨[], 0, 0, 0, 0, 0, 0, 0, 0, 0, false⟩
theorem new_any (base : Nat) (w : World) (hb : base ≤ w.heap.size) :
    Calls Try.prog 26 #[] w fun e w' => ∃ p r, e = .returned (.pointer (some ⟨p, 0, none⟩)) ∧ Keeps (fun _ => False) w w' ∧ StrAt w' base (fun _ => False) p r SV.zero ∧ w.heap.size ≤ p ∧ w.heap.size ≤ r := by
  go_enter Try.func26, Try.ntmps26
  go_wp2_with (go_at_call 42; refine (utf8_New.calls 0 0 0 0 w w (Below.refl _ _) rfl).mono ?_; rintro e w1 ⟨r, rfl, hI, hB, hB1⟩; have HB := Aside0.mk hB; have HI := Aside0.mk hI; clear hI hB1 hB)
  go_ret
  have hk := (Keeps.of_below HB.out (fun _ => False)).alloc (.cells (SV.zero.cells none 0 r) 80)
  exact ⟨_, r, rfl, hk, ⟨⟨none, 0, heap_alloc_new w1 (.cells (SV.zero.cells none 0 r) 80), Kd.R_nil _ _ _ _ _⟩, (Keeps.alloc (Keeps.refl (fun _ => False) w1) _).blk HI.out.1 id, fun _ h => h.elim, ⟨Nat.le_trans hb hk.size, Nat.le_trans hb HB.out.size, Nat.le_trans hb HI.out.2⟩, fun _ h => h.elim⟩, HB.out.size, HI.out.2⟩
theorem text_any (base p r : Nat) (S : Nat → Prop) (s : SV) (w : World) (h : StrAt w base S p r s) :
    Calls Try.prog 28 #[.pointer (some ⟨p, 0, none⟩)] w fun e w' => e = .returned (.string (strOfNums s.text)) ∧ w' = w := by
  obtain ⟨A, cp, hpb, hrow⟩ := h.row
  have k0 : w.cell? ⟨p, 0, none⟩ = some (.slice A s.text.length cp) := (blk_cell hpb 0).trans rfl
  have hc := Kd.C_string (P := Try.prog) (c := cp) Try.underlying32 Try.underlying5 Try.underlying9 (Kd.R_reads' hrow).2.2
  clear hpb hrow h
  go_enter Try.func28, Try.ntmps28
  go_wp2
  go_ret
  exact ⟨rfl, rfl⟩
def SV.inside (s : SV) : Bool := decide (0 < s.c2) || (s.at_ != 0) || (s.high != 0)

end Go.Proofs.Ytkpeblpgfngjcaa.Pure
