/- The string under way: say, escapes, digits. -/
import Derived.Test.YtkpeblpgfngjcaaPAllx1
import Derived.Test.YtkpeblpgfngjcaaPAllx2
import Derived.Test.YtkpeblpgfngjcaaPAllx3
import Derived.Test.YtkpeblpgfngjcaaPAllx4
import Derived.Test.YtkpeblpgfngjcaaPAllx5
import Derived.Test.YtkpeblpgfngjcaaHKit
import Derived.Test.YtkpeblpgfngjcaaLUtf
import Derived.MapKept
import Derived.Deep.RegionLaw
namespace Go.Proofs.Ytkpeblpgfngjcaa.Pure
open Go.RowKit Go.Proofs.Ytkpeblpgfngjcaa.PAll Go.Proofs.YtkpeblpgfngjcaaW.PrintWords Go.Proofs.YtkpeblpgfngjcaaW.PrintLast Go.Proofs.YtkpeblpgfngjcaaW.PrintMore
set_option linter.unusedVariables false
set_option linter.unusedSimpArgs false

/-! ### A string under way (str.Str): what it holds -/
structure SV where
  text : List Int
  n : Int
  c0 : Int
  c1 : Int
  c2 : Int
  c3 : Int
  at_ : Int
  u : Int
  many : Int
  high : Int
  en : Bool
def SV.cells (s : SV) (A : Option Addr) (c r : Nat) : Array Value :=
  #[.slice A s.text.length c, .int .i64 s.n, .pointer (some ⟨r, 0, none⟩), .int .i64 s.at_, .int .u16 s.u, .int .i64 s.many, .int .u16 s.high, .bool s.en]
def SV.rdr (s : SV) : Array Value := #[.int .u8 s.c0, .int .i32 s.c1, .int .i64 s.c2, .int .i64 s.c3]
/-- At block p, its reader at block r, its text's row in a block of S. -/
structure StrAt (w : World) (base : Nat) (S : Nat → Prop) (p r : Nat) (s : SV) : Prop where
  row : ∃ A c, w.heap[p]? = some (.cells (s.cells A c r) 80 (0, 0)) ∧ Kd.R (Kd.int .u8) 5 w base S (.slice A s.text.length c) s.text
  rd : w.heap[r]? = some (.cells s.rdr 88 (0, 0))
  ne : ∀ k, S k → k ≠ p ∧ k ≠ r
  base_ : base ≤ w.heap.size ∧ base ≤ p ∧ base ≤ r
  slt : ∀ k, S k → k < w.heap.size
/-- Blocks that a call may write: the string's own, and its text's. -/
def Mine (S : Nat → Prop) (p r : Nat) (k : Nat) : Prop := k = p ∨ k = r ∨ S k
def More (S : Nat → Prop) (w W : World) (k : Nat) : Prop := S k ∨ News w W k
theorem StrAt.pr {w : World} {base p r : Nat} {S : Nat → Prop} {s : SV} (h : StrAt w base S p r s) : p ≠ r := by
  obtain ⟨A, c, h1, _⟩ := h.row
  have h2 := h.rd
  rintro rfl
  rw [h1] at h2
  injection h2 with h2
  injection h2 with _ h2
  exact absurd h2 (by decide)
theorem StrAt.lt {w : World} {base p r : Nat} {S : Nat → Prop} {s : SV} (h : StrAt w base S p r s) : p < w.heap.size ∧ r < w.heap.size := by
  obtain ⟨A, c, h1, _⟩ := h.row
  exact ⟨blk_lt h1, blk_lt h.rd⟩
/-- What a call keeps that touches none of its blocks. -/
theorem StrAt.keep {w W : World} {base p r : Nat} {S T : Nat → Prop} {s : SV} (h : StrAt w base S p r s) (hk : Keeps T w W) (hp : ¬ T p) (hr : ¬ T r) (hS : ∀ k, S k → ¬ T k) : StrAt W base S p r s := by
  obtain ⟨A, c, h1, h2⟩ := h.row
  exact ⟨⟨A, c, hk.blk h1 hp, hk.R h2 hS⟩, hk.blk h.rd hr, h.ne, ⟨Nat.le_trans h.base_.1 hk.size, h.base_.2⟩, fun k hS => Nat.lt_of_lt_of_le (h.slt k hS) hk.size⟩
theorem StrAt.mono {w : World} {base p r : Nat} {S T : Nat → Prop} {s : SV} (h : StrAt w base S p r s) (hS : ∀ k, S k → T k) (hT : ∀ k, T k → k ≠ p ∧ k ≠ r) (hlt : ∀ k, T k → k < w.heap.size) : StrAt w base T p r s := by
  obtain ⟨A, c, h1, h2⟩ := h.row
  exact ⟨⟨A, c, h1, Kd.R_mono h2 hS⟩, h.rd, hT, h.base_, hlt⟩
theorem more_lt {w W : World} {S : Nat → Prop} (hS : ∀ k, S k → k < w.heap.size) (hz : w.heap.size ≤ W.heap.size) : ∀ k, More S w W k → k < W.heap.size := by
  rintro k (h | h)
  · exact Nat.lt_of_lt_of_le (hS k h) hz
  · exact h.2
theorem more_ne {w W : World} {S : Nat → Prop} {p r : Nat} (hS : ∀ k, S k → k ≠ p ∧ k ≠ r) (hp : p < w.heap.size) (hr : r < w.heap.size) : ∀ k, More S w W k → k ≠ p ∧ k ≠ r := by
  rintro k (h | h)
  · exact hS k h
  · have := h.1
    omega
def SV.say (s : SV) (bs : List Int) : SV := { s with text := s.text ++ bs, n := s.n + 1, at_ := 0, high := 0 }

set_option maxHeartbeats 4000000 in
set_option maxRecDepth 100000 in
theorem say_any (base p r : Nat) (S : Nat → Prop) (s : SV) (c : Int) (bs : List Int) (w : World) (h : StrAt w base S p r s) (hf : utf8_Bytes.f c = some bs) (hl : s.text.length + bs.length ≤ 1000000) (hn : 0 ≤ s.n ∧ s.n ≤ 1000000) :
    Calls Try.prog 57 #[.pointer (some ⟨p, 0, none⟩), .int .i32 c] w fun e w' => e = .returned (.tuple #[]) ∧ Keeps (fun k => k = p ∨ S k) w w' ∧ StrAt w' base (More S w w') p r (s.say bs) := by
  obtain ⟨A, cp, hp, hv⟩ := h.row
  obtain ⟨text, n, c0, c1, c2, c3, at_, u, many, high, en⟩ := s
  simp only [SV.cells] at hp
  simp only at hv hl hn
  have HP := Aside0.mk hp
  have HV := Aside0.mk hv
  have H := Aside0.mk h
  have hlt := blk_lt hp
  have hb := h.base_.1
  have f0 := blk_frozen hp 0
  have f1 := blk_frozen hp 1
  have f3 := blk_frozen hp 3
  have f6 := blk_frozen hp 6
  have k0 : w.cell? ⟨p, 0, none⟩ = some (.slice A text.length cp) := (blk_cell hp 0).trans rfl
  have HF := Aside0.mk hf
  clear hp hv h hf
  obtain ⟨Z, hZ⟩ : ∃ Z, text ++ bs = Z := ⟨_, rfl⟩
  have HZ := Aside0.mk hZ
  clear hZ
  have HNE := Aside0.mk H.out.ne
  go_enter Try.func57, Try.ntmps57
  go_wp2_with fail
  go_region_law
    (first
      | (go_simp; go_at_call 76; refine (utf8_Bytes.calls c bs _ HF.out).mono ?_; rintro e w1 ⟨v1, rfl, hr1, hB0⟩; have hB1 : Below w.heap.size w w1 := ⟨hB0.os, hB0.tape, hB0.output, hB0.size, hB0.block⟩; clear hB0; obtain ⟨A1, c1, e1⟩ := Kd.R_slice hr1; subst e1; have hq1 := (Keeps.of_below hB1 (fun _ => False)).blk HP.out id; have k1 : w1.cell? ⟨p, 0, none⟩ = some (.slice A text.length cp) := (blk_cell hq1 0).trans rfl; have HR1 := Aside0.mk hr1; have HB1 := Aside0.mk hB1; have HV1 := Aside0.mk (Kd.R_below HV.out hB1); have HP1 := Aside0.mk hq1; clear hr1 hB1 hq1)
      | (refine app_row_step (Value.int .u8) base (by rfl) (.tmp 8) (.tmp 10) 32 5 (.int .u8 0) 1 (by rfl) Try.underlying32 info5 rfl (by decide) (.slice A text.length cp) text bs Z HZ.out A1 bs.length c1 S (by rfl) (by rfl) HV1.out (Kd.R_reads' HR1.out).2.2 (Nat.le_trans hb HB1.out.size) (by omega) ?_; intro A2 c2 w2 hr2 hk2; have hq2 := hk2.blk HP1.out (fun hh => (HNE.out p (HV.out.1 p hh.symm)).1 rfl); have k2 : w2.cell? ⟨p, 0, none⟩ = some (.slice A text.length cp) := (blk_cell hq2 0).trans rfl; have HR2 := Aside0.mk hr2; have HK2 := Aside0.mk hk2; have HP2 := Aside0.mk hq2; have g1 : w2.cell? ⟨p, 1, none⟩ = some (.int .i64 n) := (blk_cell hq2 1).trans rfl; have g3 : w2.cell? ⟨p, 3, none⟩ = some (.int .i64 at_) := (blk_cell hq2 3).trans rfl; have g6 : w2.cell? ⟨p, 6, none⟩ = some (.int .u16 high) := (blk_cell hq2 6).trans rfl; have e0 := blk_frozen hq2 0; have e1 := blk_frozen hq2 1; have e3 := blk_frozen hq2 3; have e6 := blk_frozen hq2 6; clear hr2 hk2 hq2))
  all_goals
    go_wp2
    go_end0
    have hk : Keeps (fun k => k = p ∨ S k) w w2 := ((Keeps.of_below HB1.out _).trans HK2.out (fun k hk => .inl (.inr (HV.out.1 k hk.symm))))
    have hs : Keeps (fun k => k = p) w2 ((((w2.setCell ⟨p, 0, none⟩ (.slice A2 Z.length c2)).setCell ⟨p, 1, none⟩ (.int .i64 (n + 1))).setCell ⟨p, 3, none⟩ (.int .i64 0)).setCell ⟨p, 6, none⟩ (.int .u16 0)) :=
      ((((Keeps.refl (fun k => k = p) w2).at_ rfl 0 _).at_ rfl 1 _).at_ rfl 3 _).at_ rfl 6 _
    have hk2 := hk.trans hs (fun k hk => .inl (.inl hk))
    have hm : ∀ k, (S k ∨ News w1 w2 k) → More S w ((((w2.setCell ⟨p, 0, none⟩ (.slice A2 Z.length c2)).setCell ⟨p, 1, none⟩ (.int .i64 (n + 1))).setCell ⟨p, 3, none⟩ (.int .i64 0)).setCell ⟨p, 6, none⟩ (.int .u16 0)) k := by
      rintro k (hh | hh)
      · exact .inl hh
      · exact .inr ⟨Nat.le_trans HB1.out.size hh.1, Nat.lt_of_lt_of_le hh.2 hs.size⟩
    have hne := more_ne (W := (((w2.setCell ⟨p, 0, none⟩ (.slice A2 Z.length c2)).setCell ⟨p, 1, none⟩ (.int .i64 (n + 1))).setCell ⟨p, 3, none⟩ (.int .i64 0)).setCell ⟨p, 6, none⟩ (.int .u16 0)) HNE.out H.out.lt.1 H.out.lt.2
    refine ⟨rfl, hk2, ⟨⟨A2, c2, ?_, ?_⟩, ?_, hne, ⟨Nat.le_trans hb hk2.size, H.out.base_.2⟩, more_lt H.out.slt hk2.size⟩⟩
    · simp only [SV.say, SV.cells, HZ.out]
      exact (blk_set (blk_set (blk_set (blk_set HP2.out 0 _) 1 _) 3 _) 6 _).trans rfl
    · simp only [SV.say, HZ.out]
      exact Kd.R_mono (hs.R HR2.out (fun k hk => (hne k (hm k hk)).1)) hm
    · exact hk2.blk H.out.rd (fun hh => hh.elim (fun e => H.out.pr e.symm) (fun hS => (HNE.out r hS).2 rfl))

/-! ### The table of escapes -/
theorem set_push {α : Type} (a : Array α) (x y : α) : (a.push x).setIfInBounds a.size y = a.push y := by
  apply Array.ext_getElem?
  intro i
  rw [Array.getElem?_setIfInBounds, Array.size_push, Array.getElem?_push, Array.getElem?_push]
  by_cases h : a.size = i
  · subst h
    simp
  · rw [if_neg h, if_neg (Ne.symm h), if_neg (Ne.symm h)]
set_option maxRecDepth 100000 in
theorem run_put (w : World) (es : Array MapEntry) (n : Nat) (c : Int) (v : Value) (hf : Instr.findNow (.int .u8) (.int .u8 c) es.toList 0 = some none) :
    (Instr.mapUpdate 91 (.map (some w.heap.size)) (.int .u8 c) v).run Try.prog (w.alloc (.map es n)) = .ok () (w.alloc (.map (es.push { key := .int .u8 c, val := v, born := n }) (n + 1))) := by
  have h0 := heap_alloc_new w (.map es n)
  have h1 := Go.MapKept.run_getObj_map (P := Try.prog) h0
  have h2 := Go.MapKept.run_checkKey (P := Try.prog) (w := w.alloc (.map es n)) (k := .int .u8 c) Try.underlying5 (by simp [Go.MapKept.IsKey]) false 9999
  have h3 := Go.MapKept.run_findKey (P := Try.prog) (w := w.alloc (.map es n)) Try.underlying5 hf
  simp only [Instr.mapUpdate, Sem.run_bind, run_underlying Try.underlying91, Result.andThen_ok, h1, h2, h3]
  rw [Go.MapKept.run_setObj_map _ h0]
  congr 1
  show World.mk .. = World.mk ..
  congr 1
  exact set_push w.heap _ _
def ent (c : Int) (f b : Nat) : MapEntry := { key := .int .u8 c, val := .func (.func f) #[] #[], born := b }
def escE : Array MapEntry := #[ent 34 68 0, ent 92 68 1, ent 47 68 2, ent 98 69 3, ent 102 70 4, ent 110 71 5, ent 114 72 6, ent 116 73 7, ent 117 74 8]
theorem run_put_at (w : World) (k : Nat) (c : Int) (f : Nat) (es es' : Array MapEntry) (he : es = escE.extract 0 k) (he' : es' = escE.extract 0 (k + 1)) (hp : es.push (ent c f k) = es')
    (hf : Instr.findNow (.int .u8) (.int .u8 c) es.toList 0 = some none) :
    (Instr.mapUpdate 91 (.map (some w.heap.size)) (.int .u8 c) (.func (.func f) #[] #[])).run Try.prog (w.alloc (.map es k)) = .ok () (w.alloc (.map es' (k + 1))) := by
  rw [← hp]
  exact run_put w es k c _ hf
theorem escapes_any (w : World) : Calls Try.prog 53 #[] w fun e w' => e = .returned (.map (some w.heap.size)) ∧ w' = w.alloc (.map escE 9) := by
  have hmm := @run_makeMap Try.prog
  have p0 := run_put_at w 0 34 68 #[] (escE.extract 0 1) rfl rfl rfl rfl
  have p1 := run_put_at w 1 92 68 (escE.extract 0 1) (escE.extract 0 2) rfl rfl rfl rfl
  have p2 := run_put_at w 2 47 68 (escE.extract 0 2) (escE.extract 0 3) rfl rfl rfl rfl
  have p3 := run_put_at w 3 98 69 (escE.extract 0 3) (escE.extract 0 4) rfl rfl rfl rfl
  have p4 := run_put_at w 4 102 70 (escE.extract 0 4) (escE.extract 0 5) rfl rfl rfl rfl
  have p5 := run_put_at w 5 110 71 (escE.extract 0 5) (escE.extract 0 6) rfl rfl rfl rfl
  have p6 := run_put_at w 6 114 72 (escE.extract 0 6) (escE.extract 0 7) rfl rfl rfl rfl
  have p7 := run_put_at w 7 116 73 (escE.extract 0 7) (escE.extract 0 8) rfl rfl rfl rfl
  have p8 := run_put_at w 8 117 74 (escE.extract 0 8) escE rfl rfl rfl rfl
  simp only [Nat.zero_add, Nat.reduceAdd] at p0 p1 p2 p3 p4 p5 p6 p7 p8
  generalize escE.extract 0 1 = e1 at p0 p1
  generalize escE.extract 0 2 = e2 at p1 p2
  generalize escE.extract 0 3 = e3 at p2 p3
  generalize escE.extract 0 4 = e4 at p3 p4
  generalize escE.extract 0 5 = e5 at p4 p5
  generalize escE.extract 0 6 = e6 at p5 p6
  generalize escE.extract 0 7 = e7 at p6 p7
  generalize escE.extract 0 8 = e8 at p7 p8
  generalize escE = e9 at *
  go_enter Try.func53, Try.ntmps53
  go_wp2
  go_ret
  exact ⟨rfl, rfl⟩

theorem same_any (base p r : Nat) (S : Nat → Prop) (s : SV) (x : Int) (bs : List Int) (w : World) (h : StrAt w base S p r s) (hf : utf8_Bytes.f x = some bs) (hl : s.text.length + bs.length ≤ 1000000) (hn : 0 ≤ s.n ∧ s.n ≤ 1000000) (hx : 0 ≤ x ∧ x ≤ 255) :
    Calls Try.prog 68 #[.pointer (some ⟨p, 0, none⟩), .int .u8 x] w fun e w' => e = .returned (.tuple #[]) ∧ Keeps (fun k => k = p ∨ S k) w w' ∧ StrAt w' base (More S w w') p r (s.say bs) := by
  have hc := say_any base p r S s x bs w h hf hl hn
  have HC := Aside0.mk hc
  have hx1 := hx.1
  have hx2 := hx.2
  clear hc h hf
  go_enter Try.func68, Try.ntmps68
  go_wp2_with (go_at_call 57; refine HC.out.mono ?_; rintro e w1 ⟨rfl, hk, hs⟩; have HK := Aside0.mk hk; have HS := Aside0.mk hs; clear hk hs)
  go_end0
  exact ⟨rfl, HK.out, HS.out⟩
theorem back_any (base p r : Nat) (S : Nat → Prop) (s : SV) (x : Int) (bs : List Int) (w : World) (h : StrAt w base S p r s) (hf : utf8_Bytes.f 8 = some bs) (hl : s.text.length + bs.length ≤ 1000000) (hn : 0 ≤ s.n ∧ s.n ≤ 1000000) (hx : 0 ≤ x ∧ x ≤ 255) :
    Calls Try.prog 69 #[.pointer (some ⟨p, 0, none⟩), .int .u8 x] w fun e w' => e = .returned (.tuple #[]) ∧ Keeps (fun k => k = p ∨ S k) w w' ∧ StrAt w' base (More S w w') p r (s.say bs) := by
  have hc := say_any base p r S s 8 bs w h hf hl hn
  have HC := Aside0.mk hc
  have hx1 := hx.1
  have hx2 := hx.2
  clear hc h hf
  go_enter Try.func69, Try.ntmps69
  go_wp2_with (go_at_call 57; refine HC.out.mono ?_; rintro e w1 ⟨rfl, hk, hs⟩; have HK := Aside0.mk hk; have HS := Aside0.mk hs; clear hk hs)
  go_end0
  exact ⟨rfl, HK.out, HS.out⟩
theorem feed_any (base p r : Nat) (S : Nat → Prop) (s : SV) (x : Int) (bs : List Int) (w : World) (h : StrAt w base S p r s) (hf : utf8_Bytes.f 12 = some bs) (hl : s.text.length + bs.length ≤ 1000000) (hn : 0 ≤ s.n ∧ s.n ≤ 1000000) (hx : 0 ≤ x ∧ x ≤ 255) :
    Calls Try.prog 70 #[.pointer (some ⟨p, 0, none⟩), .int .u8 x] w fun e w' => e = .returned (.tuple #[]) ∧ Keeps (fun k => k = p ∨ S k) w w' ∧ StrAt w' base (More S w w') p r (s.say bs) := by
  have hc := say_any base p r S s 12 bs w h hf hl hn
  have HC := Aside0.mk hc
  have hx1 := hx.1
  have hx2 := hx.2
  clear hc h hf
  go_enter Try.func70, Try.ntmps70
  go_wp2_with (go_at_call 57; refine HC.out.mono ?_; rintro e w1 ⟨rfl, hk, hs⟩; have HK := Aside0.mk hk; have HS := Aside0.mk hs; clear hk hs)
  go_end0
  exact ⟨rfl, HK.out, HS.out⟩
theorem line_any (base p r : Nat) (S : Nat → Prop) (s : SV) (x : Int) (bs : List Int) (w : World) (h : StrAt w base S p r s) (hf : utf8_Bytes.f 10 = some bs) (hl : s.text.length + bs.length ≤ 1000000) (hn : 0 ≤ s.n ∧ s.n ≤ 1000000) (hx : 0 ≤ x ∧ x ≤ 255) :
    Calls Try.prog 71 #[.pointer (some ⟨p, 0, none⟩), .int .u8 x] w fun e w' => e = .returned (.tuple #[]) ∧ Keeps (fun k => k = p ∨ S k) w w' ∧ StrAt w' base (More S w w') p r (s.say bs) := by
  have hc := say_any base p r S s 10 bs w h hf hl hn
  have HC := Aside0.mk hc
  have hx1 := hx.1
  have hx2 := hx.2
  clear hc h hf
  go_enter Try.func71, Try.ntmps71
  go_wp2_with (go_at_call 57; refine HC.out.mono ?_; rintro e w1 ⟨rfl, hk, hs⟩; have HK := Aside0.mk hk; have HS := Aside0.mk hs; clear hk hs)
  go_end0
  exact ⟨rfl, HK.out, HS.out⟩
theorem turn_any (base p r : Nat) (S : Nat → Prop) (s : SV) (x : Int) (bs : List Int) (w : World) (h : StrAt w base S p r s) (hf : utf8_Bytes.f 13 = some bs) (hl : s.text.length + bs.length ≤ 1000000) (hn : 0 ≤ s.n ∧ s.n ≤ 1000000) (hx : 0 ≤ x ∧ x ≤ 255) :
    Calls Try.prog 72 #[.pointer (some ⟨p, 0, none⟩), .int .u8 x] w fun e w' => e = .returned (.tuple #[]) ∧ Keeps (fun k => k = p ∨ S k) w w' ∧ StrAt w' base (More S w w') p r (s.say bs) := by
  have hc := say_any base p r S s 13 bs w h hf hl hn
  have HC := Aside0.mk hc
  have hx1 := hx.1
  have hx2 := hx.2
  clear hc h hf
  go_enter Try.func72, Try.ntmps72
  go_wp2_with (go_at_call 57; refine HC.out.mono ?_; rintro e w1 ⟨rfl, hk, hs⟩; have HK := Aside0.mk hk; have HS := Aside0.mk hs; clear hk hs)
  go_end0
  exact ⟨rfl, HK.out, HS.out⟩
theorem tab_any (base p r : Nat) (S : Nat → Prop) (s : SV) (x : Int) (bs : List Int) (w : World) (h : StrAt w base S p r s) (hf : utf8_Bytes.f 9 = some bs) (hl : s.text.length + bs.length ≤ 1000000) (hn : 0 ≤ s.n ∧ s.n ≤ 1000000) (hx : 0 ≤ x ∧ x ≤ 255) :
    Calls Try.prog 73 #[.pointer (some ⟨p, 0, none⟩), .int .u8 x] w fun e w' => e = .returned (.tuple #[]) ∧ Keeps (fun k => k = p ∨ S k) w w' ∧ StrAt w' base (More S w w') p r (s.say bs) := by
  have hc := say_any base p r S s 9 bs w h hf hl hn
  have HC := Aside0.mk hc
  have hx1 := hx.1
  have hx2 := hx.2
  clear hc h hf
  go_enter Try.func73, Try.ntmps73
  go_wp2_with (go_at_call 57; refine HC.out.mono ?_; rintro e w1 ⟨rfl, hk, hs⟩; have HK := Aside0.mk hk; have HS := Aside0.mk hs; clear hk hs)
  go_end0
  exact ⟨rfl, HK.out, HS.out⟩
def SV.begun (s : SV) : SV := { s with at_ := 2, u := 0, many := 0 }
theorem units_any (base p r : Nat) (S : Nat → Prop) (s : SV) (x : Int) (w : World) (h : StrAt w base S p r s) :
    Calls Try.prog 74 #[.pointer (some ⟨p, 0, none⟩), .int .u8 x] w fun e w' => e = .returned (.tuple #[]) ∧ Keeps (fun k => k = p) w w' ∧ StrAt w' base S p r s.begun := by
  obtain ⟨A, cp, hp, hv⟩ := h.row
  have HP := Aside0.mk hp
  have H := Aside0.mk h
  have f3 := blk_frozen hp 3
  have f4 := blk_frozen hp 4
  have f5 := blk_frozen hp 5
  have k3 : w.cell? ⟨p, 3, none⟩ = some (.int .i64 s.at_) := (blk_cell hp 3).trans rfl
  have k4 : w.cell? ⟨p, 4, none⟩ = some (.int .u16 s.u) := (blk_cell hp 4).trans rfl
  have k5 : w.cell? ⟨p, 5, none⟩ = some (.int .i64 s.many) := (blk_cell hp 5).trans rfl
  have HV := Aside0.mk hv
  clear hp h hv
  go_enter Try.func74, Try.ntmps74
  go_wp2
  go_end0
  have hs : Keeps (fun k => k = p) w (((w.setCell ⟨p, 3, none⟩ (.int .i64 2)).setCell ⟨p, 4, none⟩ (.int .u16 0)).setCell ⟨p, 5, none⟩ (.int .i64 0)) :=
    (((Keeps.refl (fun k => k = p) w).at_ rfl 3 _).at_ rfl 4 _).at_ rfl 5 _
  refine ⟨rfl, hs, ⟨⟨A, cp, ?_, hs.R HV.out (fun k hk => (H.out.ne k hk).1)⟩, hs.blk H.out.rd (fun e => H.out.pr e.symm), H.out.ne, ⟨Nat.le_trans H.out.base_.1 hs.size, H.out.base_.2⟩, fun k hS => Nat.lt_of_lt_of_le (H.out.slt k hS) hs.size⟩⟩
  exact (blk_set (blk_set (blk_set HP.out 3 _) 4 _) 5 _).trans rfl
/-- What an escape of one letter says. -/
def escC (x : Int) : Option Int := if x = 34 then some 34 else if x = 92 then some 92 else if x = 47 then some 47 else if x = 98 then some 8 else if x = 102 then some 12 else if x = 110 then some 10 else if x = 114 then some 13 else if x = 116 then some 9 else none
def escF (x : Int) : Option Nat := if x = 34 then some 68 else if x = 92 then some 68 else if x = 47 then some 68 else if x = 98 then some 69 else if x = 102 then some 70 else if x = 110 then some 71 else if x = 114 then some 72 else if x = 116 then some 73 else if x = 117 then some 74 else none
theorem esc_find (x : Int) : Instr.findNow (.int .u8) (.int .u8 x) escE.toList 0 = some ((escF x).map fun f => ((if x = 34 then 0 else if x = 92 then 1 else if x = 47 then 2 else if x = 98 then 3 else if x = 102 then 4 else if x = 110 then 5 else if x = 114 then 6 else if x = 116 then 7 else 8), Value.func (.func f) #[] #[])) := by
  simp only [escE, ent, Instr.findNow, Instr.sameNow, if_true, escF]
  by_cases c0 : x = 34
  · subst c0; rfl
  by_cases c1 : x = 92
  · subst c1; rfl
  by_cases c2 : x = 47
  · subst c2; rfl
  by_cases c3 : x = 98
  · subst c3; rfl
  by_cases c4 : x = 102
  · subst c4; rfl
  by_cases c5 : x = 110
  · subst c5; rfl
  by_cases c6 : x = 114
  · subst c6; rfl
  by_cases c7 : x = 116
  · subst c7; rfl
  by_cases c8 : x = 117
  · subst c8; rfl
  simp [beq_eq_false_iff_ne.mpr c0, beq_eq_false_iff_ne.mpr c1, beq_eq_false_iff_ne.mpr c2, beq_eq_false_iff_ne.mpr c3, beq_eq_false_iff_ne.mpr c4, beq_eq_false_iff_ne.mpr c5, beq_eq_false_iff_ne.mpr c6, beq_eq_false_iff_ne.mpr c7, beq_eq_false_iff_ne.mpr c8, c0, c1, c2, c3, c4, c5, c6, c7, c8]
theorem run_look (w : World) (b : Nat) (x : Int) (hb : w.heap[b]? = some (.map escE 9)) : (Instr.lookup 91 (.map (some b)) (.int .u8 x) true).run Try.prog w =
    .ok (.tuple #[match escF x with | some f => Value.func (.func f) #[] #[] | none => .nilFunc, .bool (escF x).isSome]) w := by
  have h1 := Go.MapKept.run_getObj_map (P := Try.prog) hb
  have h2 : ∀ e, (Instr.checkKey e 10000 5 (.int .u8 x)).run Try.prog w = .ok () w := fun e => Go.MapKept.run_checkKey (P := Try.prog) (w := w) (k := .int .u8 x) Try.underlying5 (by simp [Go.MapKept.IsKey]) e 9999
  have h3 := Go.MapKept.run_findKey (P := Try.prog) (w := w) Try.underlying5 (esc_find x)
  have hz : (zeroValue 89).run Try.prog w = .ok .nilFunc w := by kernel_rfl
  simp only [Instr.lookup, Sem.run_bind, run_underlying Try.underlying91, Result.andThen_ok, h1, Sem.run_pure]
  rw [h2 escE.isEmpty]
  simp only [Result.andThen_ok]
  rw [h3]
  cases h : escF x with
  | none => simp [hz]
  | some f => simp

/-- What an escape's letter says is said by the function that the table holds. -/
theorem does_any (base p r : Nat) (S : Nat → Prop) (s : SV) (x c : Int) (f : Nat) (bs : List Int) (w : World) (hc : escC x = some c) (hF : escF x = some f) (h : StrAt w base S p r s) (hf : utf8_Bytes.f c = some bs) (hl : s.text.length + bs.length ≤ 1000000) (hn : 0 ≤ s.n ∧ s.n ≤ 1000000) :
    Calls Try.prog f #[.pointer (some ⟨p, 0, none⟩), .int .u8 x] w fun e w' => e = .returned (.tuple #[]) ∧ Keeps (fun k => k = p ∨ S k) w w' ∧ StrAt w' base (More S w w') p r (s.say bs) := by
  unfold escC at hc
  unfold escF at hF
  by_cases c0 : x = 34
  · subst c0; obtain rfl := Option.some.inj hc; obtain rfl := Option.some.inj hF; exact same_any base p r S s 34 bs w h hf hl hn (by omega)
  by_cases c1 : x = 92
  · subst c1; obtain rfl := Option.some.inj hc; obtain rfl := Option.some.inj hF; exact same_any base p r S s 92 bs w h hf hl hn (by omega)
  by_cases c2 : x = 47
  · subst c2; obtain rfl := Option.some.inj hc; obtain rfl := Option.some.inj hF; exact same_any base p r S s 47 bs w h hf hl hn (by omega)
  by_cases c3 : x = 98
  · subst c3; obtain rfl := Option.some.inj hc; obtain rfl := Option.some.inj hF; exact back_any base p r S s 98 bs w h hf hl hn (by omega)
  by_cases c4 : x = 102
  · subst c4; obtain rfl := Option.some.inj hc; obtain rfl := Option.some.inj hF; exact feed_any base p r S s 102 bs w h hf hl hn (by omega)
  by_cases c5 : x = 110
  · subst c5; obtain rfl := Option.some.inj hc; obtain rfl := Option.some.inj hF; exact line_any base p r S s 110 bs w h hf hl hn (by omega)
  by_cases c6 : x = 114
  · subst c6; obtain rfl := Option.some.inj hc; obtain rfl := Option.some.inj hF; exact turn_any base p r S s 114 bs w h hf hl hn (by omega)
  by_cases c7 : x = 116
  · subst c7; obtain rfl := Option.some.inj hc; obtain rfl := Option.some.inj hF; exact tab_any base p r S s 116 bs w h hf hl hn (by omega)
  simp [c0, c1, c2, c3, c4, c5, c6, c7] at hc
theorem escC_F {x : Int} {c : Int} (h : escC x = some c) : ∃ f, escF x = some f ∧ x ≠ 117 := by
  unfold escC at h
  unfold escF
  (repeat' split at h) <;> (first | (cases h; done) | skip) <;> simp [*]
set_option maxHeartbeats 2000000 in
theorem escape_none (base p r : Nat) (S : Nat → Prop) (s : SV) (x : Int) (w : World) (h : StrAt w base S p r s) (hF : escF x = none) :
    Calls Try.prog 43 #[.pointer (some ⟨p, 0, none⟩), .int .u8 x] w fun e w' => e = .returned (.int .i64 2) ∧ Keeps (fun _ => False) w w' ∧ StrAt w' base S p r s := by
  have hk := run_look (w.alloc (.map escE 9)) w.heap.size x (heap_alloc_new w _)
  rw [hF] at hk
  simp only [Option.isSome_none] at hk
  have H := Aside0.mk h
  clear h hF
  go_enter Try.func43, Try.ntmps43
  go_wp2_with (go_at_call 53; refine (escapes_any _).mono ?_; rintro e w1 ⟨rfl, rfl⟩)
  go_ret
  have hK := (Keeps.refl (fun _ => False) w).alloc (.map escE 9)
  exact ⟨rfl, hK, H.out.keep hK id id (fun _ _ => id)⟩
set_option maxHeartbeats 2000000 in
theorem escape_high (base p r : Nat) (S : Nat → Prop) (s : SV) (x : Int) (f : Nat) (w : World) (h : StrAt w base S p r s) (hF : escF x = some f) (hx : x ≠ 117) (hh : s.high ≠ 0) :
    Calls Try.prog 43 #[.pointer (some ⟨p, 0, none⟩), .int .u8 x] w fun e w' => e = .returned (.int .i64 5) ∧ Keeps (fun _ => False) w w' ∧ StrAt w' base S p r s := by
  have hk := run_look (w.alloc (.map escE 9)) w.heap.size x (heap_alloc_new w _)
  rw [hF] at hk
  simp only [Option.isSome_some] at hk
  obtain ⟨A, cp, hp, _⟩ := h.row
  have k6 : w.cell? ⟨p, 6, none⟩ = some (.int .u16 s.high) := (blk_cell hp 6).trans rfl
  have t1 : (s.high != 0) = true := bne_iff_ne.mpr hh
  have t2 : (x != 117) = true := bne_iff_ne.mpr hx
  have hlt := blk_lt hp
  have H := Aside0.mk h
  clear h hF hp hh hx
  go_enter Try.func43, Try.ntmps43
  go_wp2_with (go_at_call 53; refine (escapes_any _).mono ?_; rintro e w1 ⟨rfl, rfl⟩)
  go_ret
  have hK := (Keeps.refl (fun _ => False) w).alloc (.map escE 9)
  exact ⟨rfl, hK, H.out.keep hK id id (fun _ _ => id)⟩
set_option maxHeartbeats 2000000 in
theorem escape_unit (base p r : Nat) (S : Nat → Prop) (s : SV) (w : World) (h : StrAt w base S p r s) :
    Calls Try.prog 43 #[.pointer (some ⟨p, 0, none⟩), .int .u8 117] w fun e w' => e = .returned (.int .i64 0) ∧ Keeps (fun k => k = p) w w' ∧ StrAt w' base S p r s.begun := by
  have hk := run_look (w.alloc (.map escE 9)) w.heap.size 117 (heap_alloc_new w _)
  rw [show escF 117 = some 74 from rfl] at hk
  simp only [Option.isSome_some] at hk
  obtain ⟨A, cp, hp, _⟩ := h.row
  have k6 : w.cell? ⟨p, 6, none⟩ = some (.int .u16 s.high) := (blk_cell hp 6).trans rfl
  have hlt := blk_lt hp
  have H := Aside0.mk h
  have hK := (Keeps.refl (fun _ => False) w).alloc (.map escE 9)
  have HC := Aside0.mk (units_any base p r S s 117 (w.alloc (.map escE 9)) (h.keep hK id id (fun _ _ => id)))
  have HK := Aside0.mk hK
  clear h hp hK
  go_enter Try.func43, Try.ntmps43
  by_cases h0 : (s.high != 0) = true
  · go_wp2_with (first | (go_at_call 53; refine (escapes_any _).mono ?_; rintro e w1 ⟨rfl, rfl⟩) | (go_at_call 74; refine HC.out.mono ?_; rintro e w1 ⟨rfl, hk1, hs1⟩; have HK1 := Aside0.mk hk1; have HS1 := Aside0.mk hs1; clear hk1 hs1))
    go_ret
    exact ⟨rfl, (HK.out.mono (fun _ h => h.elim)).trans HK1.out (fun _ h => .inl h), HS1.out⟩
  · have h0' : (s.high != 0) = false := by simpa using h0
    go_wp2_with (first | (go_at_call 53; refine (escapes_any _).mono ?_; rintro e w1 ⟨rfl, rfl⟩) | (go_at_call 74; refine HC.out.mono ?_; rintro e w1 ⟨rfl, hk1, hs1⟩; have HK1 := Aside0.mk hk1; have HS1 := Aside0.mk hs1; clear hk1 hs1))
    go_ret
    exact ⟨rfl, (HK.out.mono (fun _ h => h.elim)).trans HK1.out (fun _ h => .inl h), HS1.out⟩

/-! ### What is wrong with the first digits of a unit -/
def lowV (u many : Int) : Bool := if many = 1 then decide (u = 13) else if many = 2 then loS (u * 256) else if many = 3 then loS (u * 16) else loS u
def wrongV (hi u many : Int) : Int :=
  if hi ≠ 0 ∧ lowV u many = false ∨ hi = 0 ∧ 2 ≤ many ∧ lowV u many = true then 5
  else if hi = 0 ∧ (many = 3 ∧ (u = 4061 ∨ u = 4062) ∨ many = 4 ∧ isNon u = true) then 6
  else if many = 4 ∧ hiS hi = true ∧ loS u = true ∧ isNon (joinV hi u) = true then 6 else 0
theorem drawn_drewN (w : World) (n : Nat) : Drawn0 w (w.drewN n) := ⟨⟨n, rfl⟩⟩
theorem wrong_1zl0 (p : Nat) (hi u jc : Int) (w : World) (hu : 0 ≤ u) (hu2 : u < 16) (k6 : w.cell? ⟨p, 6, none⟩ = some (.int .u16 0)) (hl : (u == 13) = true) (HJ : Aside0 (scalar_Join.f 0 u = some (0, false))) :
    Calls Try.prog 55 #[.pointer (some ⟨p, 0, none⟩), .int .u16 u, .int .i64 1] w fun e w' => e = .returned (.int .i64 0) ∧ Drawn0 w w' := by
  go_enter Try.func55, Try.ntmps55
  go_wp2_with (first | (go_at_call 56; refine (scalar_Join.calls _ _ 0 false _ HJ.out).mono ?_; rintro e w3 ⟨rfl, hd⟩; obtain ⟨nc, hd⟩ := hd.out; subst hd))
  go_ret
  exact ⟨rfl, by first | exact drawn_drewN _ _ | exact Drawn0.refl _ | (simp only [World.drewN_drewN]; exact drawn_drewN _ _)⟩
theorem wrong_1zn0 (p : Nat) (hi u jc : Int) (w : World) (hu : 0 ≤ u) (hu2 : u < 16) (k6 : w.cell? ⟨p, 6, none⟩ = some (.int .u16 0)) (hl : (u == 13) = false) (HJ : Aside0 (scalar_Join.f 0 u = some (0, false))) :
    Calls Try.prog 55 #[.pointer (some ⟨p, 0, none⟩), .int .u16 u, .int .i64 1] w fun e w' => e = .returned (.int .i64 0) ∧ Drawn0 w w' := by
  go_enter Try.func55, Try.ntmps55
  go_wp2_with (first | (go_at_call 56; refine (scalar_Join.calls _ _ 0 false _ HJ.out).mono ?_; rintro e w3 ⟨rfl, hd⟩; obtain ⟨nc, hd⟩ := hd.out; subst hd))
  go_ret
  exact ⟨rfl, by first | exact drawn_drewN _ _ | exact Drawn0.refl _ | (simp only [World.drewN_drewN]; exact drawn_drewN _ _)⟩
theorem wrong_1hl0 (p : Nat) (hi u jc : Int) (w : World) (hu : 0 ≤ u) (hu2 : u < 16) (k6 : w.cell? ⟨p, 6, none⟩ = some (.int .u16 hi)) (hh : (hi != 0) = true) (hh' : (hi == 0) = false) (hl : (u == 13) = true) (HJ : Aside0 (scalar_Join.f hi u = some (jc, false))) :
    Calls Try.prog 55 #[.pointer (some ⟨p, 0, none⟩), .int .u16 u, .int .i64 1] w fun e w' => e = .returned (.int .i64 0) ∧ Drawn0 w w' := by
  go_enter Try.func55, Try.ntmps55
  go_wp2_with (first | (go_at_call 56; refine (scalar_Join.calls _ _ jc false _ HJ.out).mono ?_; rintro e w3 ⟨rfl, hd⟩; obtain ⟨nc, hd⟩ := hd.out; subst hd))
  go_ret
  exact ⟨rfl, by first | exact drawn_drewN _ _ | exact Drawn0.refl _ | (simp only [World.drewN_drewN]; exact drawn_drewN _ _)⟩
theorem wrong_1hn0 (p : Nat) (hi u jc : Int) (w : World) (hu : 0 ≤ u) (hu2 : u < 16) (k6 : w.cell? ⟨p, 6, none⟩ = some (.int .u16 hi)) (hh : (hi != 0) = true) (hh' : (hi == 0) = false) (hl : (u == 13) = false) :
    Calls Try.prog 55 #[.pointer (some ⟨p, 0, none⟩), .int .u16 u, .int .i64 1] w fun e w' => e = .returned (.int .i64 5) ∧ Drawn0 w w' := by
  go_enter Try.func55, Try.ntmps55
  go_wp2_with (first | fail)
  go_ret
  exact ⟨rfl, by first | exact drawn_drewN _ _ | exact Drawn0.refl _ | (simp only [World.drewN_drewN]; exact drawn_drewN _ _)⟩
theorem wrong_2zl0 (p : Nat) (hi u jc : Int) (w : World) (hu : 0 ≤ u) (hu2 : u < 256) (k6 : w.cell? ⟨p, 6, none⟩ = some (.int .u16 0)) (HL : Aside0 (scalar_Low.f (u * 256) = some true)) :
    Calls Try.prog 55 #[.pointer (some ⟨p, 0, none⟩), .int .u16 u, .int .i64 2] w fun e w' => e = .returned (.int .i64 5) ∧ Drawn0 w w' := by
  go_enter Try.func55, Try.ntmps55
  go_wp2_with (first | (go_at_call 75; refine (scalar_Low.calls _ true _ HL.out).mono ?_; rintro e w1 ⟨rfl, hd⟩; obtain ⟨na, hd⟩ := hd.out; subst hd))
  go_ret
  exact ⟨rfl, by first | exact drawn_drewN _ _ | exact Drawn0.refl _ | (simp only [World.drewN_drewN]; exact drawn_drewN _ _)⟩
theorem wrong_2zn0 (p : Nat) (hi u jc : Int) (w : World) (hu : 0 ≤ u) (hu2 : u < 256) (k6 : w.cell? ⟨p, 6, none⟩ = some (.int .u16 0)) (HL : Aside0 (scalar_Low.f (u * 256) = some false)) (HJ : Aside0 (scalar_Join.f 0 u = some (0, false))) :
    Calls Try.prog 55 #[.pointer (some ⟨p, 0, none⟩), .int .u16 u, .int .i64 2] w fun e w' => e = .returned (.int .i64 0) ∧ Drawn0 w w' := by
  go_enter Try.func55, Try.ntmps55
  go_wp2_with (first | (go_at_call 75; refine (scalar_Low.calls _ false _ HL.out).mono ?_; rintro e w1 ⟨rfl, hd⟩; obtain ⟨na, hd⟩ := hd.out; subst hd) | (go_at_call 56; refine (scalar_Join.calls _ _ 0 false _ HJ.out).mono ?_; rintro e w3 ⟨rfl, hd⟩; obtain ⟨nc, hd⟩ := hd.out; subst hd))
  go_ret
  exact ⟨rfl, by first | exact drawn_drewN _ _ | exact Drawn0.refl _ | (simp only [World.drewN_drewN]; exact drawn_drewN _ _)⟩
theorem wrong_2hl0 (p : Nat) (hi u jc : Int) (w : World) (hu : 0 ≤ u) (hu2 : u < 256) (k6 : w.cell? ⟨p, 6, none⟩ = some (.int .u16 hi)) (hh : (hi != 0) = true) (hh' : (hi == 0) = false) (HL : Aside0 (scalar_Low.f (u * 256) = some true)) (HJ : Aside0 (scalar_Join.f hi u = some (jc, false))) :
    Calls Try.prog 55 #[.pointer (some ⟨p, 0, none⟩), .int .u16 u, .int .i64 2] w fun e w' => e = .returned (.int .i64 0) ∧ Drawn0 w w' := by
  go_enter Try.func55, Try.ntmps55
  go_wp2_with (first | (go_at_call 75; refine (scalar_Low.calls _ true _ HL.out).mono ?_; rintro e w1 ⟨rfl, hd⟩; obtain ⟨na, hd⟩ := hd.out; subst hd) | (go_at_call 56; refine (scalar_Join.calls _ _ jc false _ HJ.out).mono ?_; rintro e w3 ⟨rfl, hd⟩; obtain ⟨nc, hd⟩ := hd.out; subst hd))
  go_ret
  exact ⟨rfl, by first | exact drawn_drewN _ _ | exact Drawn0.refl _ | (simp only [World.drewN_drewN]; exact drawn_drewN _ _)⟩
theorem wrong_2hn0 (p : Nat) (hi u jc : Int) (w : World) (hu : 0 ≤ u) (hu2 : u < 256) (k6 : w.cell? ⟨p, 6, none⟩ = some (.int .u16 hi)) (hh : (hi != 0) = true) (hh' : (hi == 0) = false) (HL : Aside0 (scalar_Low.f (u * 256) = some false)) :
    Calls Try.prog 55 #[.pointer (some ⟨p, 0, none⟩), .int .u16 u, .int .i64 2] w fun e w' => e = .returned (.int .i64 5) ∧ Drawn0 w w' := by
  go_enter Try.func55, Try.ntmps55
  go_wp2_with (first | (go_at_call 75; refine (scalar_Low.calls _ false _ HL.out).mono ?_; rintro e w1 ⟨rfl, hd⟩; obtain ⟨na, hd⟩ := hd.out; subst hd))
  go_ret
  exact ⟨rfl, by first | exact drawn_drewN _ _ | exact Drawn0.refl _ | (simp only [World.drewN_drewN]; exact drawn_drewN _ _)⟩
theorem wrong_3zl0 (p : Nat) (hi u jc : Int) (w : World) (hu : 0 ≤ u) (hu2 : u < 4096) (k6 : w.cell? ⟨p, 6, none⟩ = some (.int .u16 0)) (HL : Aside0 (scalar_Low.f (u * 16) = some true)) :
    Calls Try.prog 55 #[.pointer (some ⟨p, 0, none⟩), .int .u16 u, .int .i64 3] w fun e w' => e = .returned (.int .i64 5) ∧ Drawn0 w w' := by
  go_enter Try.func55, Try.ntmps55
  go_wp2_with (first | (go_at_call 75; refine (scalar_Low.calls _ true _ HL.out).mono ?_; rintro e w1 ⟨rfl, hd⟩; obtain ⟨na, hd⟩ := hd.out; subst hd))
  go_ret
  exact ⟨rfl, by first | exact drawn_drewN _ _ | exact Drawn0.refl _ | (simp only [World.drewN_drewN]; exact drawn_drewN _ _)⟩
theorem wrong_3zn0 (p : Nat) (hi u jc : Int) (w : World) (hu : 0 ≤ u) (hu2 : u < 4096) (k6 : w.cell? ⟨p, 6, none⟩ = some (.int .u16 0)) (HL : Aside0 (scalar_Low.f (u * 16) = some false)) (h1 : (u == 4061) = false) (h2 : (u == 4062) = false) (HJ : Aside0 (scalar_Join.f 0 u = some (0, false))) :
    Calls Try.prog 55 #[.pointer (some ⟨p, 0, none⟩), .int .u16 u, .int .i64 3] w fun e w' => e = .returned (.int .i64 0) ∧ Drawn0 w w' := by
  go_enter Try.func55, Try.ntmps55
  go_wp2_with (first | (go_at_call 75; refine (scalar_Low.calls _ false _ HL.out).mono ?_; rintro e w1 ⟨rfl, hd⟩; obtain ⟨na, hd⟩ := hd.out; subst hd) | (go_at_call 56; refine (scalar_Join.calls _ _ 0 false _ HJ.out).mono ?_; rintro e w3 ⟨rfl, hd⟩; obtain ⟨nc, hd⟩ := hd.out; subst hd))
  go_ret
  exact ⟨rfl, by first | exact drawn_drewN _ _ | exact Drawn0.refl _ | (simp only [World.drewN_drewN]; exact drawn_drewN _ _)⟩
theorem wrong_3zn1 (p : Nat) (hi u jc : Int) (w : World) (hu : 0 ≤ u) (hu2 : u < 4096) (k6 : w.cell? ⟨p, 6, none⟩ = some (.int .u16 0)) (HL : Aside0 (scalar_Low.f (u * 16) = some false)) (h1 : (u == 4061) = true) (h2 : (u == 4062) = false) :
    Calls Try.prog 55 #[.pointer (some ⟨p, 0, none⟩), .int .u16 u, .int .i64 3] w fun e w' => e = .returned (.int .i64 6) ∧ Drawn0 w w' := by
  go_enter Try.func55, Try.ntmps55
  go_wp2_with (first | (go_at_call 75; refine (scalar_Low.calls _ false _ HL.out).mono ?_; rintro e w1 ⟨rfl, hd⟩; obtain ⟨na, hd⟩ := hd.out; subst hd))
  go_ret
  exact ⟨rfl, by first | exact drawn_drewN _ _ | exact Drawn0.refl _ | (simp only [World.drewN_drewN]; exact drawn_drewN _ _)⟩
theorem wrong_3zn2 (p : Nat) (hi u jc : Int) (w : World) (hu : 0 ≤ u) (hu2 : u < 4096) (k6 : w.cell? ⟨p, 6, none⟩ = some (.int .u16 0)) (HL : Aside0 (scalar_Low.f (u * 16) = some false)) (h1 : (u == 4061) = false) (h2 : (u == 4062) = true) :
    Calls Try.prog 55 #[.pointer (some ⟨p, 0, none⟩), .int .u16 u, .int .i64 3] w fun e w' => e = .returned (.int .i64 6) ∧ Drawn0 w w' := by
  go_enter Try.func55, Try.ntmps55
  go_wp2_with (first | (go_at_call 75; refine (scalar_Low.calls _ false _ HL.out).mono ?_; rintro e w1 ⟨rfl, hd⟩; obtain ⟨na, hd⟩ := hd.out; subst hd))
  go_ret
  exact ⟨rfl, by first | exact drawn_drewN _ _ | exact Drawn0.refl _ | (simp only [World.drewN_drewN]; exact drawn_drewN _ _)⟩
theorem wrong_3hl0 (p : Nat) (hi u jc : Int) (w : World) (hu : 0 ≤ u) (hu2 : u < 4096) (k6 : w.cell? ⟨p, 6, none⟩ = some (.int .u16 hi)) (hh : (hi != 0) = true) (hh' : (hi == 0) = false) (HL : Aside0 (scalar_Low.f (u * 16) = some true)) (HJ : Aside0 (scalar_Join.f hi u = some (jc, false))) :
    Calls Try.prog 55 #[.pointer (some ⟨p, 0, none⟩), .int .u16 u, .int .i64 3] w fun e w' => e = .returned (.int .i64 0) ∧ Drawn0 w w' := by
  go_enter Try.func55, Try.ntmps55
  go_wp2_with (first | (go_at_call 75; refine (scalar_Low.calls _ true _ HL.out).mono ?_; rintro e w1 ⟨rfl, hd⟩; obtain ⟨na, hd⟩ := hd.out; subst hd) | (go_at_call 56; refine (scalar_Join.calls _ _ jc false _ HJ.out).mono ?_; rintro e w3 ⟨rfl, hd⟩; obtain ⟨nc, hd⟩ := hd.out; subst hd))
  go_ret
  exact ⟨rfl, by first | exact drawn_drewN _ _ | exact Drawn0.refl _ | (simp only [World.drewN_drewN]; exact drawn_drewN _ _)⟩
theorem wrong_3hn0 (p : Nat) (hi u jc : Int) (w : World) (hu : 0 ≤ u) (hu2 : u < 4096) (k6 : w.cell? ⟨p, 6, none⟩ = some (.int .u16 hi)) (hh : (hi != 0) = true) (hh' : (hi == 0) = false) (HL : Aside0 (scalar_Low.f (u * 16) = some false)) :
    Calls Try.prog 55 #[.pointer (some ⟨p, 0, none⟩), .int .u16 u, .int .i64 3] w fun e w' => e = .returned (.int .i64 5) ∧ Drawn0 w w' := by
  go_enter Try.func55, Try.ntmps55
  go_wp2_with (first | (go_at_call 75; refine (scalar_Low.calls _ false _ HL.out).mono ?_; rintro e w1 ⟨rfl, hd⟩; obtain ⟨na, hd⟩ := hd.out; subst hd))
  go_ret
  exact ⟨rfl, by first | exact drawn_drewN _ _ | exact Drawn0.refl _ | (simp only [World.drewN_drewN]; exact drawn_drewN _ _)⟩
theorem wrong_4zl0 (p : Nat) (hi u jc : Int) (w : World) (hu : 0 ≤ u) (hu2 : u < 65536) (k6 : w.cell? ⟨p, 6, none⟩ = some (.int .u16 0)) (HL : Aside0 (scalar_Low.f (u) = some true)) :
    Calls Try.prog 55 #[.pointer (some ⟨p, 0, none⟩), .int .u16 u, .int .i64 4] w fun e w' => e = .returned (.int .i64 5) ∧ Drawn0 w w' := by
  go_enter Try.func55, Try.ntmps55
  go_wp2_with (first | (go_at_call 75; refine (scalar_Low.calls _ true _ HL.out).mono ?_; rintro e w1 ⟨rfl, hd⟩; obtain ⟨na, hd⟩ := hd.out; subst hd))
  go_ret
  exact ⟨rfl, by first | exact drawn_drewN _ _ | exact Drawn0.refl _ | (simp only [World.drewN_drewN]; exact drawn_drewN _ _)⟩
theorem wrong_4zn0 (p : Nat) (hi u jc : Int) (w : World) (hu : 0 ≤ u) (hu2 : u < 65536) (k6 : w.cell? ⟨p, 6, none⟩ = some (.int .u16 0)) (HL : Aside0 (scalar_Low.f (u) = some false)) (HN : Aside0 (scalar_Nonchar.f u = some true)) :
    Calls Try.prog 55 #[.pointer (some ⟨p, 0, none⟩), .int .u16 u, .int .i64 4] w fun e w' => e = .returned (.int .i64 6) ∧ Drawn0 w w' := by
  go_enter Try.func55, Try.ntmps55
  go_wp2_with (first | (go_at_call 75; refine (scalar_Low.calls _ false _ HL.out).mono ?_; rintro e w1 ⟨rfl, hd⟩; obtain ⟨na, hd⟩ := hd.out; subst hd) | (go_at_call 60; refine (scalar_Nonchar.calls _ true _ HN.out).mono ?_; rintro e w2 ⟨rfl, hd⟩; obtain ⟨nb, hd⟩ := hd.out; subst hd))
  go_ret
  exact ⟨rfl, by first | exact drawn_drewN _ _ | exact Drawn0.refl _ | (simp only [World.drewN_drewN]; exact drawn_drewN _ _)⟩
theorem wrong_4zn1 (p : Nat) (hi u jc : Int) (w : World) (hu : 0 ≤ u) (hu2 : u < 65536) (k6 : w.cell? ⟨p, 6, none⟩ = some (.int .u16 0)) (HL : Aside0 (scalar_Low.f (u) = some false)) (HN : Aside0 (scalar_Nonchar.f u = some false)) (HJ : Aside0 (scalar_Join.f 0 u = some (0, false))) :
    Calls Try.prog 55 #[.pointer (some ⟨p, 0, none⟩), .int .u16 u, .int .i64 4] w fun e w' => e = .returned (.int .i64 0) ∧ Drawn0 w w' := by
  go_enter Try.func55, Try.ntmps55
  go_wp2_with (first | (go_at_call 75; refine (scalar_Low.calls _ false _ HL.out).mono ?_; rintro e w1 ⟨rfl, hd⟩; obtain ⟨na, hd⟩ := hd.out; subst hd) | (go_at_call 60; refine (scalar_Nonchar.calls _ false _ HN.out).mono ?_; rintro e w2 ⟨rfl, hd⟩; obtain ⟨nb, hd⟩ := hd.out; subst hd) | (go_at_call 56; refine (scalar_Join.calls _ _ 0 false _ HJ.out).mono ?_; rintro e w3 ⟨rfl, hd⟩; obtain ⟨nc, hd⟩ := hd.out; subst hd))
  go_ret
  exact ⟨rfl, by first | exact drawn_drewN _ _ | exact Drawn0.refl _ | (simp only [World.drewN_drewN]; exact drawn_drewN _ _)⟩
theorem wrong_4hl0 (p : Nat) (hi u jc : Int) (w : World) (hu : 0 ≤ u) (hu2 : u < 65536) (k6 : w.cell? ⟨p, 6, none⟩ = some (.int .u16 hi)) (hh : (hi != 0) = true) (hh' : (hi == 0) = false) (HL : Aside0 (scalar_Low.f (u) = some true)) (HJ : Aside0 (scalar_Join.f hi u = some (jc, false))) :
    Calls Try.prog 55 #[.pointer (some ⟨p, 0, none⟩), .int .u16 u, .int .i64 4] w fun e w' => e = .returned (.int .i64 0) ∧ Drawn0 w w' := by
  go_enter Try.func55, Try.ntmps55
  go_wp2_with (first | (go_at_call 75; refine (scalar_Low.calls _ true _ HL.out).mono ?_; rintro e w1 ⟨rfl, hd⟩; obtain ⟨na, hd⟩ := hd.out; subst hd) | (go_at_call 56; refine (scalar_Join.calls _ _ jc false _ HJ.out).mono ?_; rintro e w3 ⟨rfl, hd⟩; obtain ⟨nc, hd⟩ := hd.out; subst hd))
  go_ret
  exact ⟨rfl, by first | exact drawn_drewN _ _ | exact Drawn0.refl _ | (simp only [World.drewN_drewN]; exact drawn_drewN _ _)⟩
theorem wrong_4hl1 (p : Nat) (hi u jc : Int) (w : World) (hu : 0 ≤ u) (hu2 : u < 65536) (k6 : w.cell? ⟨p, 6, none⟩ = some (.int .u16 hi)) (hh : (hi != 0) = true) (hh' : (hi == 0) = false) (HL : Aside0 (scalar_Low.f (u) = some true)) (HJ : Aside0 (scalar_Join.f hi u = some (jc, true))) (HN : Aside0 (scalar_Nonchar.f jc = some true)) :
    Calls Try.prog 55 #[.pointer (some ⟨p, 0, none⟩), .int .u16 u, .int .i64 4] w fun e w' => e = .returned (.int .i64 6) ∧ Drawn0 w w' := by
  go_enter Try.func55, Try.ntmps55
  go_wp2_with (first | (go_at_call 75; refine (scalar_Low.calls _ true _ HL.out).mono ?_; rintro e w1 ⟨rfl, hd⟩; obtain ⟨na, hd⟩ := hd.out; subst hd) | (go_at_call 56; refine (scalar_Join.calls _ _ jc true _ HJ.out).mono ?_; rintro e w3 ⟨rfl, hd⟩; obtain ⟨nc, hd⟩ := hd.out; subst hd) | (go_at_call 60; refine (scalar_Nonchar.calls _ true _ HN.out).mono ?_; rintro e w2 ⟨rfl, hd⟩; obtain ⟨nb, hd⟩ := hd.out; subst hd))
  go_ret
  exact ⟨rfl, by first | exact drawn_drewN _ _ | exact Drawn0.refl _ | (simp only [World.drewN_drewN]; exact drawn_drewN _ _)⟩
theorem wrong_4hl2 (p : Nat) (hi u jc : Int) (w : World) (hu : 0 ≤ u) (hu2 : u < 65536) (k6 : w.cell? ⟨p, 6, none⟩ = some (.int .u16 hi)) (hh : (hi != 0) = true) (hh' : (hi == 0) = false) (HL : Aside0 (scalar_Low.f (u) = some true)) (HJ : Aside0 (scalar_Join.f hi u = some (jc, true))) (HN : Aside0 (scalar_Nonchar.f jc = some false)) :
    Calls Try.prog 55 #[.pointer (some ⟨p, 0, none⟩), .int .u16 u, .int .i64 4] w fun e w' => e = .returned (.int .i64 0) ∧ Drawn0 w w' := by
  go_enter Try.func55, Try.ntmps55
  go_wp2_with (first | (go_at_call 75; refine (scalar_Low.calls _ true _ HL.out).mono ?_; rintro e w1 ⟨rfl, hd⟩; obtain ⟨na, hd⟩ := hd.out; subst hd) | (go_at_call 56; refine (scalar_Join.calls _ _ jc true _ HJ.out).mono ?_; rintro e w3 ⟨rfl, hd⟩; obtain ⟨nc, hd⟩ := hd.out; subst hd) | (go_at_call 60; refine (scalar_Nonchar.calls _ false _ HN.out).mono ?_; rintro e w2 ⟨rfl, hd⟩; obtain ⟨nb, hd⟩ := hd.out; subst hd))
  go_ret
  exact ⟨rfl, by first | exact drawn_drewN _ _ | exact Drawn0.refl _ | (simp only [World.drewN_drewN]; exact drawn_drewN _ _)⟩
theorem wrong_4hn0 (p : Nat) (hi u jc : Int) (w : World) (hu : 0 ≤ u) (hu2 : u < 65536) (k6 : w.cell? ⟨p, 6, none⟩ = some (.int .u16 hi)) (hh : (hi != 0) = true) (hh' : (hi == 0) = false) (HL : Aside0 (scalar_Low.f (u) = some false)) :
    Calls Try.prog 55 #[.pointer (some ⟨p, 0, none⟩), .int .u16 u, .int .i64 4] w fun e w' => e = .returned (.int .i64 5) ∧ Drawn0 w w' := by
  go_enter Try.func55, Try.ntmps55
  go_wp2_with (first | (go_at_call 75; refine (scalar_Low.calls _ false _ HL.out).mono ?_; rintro e w1 ⟨rfl, hd⟩; obtain ⟨na, hd⟩ := hd.out; subst hd))
  go_ret
  exact ⟨rfl, by first | exact drawn_drewN _ _ | exact Drawn0.refl _ | (simp only [World.drewN_drewN]; exact drawn_drewN _ _)⟩
theorem beq_f {a b : Int} (h : a ≠ b) : (a == b) = false := beq_eq_false_iff_ne.mpr h
theorem bne_t {a b : Int} (h : a ≠ b) : (a != b) = true := bne_iff_ne.mpr h
theorem wrong_any (p : Nat) (hi u many : Int) (w : World) (k6 : w.cell? ⟨p, 6, none⟩ = some (.int .u16 hi)) (hm : many = 1 ∧ u < 16 ∨ many = 2 ∧ u < 256 ∨ many = 3 ∧ u < 4096 ∨ many = 4 ∧ u < 65536) (hu : 0 ≤ u) :
    Calls Try.prog 55 #[.pointer (some ⟨p, 0, none⟩), .int .u16 u, .int .i64 many] w fun e w' => e = .returned (.int .i64 (wrongV hi u many)) ∧ Drawn0 w w' := by
  have hL : ∀ x, scalar_Low.f x = some (loS x) := low_val
  have hN : ∀ x, scalar_Nonchar.f x = some (isNon x) := non_val
  have hz : ∀ v, hiS 0 = true ∧ loS v = true → False := fun v h => by simp [hiS] at h
  have hJ0 : scalar_Join.f 0 u = some (0, false) := by rw [join_val, if_neg (hz u)]
  have fin : ∀ {n : Int}, wrongV hi u many = n → (Calls Try.prog 55 #[.pointer (some ⟨p, 0, none⟩), .int .u16 u, .int .i64 many] w fun e w' => e = .returned (.int .i64 n) ∧ Drawn0 w w') →
      Calls Try.prog 55 #[.pointer (some ⟨p, 0, none⟩), .int .u16 u, .int .i64 many] w fun e w' => e = .returned (.int .i64 (wrongV hi u many)) ∧ Drawn0 w w' := fun h c => by rw [h]; exact c
  rcases hm with ⟨rfl, h2⟩ | hm
  · by_cases h0 : hi = 0
    · subst h0
      by_cases h : u = 13
      · exact fin (by simp [wrongV, lowV, h]) (wrong_1zl0 p 0 u 0 w hu h2 k6 (by simpa using h) ⟨hJ0⟩)
      · exact fin (by simp [wrongV, lowV, h]) (wrong_1zn0 p 0 u 0 w hu h2 k6 (beq_f h) ⟨hJ0⟩)
    · have g1 := bne_t h0
      have g2 := beq_f h0
      by_cases h : u = 13
      · exact fin (by simp [wrongV, lowV, h, h0]) (wrong_1hl0 p hi u 0 w hu h2 k6 g1 g2 (by simpa using h) ⟨by rw [join_val, if_neg (fun q => by have := q.2; simp [loS] at this; omega)]⟩)
      · exact fin (by simp [wrongV, lowV, h, h0]) (wrong_1hn0 p hi u 0 w hu h2 k6 g1 g2 (beq_f h))
  rcases hm with ⟨rfl, h2⟩ | hm
  · by_cases h0 : hi = 0
    · subst h0
      cases h : loS (u * 256)
      · exact fin (by simp [wrongV, lowV, h]) (wrong_2zn0 p 0 u 0 w hu h2 k6 ⟨by rw [hL, h]⟩ ⟨hJ0⟩)
      · exact fin (by simp [wrongV, lowV, h]) (wrong_2zl0 p 0 u 0 w hu h2 k6 ⟨by rw [hL, h]⟩)
    · have g1 := bne_t h0
      have g2 := beq_f h0
      cases h : loS (u * 256)
      · exact fin (by simp [wrongV, lowV, h, h0]) (wrong_2hn0 p hi u 0 w hu h2 k6 g1 g2 ⟨by rw [hL, h]⟩)
      · exact fin (by simp [wrongV, lowV, h, h0]) (wrong_2hl0 p hi u 0 w hu h2 k6 g1 g2 ⟨by rw [hL, h]⟩ ⟨by rw [join_val, if_neg (fun q => by have := q.2; simp [loS] at this; omega)]⟩)
  rcases hm with ⟨rfl, h2⟩ | ⟨rfl, h2⟩
  · by_cases h0 : hi = 0
    · subst h0
      cases h : loS (u * 16)
      · by_cases a : u = 4061
        · exact fin (by simp [wrongV, lowV, a]; decide) (wrong_3zn1 p 0 u 0 w hu h2 k6 ⟨by rw [hL, h]⟩ (by simpa using a) (by simp [a]))
        · by_cases b : u = 4062
          · exact fin (by simp [wrongV, lowV, b]; decide) (wrong_3zn2 p 0 u 0 w hu h2 k6 ⟨by rw [hL, h]⟩ (beq_f a) (by simpa using b))
          · exact fin (by simp [wrongV, lowV, h, a, b]) (wrong_3zn0 p 0 u 0 w hu h2 k6 ⟨by rw [hL, h]⟩ (beq_f a) (beq_f b) ⟨hJ0⟩)
      · exact fin (by simp [wrongV, lowV, h]) (wrong_3zl0 p 0 u 0 w hu h2 k6 ⟨by rw [hL, h]⟩)
    · have g1 := bne_t h0
      have g2 := beq_f h0
      cases h : loS (u * 16)
      · exact fin (by simp [wrongV, lowV, h, h0]) (wrong_3hn0 p hi u 0 w hu h2 k6 g1 g2 ⟨by rw [hL, h]⟩)
      · exact fin (by simp [wrongV, lowV, h, h0]) (wrong_3hl0 p hi u 0 w hu h2 k6 g1 g2 ⟨by rw [hL, h]⟩ ⟨by rw [join_val, if_neg (fun q => by have := q.2; simp [loS] at this; omega)]⟩)
  · by_cases h0 : hi = 0
    · subst h0
      cases h : loS u
      · cases n : isNon u
        · exact fin (by simp [wrongV, lowV, h, n]) (wrong_4zn1 p 0 u 0 w hu h2 k6 ⟨by rw [hL, h]⟩ ⟨by rw [hN, n]⟩ ⟨hJ0⟩)
        · exact fin (by simp [wrongV, lowV, h, n]) (wrong_4zn0 p 0 u 0 w hu h2 k6 ⟨by rw [hL, h]⟩ ⟨by rw [hN, n]⟩)
      · exact fin (by simp [wrongV, lowV, h]) (wrong_4zl0 p 0 u 0 w hu h2 k6 ⟨by rw [hL, h]⟩)
    · have g1 := bne_t h0
      have g2 := beq_f h0
      cases h : loS u
      · exact fin (by simp [wrongV, lowV, h, h0]) (wrong_4hn0 p hi u 0 w hu h2 k6 g1 g2 ⟨by rw [hL, h]⟩)
      · cases q : hiS hi
        · exact fin (by simp [wrongV, lowV, h, h0, q]) (wrong_4hl0 p hi u 0 w hu h2 k6 g1 g2 ⟨by rw [hL, h]⟩ ⟨by rw [join_val, if_neg (by simp [q])]⟩)
        · cases n : isNon (joinV hi u)
          · exact fin (by simp [wrongV, lowV, h, h0, q, n]) (wrong_4hl2 p hi u (joinV hi u) w hu h2 k6 g1 g2 ⟨by rw [hL, h]⟩ ⟨by rw [join_val, if_pos ⟨q, h⟩]⟩ ⟨by rw [hN, n]⟩)
          · exact fin (by simp [wrongV, lowV, h, h0, q, n]) (wrong_4hl1 p hi u (joinV hi u) w hu h2 k6 g1 g2 ⟨by rw [hL, h]⟩ ⟨by rw [join_val, if_pos ⟨q, h⟩]⟩ ⟨by rw [hN, n]⟩)

/-! ### One more digit of a unit -/
def hexV (x : Int) : Int := if 48 ≤ x ∧ x ≤ 57 then x - 48 else if 97 ≤ x ∧ x ≤ 102 then x - 87 else if 65 ≤ x ∧ x ≤ 70 then x - 55 else -1
theorem hexV_range (x : Int) : -1 ≤ hexV x ∧ hexV x ≤ 15 := by
  unfold hexV
  (repeat' split) <;> omega
theorem digit_val (x : Int) : str_digit.f 3 x = some (if hexV x < 0 then (0, false) else (hexV x, true)) := by
  have e0 : str_digit.f 3 x = some (if 48 ≤ x ∧ x ≤ 57 then ((x - 48) % 256, true) else if 97 ≤ x ∧ x ≤ 102 then ((x - 97) % 256 + 10, true) else if 65 ≤ x ∧ x ≤ 70 then ((x - 65) % 256 + 10, true) else (0, false)) := by
    unfold str_digit.f
    simp only [str_digit.j0, str_digit.j1, decide_eq_true_eq, Bool.false_eq_true, if_false]
    (repeat' split) <;> first | rfl | (exfalso; omega)
  rw [e0]
  unfold hexV
  by_cases a : 48 ≤ x ∧ x ≤ 57
  · rw [if_pos a, if_pos a, if_neg (by omega)]
    congr 2
    omega
  · rw [if_neg a, if_neg a]
    by_cases b : 97 ≤ x ∧ x ≤ 102
    · rw [if_pos b, if_pos b, if_neg (by omega)]
      congr 2
      omega
    · rw [if_neg b, if_neg b]
      by_cases c : 65 ≤ x ∧ x ≤ 70
      · rw [if_pos c, if_pos c, if_neg (by omega)]
        congr 2
        omega
      · rw [if_neg c, if_neg c, if_pos (by omega)]
theorem or_u16 (a v : Int) (ha : 0 ≤ a) (ha2 : a < 4096) (hv : 0 ≤ v) (hv2 : v < 16) : Go.bits .or .u16 (a * 16) v = a * 16 + v := by
  obtain ⟨m, rfl⟩ := Int.eq_ofNat_of_zero_le ha
  obtain ⟨n, rfl⟩ := Int.eq_ofNat_of_zero_le hv
  have h1 := (bits_nat .u16 16 (by decide) (by intro x h0 h1; simp [IntKind.wrap, IntKind.bits, IntKind.signed]; omega) (m * 16) n (by omega) (by omega)).2
  rw [show ((m : Int) * 16) = ((m * 16 : Nat) : Int) by omega, h1]
  have h2 : m * 16 ||| n = m * 16 + n := by
    have := Nat.two_pow_add_eq_or_of_lt (i := 4) (b := n) (by omega) m
    rw [Nat.mul_comm] at this
    exact this.symm
  rw [h2]
  omega
set_option maxHeartbeats 2000000 in
theorem digits_no (base p r : Nat) (S : Nat → Prop) (s : SV) (x : Int) (w : World) (h : StrAt w base S p r s) (hx : hexV x < 0) :
    Calls Try.prog 44 #[.pointer (some ⟨p, 0, none⟩), .int .u8 x] w fun e w' => e = .returned (.int .i64 2) ∧ Keeps (fun _ => False) w w' ∧ StrAt w' base S p r s := by
  have hd := digit_val x
  rw [if_pos hx] at hd
  have HD := Aside0.mk hd
  have H := Aside0.mk h
  clear h hd hx
  go_enter Try.func44, Try.ntmps44
  go_wp2_with (go_at_call 54; refine (str_digit.calls 3 x 0 false _ HD.out).mono ?_; rintro e w1 ⟨rfl, hd⟩; obtain ⟨na, hd⟩ := hd.out; subst hd)
  go_ret
  have hK := (Keeps.refl (fun _ => False) w).drewN na
  exact ⟨rfl, hK, H.out.keep hK id id (fun _ _ => id)⟩

set_option maxHeartbeats 4000000 in
set_option maxRecDepth 100000 in
theorem digits_bad (base p r : Nat) (S : Nat → Prop) (s : SV) (x v u' ec : Int) (w : World) (h : StrAt w base S p r s) (hv : hexV x = v) (h0 : 0 ≤ v) (h16 : v < 16) (hu : 0 ≤ s.u) (hu2 : s.u < 4096) (hm : 0 ≤ s.many) (hm2 : s.many ≤ 3)
    (hu' : s.u * 16 + v = u') (hb : s.many = 0 ∧ u' < 16 ∨ s.many = 1 ∧ u' < 256 ∨ s.many = 2 ∧ u' < 4096 ∨ s.many = 3 ∧ u' < 65536) (hw : wrongV s.high u' (s.many + 1) = ec) (he : ec ≠ 0) :
    Calls Try.prog 44 #[.pointer (some ⟨p, 0, none⟩), .int .u8 x] w fun e w' => e = .returned (.int .i64 ec) ∧ Keeps (fun _ => False) w w' ∧ StrAt w' base S p r s := by
  have hd := digit_val x
  rw [hv, if_neg (by omega)] at hd
  have HD := Aside0.mk hd
  obtain ⟨A, cp, hp, hrow⟩ := h.row
  have hor := or_u16 s.u v hu hu2 h0 h16
  rw [hu'] at hor
  have hub : 0 ≤ u' ∧ u' < 65536 := by omega
  have hm' : (s.many + 1 = 1 ∧ u' < 16 ∨ s.many + 1 = 2 ∧ u' < 256 ∨ s.many + 1 = 3 ∧ u' < 4096 ∨ s.many + 1 = 4 ∧ u' < 65536) := by omega
  have hc := fun W k => wrong_any p s.high u' (s.many + 1) W k hm' (by omega)
  simp only [hw] at hc
  have HW := Aside0.mk hc
  have t1 : (ec != 0) = true := bne_t he
  have k4 : w.cell? ⟨p, 4, none⟩ = some (.int .u16 s.u) := (blk_cell hp 4).trans rfl
  have k5 : w.cell? ⟨p, 5, none⟩ = some (.int .i64 s.many) := (blk_cell hp 5).trans rfl
  have k3 : w.cell? ⟨p, 3, none⟩ = some (.int .i64 s.at_) := (blk_cell hp 3).trans rfl
  have k6 : w.cell? ⟨p, 6, none⟩ = some (.int .u16 s.high) := (blk_cell hp 6).trans rfl
  have f3 := blk_frozen hp 3
  have f4 := blk_frozen hp 4
  have f5 := blk_frozen hp 5
  have f6 := blk_frozen hp 6
  have K6 := Aside0.mk k6
  have H := Aside0.mk h
  have HR := Aside0.mk hrow
  have HP := Aside0.mk hp
  clear h hd hv hu' hb hw hm' hc hp hrow he
  go_enter Try.func44, Try.ntmps44
  go_wp2_with (go_at_call 54; refine (str_digit.calls 3 x v true _ HD.out).mono ?_; rintro e w1 ⟨rfl, hd⟩; obtain ⟨na, hd⟩ := hd.out; subst hd)
  go_quiet (fail)
  go_wp2_with (first | (go_at_call 55; refine (HW.out (w.drewN _) K6.out).mono ?_; rintro e w2 ⟨rfl, hd⟩; obtain ⟨nb, hd⟩ := hd.out; subst hd))
  go_ret
  have fin : ∀ n, Keeps (fun _ => False) w (w.drewN n) ∧ StrAt (w.drewN n) base S p r s := fun n => ⟨(Keeps.refl _ w).drewN n, H.out.keep ((Keeps.refl (fun _ => False) w).drewN n) id id (fun _ _ => id)⟩
  exact ⟨rfl, (fin _).1, (fin _).2⟩
def SV.dig (s : SV) (u : Int) : SV := { s with u := u, many := s.many + 1 }
set_option maxHeartbeats 4000000 in
set_option maxRecDepth 100000 in
theorem digits_more (base p r : Nat) (S : Nat → Prop) (s : SV) (x v u' : Int) (w : World) (h : StrAt w base S p r s) (hv : hexV x = v) (h0 : 0 ≤ v) (h16 : v < 16) (hu : 0 ≤ s.u) (hu2 : s.u < 4096) (hm : 0 ≤ s.many) (hm2 : s.many ≤ 3)
    (hu' : s.u * 16 + v = u') (hb : s.many = 0 ∧ u' < 16 ∨ s.many = 1 ∧ u' < 256 ∨ s.many = 2 ∧ u' < 4096 ∨ s.many = 3 ∧ u' < 65536) (hw : wrongV s.high u' (s.many + 1) = 0) (h3 : s.many + 1 < 4) :
    Calls Try.prog 44 #[.pointer (some ⟨p, 0, none⟩), .int .u8 x] w fun e w' => e = .returned (.int .i64 0) ∧ Keeps (fun k => k = p) w w' ∧ StrAt w' base S p r (s.dig u') := by
  have hd := digit_val x
  rw [hv, if_neg (by omega)] at hd
  have HD := Aside0.mk hd
  obtain ⟨A, cp, hp, hrow⟩ := h.row
  have hor := or_u16 s.u v hu hu2 h0 h16
  rw [hu'] at hor
  have hub : 0 ≤ u' ∧ u' < 65536 := by omega
  have hm' : (s.many + 1 = 1 ∧ u' < 16 ∨ s.many + 1 = 2 ∧ u' < 256 ∨ s.many + 1 = 3 ∧ u' < 4096 ∨ s.many + 1 = 4 ∧ u' < 65536) := by omega
  have hc := fun W k => wrong_any p s.high u' (s.many + 1) W k hm' (by omega)
  simp only [hw] at hc
  have HW := Aside0.mk hc
  have t2 : decide (s.many + 1 < 4) = true := decide_eq_true h3
  have k4 : w.cell? ⟨p, 4, none⟩ = some (.int .u16 s.u) := (blk_cell hp 4).trans rfl
  have k5 : w.cell? ⟨p, 5, none⟩ = some (.int .i64 s.many) := (blk_cell hp 5).trans rfl
  have k3 : w.cell? ⟨p, 3, none⟩ = some (.int .i64 s.at_) := (blk_cell hp 3).trans rfl
  have k6 : w.cell? ⟨p, 6, none⟩ = some (.int .u16 s.high) := (blk_cell hp 6).trans rfl
  have f3 := blk_frozen hp 3
  have f4 := blk_frozen hp 4
  have f5 := blk_frozen hp 5
  have f6 := blk_frozen hp 6
  have K6 := Aside0.mk k6
  have H := Aside0.mk h
  have HR := Aside0.mk hrow
  have HP := Aside0.mk hp
  clear h hd hv hu' hb hw hm' hc hp hrow 
  go_enter Try.func44, Try.ntmps44
  go_wp2_with (go_at_call 54; refine (str_digit.calls 3 x v true _ HD.out).mono ?_; rintro e w1 ⟨rfl, hd⟩; obtain ⟨na, hd⟩ := hd.out; subst hd)
  go_quiet (fail)
  go_wp2_with (first | (go_at_call 55; refine (HW.out (w.drewN _) K6.out).mono ?_; rintro e w2 ⟨rfl, hd⟩; obtain ⟨nb, hd⟩ := hd.out; subst hd))
  go_ret
  have fin : ∀ n, Keeps (fun k => k = p) w (((w.drewN n).setCell ⟨p, 4, none⟩ (.int .u16 u')).setCell ⟨p, 5, none⟩ (.int .i64 (s.many + 1))) ∧ StrAt (((w.drewN n).setCell ⟨p, 4, none⟩ (.int .u16 u')).setCell ⟨p, 5, none⟩ (.int .i64 (s.many + 1))) base S p r (s.dig u') := fun n => by
    have hk := ((((Keeps.refl (fun k => k = p) w).drewN n).at_ rfl 4 (.int .u16 u')).at_ rfl 5 (.int .i64 (s.many + 1)))
    exact ⟨hk, ⟨⟨A, cp, (blk_set (blk_set (blk_drewN HP.out n) 4 _) 5 _).trans rfl, hk.R HR.out (fun k h => (H.out.ne k h).1)⟩, hk.blk H.out.rd (fun e => H.out.pr e.symm), H.out.ne, ⟨Nat.le_trans H.out.base_.1 hk.size, H.out.base_.2⟩, fun k hS => Nat.lt_of_lt_of_le (H.out.slt k hS) hk.size⟩⟩
  exact ⟨rfl, (fin _).1, (fin _).2⟩
def SV.dig0 (s : SV) (u : Int) : SV := { s with u := u, many := s.many + 1, at_ := 0 }
theorem dig0_at {base p r : Nat} {S : Nat → Prop} {s : SV} {w : World} (h : StrAt w base S p r s) (u' : Int) (n : Nat) : Keeps (fun k => k = p) w ((((w.drewN n).setCell ⟨p, 4, none⟩ (.int .u16 u')).setCell ⟨p, 5, none⟩ (.int .i64 (s.many + 1))).setCell ⟨p, 3, none⟩ (.int .i64 0)) ∧ StrAt ((((w.drewN n).setCell ⟨p, 4, none⟩ (.int .u16 u')).setCell ⟨p, 5, none⟩ (.int .i64 (s.many + 1))).setCell ⟨p, 3, none⟩ (.int .i64 0)) base S p r (s.dig0 u') := by
  obtain ⟨A, cp, hp, hrow⟩ := h.row
  have hk := (((((Keeps.refl (fun k => k = p) w).drewN n).at_ rfl 4 (.int .u16 u')).at_ rfl 5 (.int .i64 (s.many + 1))).at_ rfl 3 (.int .i64 0))
  exact ⟨hk, ⟨⟨A, cp, (blk_set (blk_set (blk_set (blk_drewN hp n) 4 _) 5 _) 3 _).trans rfl, hk.R hrow (fun k hh => (h.ne k hh).1)⟩, hk.blk h.rd (fun e => h.pr e.symm), h.ne, ⟨Nat.le_trans h.base_.1 hk.size, h.base_.2⟩, fun k hS => Nat.lt_of_lt_of_le (h.slt k hS) hk.size⟩⟩
theorem StrAt.drewN {base p r : Nat} {S : Nat → Prop} {s : SV} {w : World} (h : StrAt w base S p r s) (n : Nat) : StrAt (w.drewN n) base S p r s := h.keep ((Keeps.refl (fun _ => False) w).drewN n) id id (fun _ _ => id)
set_option maxHeartbeats 4000000 in
set_option maxRecDepth 100000 in
theorem digits_pair (base p r : Nat) (S : Nat → Prop) (s : SV) (x v u' jc : Int) (bs : List Int) (w : World) (h : StrAt w base S p r s) (hv : hexV x = v) (h0 : 0 ≤ v) (h16 : v < 16) (hu : 0 ≤ s.u) (hu2 : s.u < 4096) (hm : 0 ≤ s.many) (hm2 : s.many ≤ 3)
    (hu' : s.u * 16 + v = u') (hb : s.many = 0 ∧ u' < 16 ∨ s.many = 1 ∧ u' < 256 ∨ s.many = 2 ∧ u' < 4096 ∨ s.many = 3 ∧ u' < 65536) (hw : wrongV s.high u' (s.many + 1) = 0) (h3 : s.many = 3) (hj : scalar_Join.f s.high u' = some (jc, true)) (hbs : utf8_Bytes.f jc = some bs) (hl : s.text.length + bs.length ≤ 1000000) (hn : 0 ≤ s.n ∧ s.n ≤ 1000000) :
    Calls Try.prog 44 #[.pointer (some ⟨p, 0, none⟩), .int .u8 x] w fun e w' => e = .returned (.int .i64 0) ∧ Keeps (fun k => k = p ∨ S k) w w' ∧ StrAt w' base (More S w w') p r ((s.dig0 u').say bs) := by
  have hd := digit_val x
  rw [hv, if_neg (by omega)] at hd
  have HD := Aside0.mk hd
  obtain ⟨A, cp, hp, hrow⟩ := h.row
  have hor := or_u16 s.u v hu hu2 h0 h16
  rw [hu'] at hor
  have hub : 0 ≤ u' ∧ u' < 65536 := by omega
  have hm' : (s.many + 1 = 1 ∧ u' < 16 ∨ s.many + 1 = 2 ∧ u' < 256 ∨ s.many + 1 = 3 ∧ u' < 4096 ∨ s.many + 1 = 4 ∧ u' < 65536) := by omega
  have hc := fun W k => wrong_any p s.high u' (s.many + 1) W k hm' (by omega)
  simp only [hw] at hc
  have HW := Aside0.mk hc
  have t2 : decide (s.many + 1 < 4) = false := decide_eq_false (by omega)
  have HJ := Aside0.mk hj
  have HB := Aside0.mk hbs
  have k4 : w.cell? ⟨p, 4, none⟩ = some (.int .u16 s.u) := (blk_cell hp 4).trans rfl
  have k5 : w.cell? ⟨p, 5, none⟩ = some (.int .i64 s.many) := (blk_cell hp 5).trans rfl
  have k3 : w.cell? ⟨p, 3, none⟩ = some (.int .i64 s.at_) := (blk_cell hp 3).trans rfl
  have k6 : w.cell? ⟨p, 6, none⟩ = some (.int .u16 s.high) := (blk_cell hp 6).trans rfl
  have f3 := blk_frozen hp 3
  have f4 := blk_frozen hp 4
  have f5 := blk_frozen hp 5
  have f6 := blk_frozen hp 6
  have K6 := Aside0.mk k6
  have H := Aside0.mk h
  have HR := Aside0.mk hrow
  have HP := Aside0.mk hp
  clear h hd hv hu' hb hw hm' hc hp hrow h3 hj hbs
  go_enter Try.func44, Try.ntmps44
  go_wp2_with (go_at_call 54; refine (str_digit.calls 3 x v true _ HD.out).mono ?_; rintro e w1 ⟨rfl, hd⟩; obtain ⟨na, hd⟩ := hd.out; subst hd)
  go_quiet (fail)
  go_wp2_with (first | (go_at_call 55; refine (HW.out (w.drewN _) K6.out).mono ?_; rintro e w2 ⟨rfl, hd⟩; obtain ⟨nb, hd⟩ := hd.out; subst hd) | (go_at_call 56; refine (scalar_Join.calls _ _ jc true _ HJ.out).mono ?_; rintro e w3 ⟨rfl, hd⟩; obtain ⟨nc, hd⟩ := hd.out; subst hd) | (go_at_call 57; refine (say_any base p r S (s.dig0 u') jc bs _ (by first | exact (dig0_at H.out u' _).2 | exact ((dig0_at H.out u' _).2.drewN _)) HB.out hl hn).mono ?_; rintro e w5 ⟨rfl, hk5, hs5⟩; have HK5 := Aside0.mk hk5; have HS5 := Aside0.mk hs5; clear hk5 hs5))
  go_ret
  have hk0 : Keeps (fun k => k = p ∨ S k) w w5 := by first | exact ((dig0_at H.out u' _).1.mono (fun _ h => .inl h)).trans HK5.out (fun _ h => .inl h) | exact (((dig0_at H.out u' _).1.mono (fun _ h => .inl h)).drewN _).trans HK5.out (fun _ h => .inl h)
  refine ⟨rfl, hk0, HS5.out.mono (fun k hh => ?_) (more_ne H.out.ne H.out.lt.1 H.out.lt.2) (more_lt H.out.slt hk0.size)⟩
  rcases hh with hh | hh
  · exact .inl hh
  · refine .inr ⟨?_, hh.2⟩
    have hsz := hh.1
    simpa [World.setCell] using hsz
set_option maxHeartbeats 4000000 in
set_option maxRecDepth 100000 in
theorem digits_one (base p r : Nat) (S : Nat → Prop) (s : SV) (x v u' jc : Int) (bs : List Int) (w : World) (h : StrAt w base S p r s) (hv : hexV x = v) (h0 : 0 ≤ v) (h16 : v < 16) (hu : 0 ≤ s.u) (hu2 : s.u < 4096) (hm : 0 ≤ s.many) (hm2 : s.many ≤ 3)
    (hu' : s.u * 16 + v = u') (hb : s.many = 0 ∧ u' < 16 ∨ s.many = 1 ∧ u' < 256 ∨ s.many = 2 ∧ u' < 4096 ∨ s.many = 3 ∧ u' < 65536) (hw : wrongV s.high u' (s.many + 1) = 0) (h3 : s.many = 3) (hj : scalar_Join.f s.high u' = some (jc, false)) (hh : scalar_High.f u' = some false) (hbs : utf8_Bytes.f u' = some bs) (hl : s.text.length + bs.length ≤ 1000000) (hn : 0 ≤ s.n ∧ s.n ≤ 1000000) :
    Calls Try.prog 44 #[.pointer (some ⟨p, 0, none⟩), .int .u8 x] w fun e w' => e = .returned (.int .i64 0) ∧ Keeps (fun k => k = p ∨ S k) w w' ∧ StrAt w' base (More S w w') p r ((s.dig0 u').say bs) := by
  have hd := digit_val x
  rw [hv, if_neg (by omega)] at hd
  have HD := Aside0.mk hd
  obtain ⟨A, cp, hp, hrow⟩ := h.row
  have hor := or_u16 s.u v hu hu2 h0 h16
  rw [hu'] at hor
  have hub : 0 ≤ u' ∧ u' < 65536 := by omega
  have hm' : (s.many + 1 = 1 ∧ u' < 16 ∨ s.many + 1 = 2 ∧ u' < 256 ∨ s.many + 1 = 3 ∧ u' < 4096 ∨ s.many + 1 = 4 ∧ u' < 65536) := by omega
  have hc := fun W k => wrong_any p s.high u' (s.many + 1) W k hm' (by omega)
  simp only [hw] at hc
  have HW := Aside0.mk hc
  have t2 : decide (s.many + 1 < 4) = false := decide_eq_false (by omega)
  have HJ := Aside0.mk hj
  have HB := Aside0.mk hbs
  have HH := Aside0.mk hh
  have k4 : w.cell? ⟨p, 4, none⟩ = some (.int .u16 s.u) := (blk_cell hp 4).trans rfl
  have k5 : w.cell? ⟨p, 5, none⟩ = some (.int .i64 s.many) := (blk_cell hp 5).trans rfl
  have k3 : w.cell? ⟨p, 3, none⟩ = some (.int .i64 s.at_) := (blk_cell hp 3).trans rfl
  have k6 : w.cell? ⟨p, 6, none⟩ = some (.int .u16 s.high) := (blk_cell hp 6).trans rfl
  have f3 := blk_frozen hp 3
  have f4 := blk_frozen hp 4
  have f5 := blk_frozen hp 5
  have f6 := blk_frozen hp 6
  have K6 := Aside0.mk k6
  have H := Aside0.mk h
  have HR := Aside0.mk hrow
  have HP := Aside0.mk hp
  clear h hd hv hu' hb hw hm' hc hp hrow h3 hj hbs hh
  go_enter Try.func44, Try.ntmps44
  go_wp2_with (go_at_call 54; refine (str_digit.calls 3 x v true _ HD.out).mono ?_; rintro e w1 ⟨rfl, hd⟩; obtain ⟨na, hd⟩ := hd.out; subst hd)
  go_quiet (fail)
  go_wp2_with (first | (go_at_call 55; refine (HW.out (w.drewN _) K6.out).mono ?_; rintro e w2 ⟨rfl, hd⟩; obtain ⟨nb, hd⟩ := hd.out; subst hd) | (go_at_call 56; refine (scalar_Join.calls _ _ jc false _ HJ.out).mono ?_; rintro e w3 ⟨rfl, hd⟩; obtain ⟨nc, hd⟩ := hd.out; subst hd) | (go_at_call 58; refine (scalar_High.calls _ false _ HH.out).mono ?_; rintro e w4 ⟨rfl, hd⟩; obtain ⟨ne, hd⟩ := hd.out; subst hd) | (go_at_call 57; refine (say_any base p r S (s.dig0 u') u' bs _ (by first | exact (dig0_at H.out u' _).2 | exact ((dig0_at H.out u' _).2.drewN _)) HB.out hl hn).mono ?_; rintro e w5 ⟨rfl, hk5, hs5⟩; have HK5 := Aside0.mk hk5; have HS5 := Aside0.mk hs5; clear hk5 hs5))
  go_ret
  have hk0 : Keeps (fun k => k = p ∨ S k) w w5 := by first | exact ((dig0_at H.out u' _).1.mono (fun _ h => .inl h)).trans HK5.out (fun _ h => .inl h) | exact (((dig0_at H.out u' _).1.mono (fun _ h => .inl h)).drewN _).trans HK5.out (fun _ h => .inl h)
  refine ⟨rfl, hk0, HS5.out.mono (fun k hh => ?_) (more_ne H.out.ne H.out.lt.1 H.out.lt.2) (more_lt H.out.slt hk0.size)⟩
  rcases hh with hh | hh
  · exact .inl hh
  · refine .inr ⟨?_, hh.2⟩
    have hsz := hh.1
    simpa [World.setCell] using hsz
def SV.half (s : SV) (u : Int) : SV := { s with u := u, many := s.many + 1, at_ := 0, high := u }
set_option maxHeartbeats 4000000 in
set_option maxRecDepth 100000 in
theorem digits_high (base p r : Nat) (S : Nat → Prop) (s : SV) (x v u' jc : Int) (w : World) (h : StrAt w base S p r s) (hv : hexV x = v) (h0 : 0 ≤ v) (h16 : v < 16) (hu : 0 ≤ s.u) (hu2 : s.u < 4096) (hm : 0 ≤ s.many) (hm2 : s.many ≤ 3)
    (hu' : s.u * 16 + v = u') (hb : s.many = 0 ∧ u' < 16 ∨ s.many = 1 ∧ u' < 256 ∨ s.many = 2 ∧ u' < 4096 ∨ s.many = 3 ∧ u' < 65536) (hw : wrongV s.high u' (s.many + 1) = 0) (h3 : s.many = 3) (hj : scalar_Join.f s.high u' = some (jc, false)) (hh : scalar_High.f u' = some true) :
    Calls Try.prog 44 #[.pointer (some ⟨p, 0, none⟩), .int .u8 x] w fun e w' => e = .returned (.int .i64 0) ∧ Keeps (fun k => k = p) w w' ∧ StrAt w' base S p r (s.half u') := by
  have hd := digit_val x
  rw [hv, if_neg (by omega)] at hd
  have HD := Aside0.mk hd
  obtain ⟨A, cp, hp, hrow⟩ := h.row
  have hor := or_u16 s.u v hu hu2 h0 h16
  rw [hu'] at hor
  have hub : 0 ≤ u' ∧ u' < 65536 := by omega
  have hm' : (s.many + 1 = 1 ∧ u' < 16 ∨ s.many + 1 = 2 ∧ u' < 256 ∨ s.many + 1 = 3 ∧ u' < 4096 ∨ s.many + 1 = 4 ∧ u' < 65536) := by omega
  have hc := fun W k => wrong_any p s.high u' (s.many + 1) W k hm' (by omega)
  simp only [hw] at hc
  have HW := Aside0.mk hc
  have t2 : decide (s.many + 1 < 4) = false := decide_eq_false (by omega)
  have HJ := Aside0.mk hj
  have HH := Aside0.mk hh
  have k4 : w.cell? ⟨p, 4, none⟩ = some (.int .u16 s.u) := (blk_cell hp 4).trans rfl
  have k5 : w.cell? ⟨p, 5, none⟩ = some (.int .i64 s.many) := (blk_cell hp 5).trans rfl
  have k3 : w.cell? ⟨p, 3, none⟩ = some (.int .i64 s.at_) := (blk_cell hp 3).trans rfl
  have k6 : w.cell? ⟨p, 6, none⟩ = some (.int .u16 s.high) := (blk_cell hp 6).trans rfl
  have f3 := blk_frozen hp 3
  have f4 := blk_frozen hp 4
  have f5 := blk_frozen hp 5
  have f6 := blk_frozen hp 6
  have K6 := Aside0.mk k6
  have H := Aside0.mk h
  have HR := Aside0.mk hrow
  have HP := Aside0.mk hp
  clear h hd hv hu' hb hw hm' hc hp hrow h3 hj hh
  go_enter Try.func44, Try.ntmps44
  go_wp2_with (go_at_call 54; refine (str_digit.calls 3 x v true _ HD.out).mono ?_; rintro e w1 ⟨rfl, hd⟩; obtain ⟨na, hd⟩ := hd.out; subst hd)
  go_quiet (fail)
  go_wp2_with (first | (go_at_call 55; refine (HW.out (w.drewN _) K6.out).mono ?_; rintro e w2 ⟨rfl, hd⟩; obtain ⟨nb, hd⟩ := hd.out; subst hd) | (go_at_call 56; refine (scalar_Join.calls _ _ jc false _ HJ.out).mono ?_; rintro e w3 ⟨rfl, hd⟩; obtain ⟨nc, hd⟩ := hd.out; subst hd) | (go_at_call 58; refine (scalar_High.calls _ true _ HH.out).mono ?_; rintro e w4 ⟨rfl, hd⟩; obtain ⟨ne, hd⟩ := hd.out; subst hd))
  go_ret
  have fin : ∀ n m, Keeps (fun k => k = p) w ((((((w.drewN n).setCell ⟨p, 4, none⟩ (.int .u16 u')).setCell ⟨p, 5, none⟩ (.int .i64 (s.many + 1))).setCell ⟨p, 3, none⟩ (.int .i64 0)).drewN m).setCell ⟨p, 6, none⟩ (.int .u16 u')) ∧ StrAt ((((((w.drewN n).setCell ⟨p, 4, none⟩ (.int .u16 u')).setCell ⟨p, 5, none⟩ (.int .i64 (s.many + 1))).setCell ⟨p, 3, none⟩ (.int .i64 0)).drewN m).setCell ⟨p, 6, none⟩ (.int .u16 u')) base S p r (s.half u') := fun n m => by
    have hk := (((dig0_at H.out u' n).1.drewN m).at_ rfl 6 (.int .u16 u'))
    exact ⟨hk, ⟨⟨A, cp, (blk_set (blk_drewN (blk_set (blk_set (blk_set (blk_drewN HP.out n) 4 _) 5 _) 3 _) m) 6 _).trans rfl, hk.R HR.out (fun k h => (H.out.ne k h).1)⟩, hk.blk H.out.rd (fun e => H.out.pr e.symm), H.out.ne, ⟨Nat.le_trans H.out.base_.1 hk.size, H.out.base_.2⟩, fun k hS => Nat.lt_of_lt_of_le (H.out.slt k hS) hk.size⟩⟩
  exact ⟨rfl, (fin _ _).1, (fin _ _).2⟩

end Go.Proofs.Ytkpeblpgfngjcaa.Pure
