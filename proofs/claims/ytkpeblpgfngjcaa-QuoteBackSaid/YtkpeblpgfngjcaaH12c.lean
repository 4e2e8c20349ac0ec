/- The string of the document: bytes, digits, escapes. -/
import Derived.Test.YtkpeblpgfngjcaaPAllx1
import Derived.Test.YtkpeblpgfngjcaaPAllx2
import Derived.Test.YtkpeblpgfngjcaaPAllx3
import Derived.Test.YtkpeblpgfngjcaaPAllx4
import Derived.Test.YtkpeblpgfngjcaaPAllx5
import Derived.Test.YtkpeblpgfngjcaaHKit
import Derived.Test.YtkpeblpgfngjcaaLUtf
import Derived.Test.YtkpeblpgfngjcaaH12b
namespace Go.Proofs.Ytkpeblpgfngjcaa.Pure
open Go.RowKit Go.Proofs.Ytkpeblpgfngjcaa.PAll Go.Proofs.YtkpeblpgfngjcaaW.PrintWords Go.Proofs.YtkpeblpgfngjcaaW.PrintLast Go.Proofs.YtkpeblpgfngjcaaW.PrintMore
set_option linter.unusedVariables false
set_option linter.unusedSimpArgs false

/-! ### The document's string (orthoepyref12.Str): what it holds -/
structure RV where
  Out : List Int
  B : List Int
  Esc : Int
  Hex : List Int
  Wait : Int
  Over : Bool
def RV.cells (s : RV) (A0 A1 A2 : Option Addr) (c0 c1 c2 : Nat) : Array Value :=
  #[.slice A0 s.Out.length c0, .slice A1 s.B.length c1, .int .i64 s.Esc, .slice A2 s.Hex.length c2, .int .u16 s.Wait, .bool s.Over]
/-- At block q; its rows' blocks are of S. -/
structure RefAt (w : World) (base : Nat) (S : Nat → Prop) (q : Nat) (s : RV) : Prop where
  row : ∃ A0 c0 A1 c1 A2 c2, w.heap[q]? = some (.cells (s.cells A0 A1 A2 c0 c1 c2) 52 (0, 0)) ∧ Kd.R (Kd.int .i32) 21 w base S (.slice A0 s.Out.length c0) s.Out ∧
    Kd.R (Kd.int .u8) 5 w base S (.slice A1 s.B.length c1) s.B ∧ Kd.R (Kd.int .i64) 3 w base S (.slice A2 s.Hex.length c2) s.Hex
  ne : ∀ k, S k → k ≠ q
  base_ : base ≤ w.heap.size ∧ base ≤ q
  slt : ∀ k, S k → k < w.heap.size
theorem RefAt.lt {w : World} {base q : Nat} {S : Nat → Prop} {s : RV} (h : RefAt w base S q s) : q < w.heap.size := by
  obtain ⟨A0, c0, A1, c1, A2, c2, h1, _⟩ := h.row
  exact blk_lt h1
theorem RefAt.keep {w W : World} {base q : Nat} {S T : Nat → Prop} {s : RV} (h : RefAt w base S q s) (hk : Keeps T w W) (hq : ¬ T q) (hS : ∀ k, S k → ¬ T k) : RefAt W base S q s := by
  obtain ⟨A0, c0, A1, c1, A2, c2, h1, h2, h3, h4⟩ := h.row
  exact ⟨⟨A0, c0, A1, c1, A2, c2, hk.blk h1 hq, hk.R h2 hS, hk.R h3 hS, hk.R h4 hS⟩, h.ne, ⟨Nat.le_trans h.base_.1 hk.size, h.base_.2⟩, fun k hS => Nat.lt_of_lt_of_le (h.slt k hS) hk.size⟩
theorem RefAt.mono {w : World} {base q : Nat} {S T : Nat → Prop} {s : RV} (h : RefAt w base S q s) (hS : ∀ k, S k → T k) (hT : ∀ k, T k → k ≠ q) (hlt : ∀ k, T k → k < w.heap.size) : RefAt w base T q s := by
  obtain ⟨A0, c0, A1, c1, A2, c2, h1, h2, h3, h4⟩ := h.row
  exact ⟨⟨A0, c0, A1, c1, A2, c2, h1, Kd.R_mono h2 hS, Kd.R_mono h3 hS, Kd.R_mono h4 hS⟩, hT, h.base_, hlt⟩
theorem more_ne1 {w W : World} {S : Nat → Prop} {q : Nat} (hS : ∀ k, S k → k ≠ q) (hq : q < w.heap.size) : ∀ k, More S w W k → k ≠ q := by
  rintro k (h | h)
  · exact hS k h
  · have := h.1
    omega
theorem R_sep {α β : Type} {d : Kd α} {d' : Kd β} {e e' base base' : Nat} {w : World} {ok ok' : Nat → Prop} {u v : Value} {xs : List α} {ys : List β} (h : d.R e w base ok u xs) (hv : d'.R e' w base' ok' v ys) (ht : ∀ q, q ∈ e :: d.E → q ≠ e') :
    d.R e w base (fun k => ok k ∧ some k ≠ v.ownBlock) u xs := by
  by_cases hn : ∃ g, v.ownBlock = some g
  · obtain ⟨g, hg⟩ := hn
    obtain ⟨inner, ho⟩ := Kd.R_own hv
    obtain ⟨cells, hc⟩ := own_typed ho g hg
    refine Kd.R_mono (Kd.R_types h hc ht) (fun k hk => ⟨hk.1, fun e => hk.2 ?_⟩)
    rw [hg] at e
    injection e
  · exact Kd.R_mono h (fun k hk => ⟨hk, fun e => hn ⟨k, e.symm⟩⟩)
def MineR (S : Nat → Prop) (q : Nat) (k : Nat) : Prop := k = q ∨ S k
def RV.say (s : RV) (c : Int) : RV := { s with Out := s.Out ++ [c] }
/-- Behind an append to what it has said: the row, and the other two. -/
theorem said_at {w w1 w2 : World} {base q : Nat} {S : Nat → Prop} {s : RV} {A0 A1 A2 A3 : Option Addr} {c0 c1 c2 c3 : Nat} {Z : List Int} (h : RefAt w base S q s) (h1 : w.heap[q]? = some (.cells (s.cells A0 A1 A2 c0 c1 c2) 52 (0, 0)))
    (r0 : Kd.R (Kd.int .i32) 21 w base S (.slice A0 s.Out.length c0) s.Out) (r1 : Kd.R (Kd.int .u8) 5 w base S (.slice A1 s.B.length c1) s.B) (r2 : Kd.R (Kd.int .i64) 3 w base S (.slice A2 s.Hex.length c2) s.Hex)
    (hb : Keeps (fun _ => False) w w1) (hr : Kd.R (Kd.int .i32) 21 w2 base (fun k => S k ∨ News w1 w2 k) (.slice A3 Z.length c3) Z) (hk : Keeps (fun k => some k = (Value.slice A0 s.Out.length c0).ownBlock) w1 w2) :
    Keeps (MineR S q) w w2 ∧ w2.heap[q]? = some (.cells (s.cells A0 A1 A2 c0 c1 c2) 52 (0, 0)) ∧ Kd.R (Kd.int .i32) 21 w2 base (More S w w2) (.slice A3 Z.length c3) Z ∧
      Kd.R (Kd.int .u8) 5 w2 base (More S w w2) (.slice A1 s.B.length c1) s.B ∧ Kd.R (Kd.int .i64) 3 w2 base (More S w w2) (.slice A2 s.Hex.length c2) s.Hex := by
  have hk2 : Keeps (fun k => some k = (Value.slice A0 s.Out.length c0).ownBlock) w w2 := (hb.mono (fun _ h => h.elim)).trans hk (fun _ h => .inl h)
  have hne : ∀ k, some k = (Value.slice A0 s.Out.length c0).ownBlock → S k := fun k hk => r0.1 k hk.symm
  refine ⟨hk2.mono (fun k hk => .inr (hne k hk)), hk2.blk h1 (fun e => h.ne q (hne q e) rfl), Kd.R_mono hr (fun k hk => hk.elim .inl (fun hn => .inr ⟨Nat.le_trans hb.size hn.1, hn.2⟩)), ?_, ?_⟩
  · exact Kd.R_mono (hk2.R (R_sep r1 r0 (by decide)) (fun k hk he => hk.2 he)) (fun k hk => .inl hk.1)
  · exact Kd.R_mono (hk2.R (R_sep r2 r0 (by decide)) (fun k hk he => hk.2 he)) (fun k hk => .inl hk.1)
theorem simple_val (x : Int) (h0 : 0 ≤ x) (h1 : x ≤ 255) : orthoepyref12_simple.f 12 x = some ((escC x).getD (-1)) := by
  have h : ∀ j : Fin 256, orthoepyref12_simple.f 12 (j.1 : Int) = some ((escC (j.1 : Int)).getD (-1)) := by decide +kernel
  obtain ⟨n, rfl⟩ := Int.eq_ofNat_of_zero_le h0
  exact h ⟨n, by omega⟩
theorem hex_val (x : Int) (h0 : 0 ≤ x) (h1 : x ≤ 255) : orthoepyref12_hex.f 12 x = some (hexV x) := by
  have h : ∀ j : Fin 256, orthoepyref12_hex.f 12 (j.1 : Int) = some (hexV (j.1 : Int)) := by decide +kernel
  obtain ⟨n, rfl⟩ := Int.eq_ofNat_of_zero_le h0
  exact h ⟨n, by omega⟩

/-! ### A byte behind the sign -/
theorem ref_facts {w : World} {base q : Nat} {S : Nat → Prop} {s : RV} (h : RefAt w base S q s) : True := trivial
set_option maxHeartbeats 2000000 in
theorem rescape_unit (base q : Nat) (S : Nat → Prop) (s : RV) (w : World) (h : RefAt w base S q s) :
    Calls Try.prog 47 #[.pointer (some ⟨q, 0, none⟩), .int .u8 117] w fun e w' => e = .returned (.int .i64 0) ∧ Keeps (MineR S q) w w' ∧ RefAt w' base (More S w w') q { s with Esc := 2 } := by
  obtain ⟨A0, c0, A1, c1, A2, c2, h1, h2, h3, h4⟩ := h.row
  have hs := simple_val 117 (by omega) (by omega)
  have HSi := Aside0.mk hs
  have f2 := blk_frozen h1 2
  have k2 : w.cell? ⟨q, 2, none⟩ = some (.int .i64 s.Esc) := (blk_cell h1 2).trans rfl
  have H1 := Aside0.mk h1
  have H2 := Aside0.mk h2
  have H3 := Aside0.mk h3
  have H4 := Aside0.mk h4
  have H := Aside0.mk h
  clear hs h1 h2 h3 h4 h
  go_enter Try.func47, Try.ntmps47
  go_wp2_with (go_at_call 64; refine (orthoepyref12_simple.calls 12 117 _ _ HSi.out).mono ?_; rintro e w1 ⟨rfl, hd⟩; obtain ⟨na, hd⟩ := hd.out; subst hd)
  go_ret
  have fin : ∀ n, Keeps (MineR S q) w ((w.drewN n).setCell ⟨q, 2, none⟩ (.int .i64 2)) ∧ RefAt ((w.drewN n).setCell ⟨q, 2, none⟩ (.int .i64 2)) base (More S w ((w.drewN n).setCell ⟨q, 2, none⟩ (.int .i64 2))) q { s with Esc := 2 } := fun n => by
    have hk := (((Keeps.refl (fun k => k = q) w).drewN n).at_ rfl 2 (.int .i64 2))
    have hq : ∀ k, S k → ¬ k = q := H.out.ne
    exact ⟨hk.mono (fun _ h => .inl h), ⟨⟨A0, c0, A1, c1, A2, c2, (blk_set (blk_drewN H1.out n) 2 _).trans rfl, Kd.R_mono (hk.R H2.out hq) (fun _ h => .inl h), Kd.R_mono (hk.R H3.out hq) (fun _ h => .inl h), Kd.R_mono (hk.R H4.out hq) (fun _ h => .inl h)⟩, more_ne1 H.out.ne H.out.lt, ⟨Nat.le_trans H.out.base_.1 hk.size, H.out.base_.2⟩, more_lt H.out.slt hk.size⟩⟩
  exact ⟨rfl, (fin _).1, (fin _).2⟩
set_option maxHeartbeats 2000000 in
theorem rescape_no (base q : Nat) (S : Nat → Prop) (s : RV) (x : Int) (w : World) (h : RefAt w base S q s) (hx : 0 ≤ x ∧ x ≤ 255) (hx' : x ≠ 117) (hc : escC x = none) :
    Calls Try.prog 47 #[.pointer (some ⟨q, 0, none⟩), .int .u8 x] w fun e w' => e = .returned (.int .i64 2) ∧ Keeps (fun _ => False) w w' ∧ RefAt w' base S q s := by
  have hs := simple_val x hx.1 hx.2
  rw [hc] at hs
  have HSi := Aside0.mk hs
  have t1 : (x == 117) = false := beq_f hx'
  have H := Aside0.mk h
  clear hs hc h hx'
  go_enter Try.func47, Try.ntmps47
  go_wp2_with (go_at_call 64; refine (orthoepyref12_simple.calls 12 x (-1) _ HSi.out).mono ?_; rintro e w1 ⟨rfl, hd⟩; obtain ⟨na, hd⟩ := hd.out; subst hd)
  go_ret
  have fin : ∀ n, Keeps (fun _ => False) w (w.drewN n) ∧ RefAt (w.drewN n) base S q s := fun n => ⟨(Keeps.refl _ w).drewN n, H.out.keep ((Keeps.refl (fun _ => False) w).drewN n) id (fun _ _ => id)⟩
  exact ⟨rfl, (fin _).1, (fin _).2⟩
set_option maxHeartbeats 2000000 in
theorem rescape_wait (base q : Nat) (S : Nat → Prop) (s : RV) (x c : Int) (w : World) (h : RefAt w base S q s) (hx : 0 ≤ x ∧ x ≤ 255) (hx' : x ≠ 117) (hc : escC x = some c) (h0 : 0 ≤ c) (hw : 0 < s.Wait) :
    Calls Try.prog 47 #[.pointer (some ⟨q, 0, none⟩), .int .u8 x] w fun e w' => e = .returned (.int .i64 5) ∧ Keeps (fun _ => False) w w' ∧ RefAt w' base S q s := by
  obtain ⟨A0, c0, A1, c1, A2, c2, h1, _⟩ := h.row
  have hs := simple_val x hx.1 hx.2
  rw [hc] at hs
  have HSi := Aside0.mk hs
  have t1 : (x == 117) = false := beq_f hx'
  have k4 : w.cell? ⟨q, 4, none⟩ = some (.int .u16 s.Wait) := (blk_cell h1 4).trans rfl
  have H := Aside0.mk h
  clear hs hc h hx' h1
  go_enter Try.func47, Try.ntmps47
  go_wp2_with (go_at_call 64; refine (orthoepyref12_simple.calls 12 x c _ HSi.out).mono ?_; rintro e w1 ⟨rfl, hd⟩; obtain ⟨na, hd⟩ := hd.out; subst hd)
  go_ret
  have fin : ∀ n, Keeps (fun _ => False) w (w.drewN n) ∧ RefAt (w.drewN n) base S q s := fun n => ⟨(Keeps.refl _ w).drewN n, H.out.keep ((Keeps.refl (fun _ => False) w).drewN n) id (fun _ _ => id)⟩
  exact ⟨rfl, (fin _).1, (fin _).2⟩
set_option maxHeartbeats 4000000 in
theorem rescape_say (base q : Nat) (S : Nat → Prop) (s : RV) (x c : Int) (w : World) (h : RefAt w base S q s) (hx : 0 ≤ x ∧ x ≤ 255) (hx' : x ≠ 117) (hc : escC x = some c) (h0 : 0 ≤ c) (hw : s.Wait = 0) (hl : s.Out.length ≤ 1000000) :
    Calls Try.prog 47 #[.pointer (some ⟨q, 0, none⟩), .int .u8 x] w fun e w' => e = .returned (.int .i64 0) ∧ Keeps (MineR S q) w w' ∧ RefAt w' base (More S w w') q { s.say c with Esc := 0 } := by
  obtain ⟨A0, c0, A1, c1, A2, c2, h1, h2, h3, h4⟩ := h.row
  have hs := simple_val x hx.1 hx.2
  rw [hc] at hs
  have HSi := Aside0.mk hs
  have t1 : (x == 117) = false := beq_f hx'
  have k0 : w.cell? ⟨q, 0, none⟩ = some (.slice A0 s.Out.length c0) := (blk_cell h1 0).trans rfl
  have k4 : w.cell? ⟨q, 4, none⟩ = some (.int .u16 s.Wait) := (blk_cell h1 4).trans rfl
  rw [hw] at k4
  obtain ⟨Z, hZ⟩ : ∃ Z, s.Out ++ [c] = Z := ⟨_, rfl⟩
  have HZ := Aside0.mk hZ
  have hb := h.base_.1
  have H1 := Aside0.mk h1
  have H2 := Aside0.mk h2
  have H3 := Aside0.mk h3
  have H4 := Aside0.mk h4
  have H := Aside0.mk h
  have hlt := h.lt
  clear hs hc h hx' h1 h2 h3 h4 hw hZ
  go_enter Try.func47, Try.ntmps47
  go_wp2_with (first
    | (go_at_call 64; refine (orthoepyref12_simple.calls 12 x c _ HSi.out).mono ?_; rintro e w1 ⟨rfl, hd⟩; obtain ⟨na, hd⟩ := hd.out; subst hd)
    | ((with_reducible refine gate_builtin (b := .append) (xs := #[.tmp 27, .tmp 29]) rfl ?_); at_builtin; refine app_row (Value.int .i32) (0 : Int) base rfl (.tmp 27) (.tmp 29) 30 21 (.int .i32 0) 4 rfl Try.underlying30 info21 rfl (by decide) (.slice A0 s.Out.length c0) s.Out [c] Z HZ.out (some ⟨w.heap.size, 0, none⟩) 1 1 S rfl rfl (Kd.R_alloc (Kd.R_drewN H2.out na) _) (C_one (Value.int .i32) 0 (w.drewN na) 21 c) (by simp; omega) (by omega) ?_; intro A3 c3 w2 hr2 hk2; have hsd := said_at H.out H1.out H2.out H3.out H4.out (((Keeps.refl (fun _ => False) w).drewN na).alloc _) hr2 hk2; have f0 := blk_frozen hsd.2.1 0; have f2 := blk_frozen hsd.2.1 2; have e2 : w2.cell? ⟨q, 2, none⟩ = some (.int .i64 s.Esc) := (blk_cell hsd.2.1 2).trans rfl; have e0 : w2.cell? ⟨q, 0, none⟩ = some (.slice A0 s.Out.length c0) := (blk_cell hsd.2.1 0).trans rfl; have HS := Aside0.mk hsd; clear hsd hr2 hk2))
  go_ret
  have hk := (((Keeps.refl (fun k => k = q) w2).at_ rfl 0 (.slice A3 Z.length c3)).at_ rfl 2 (.int .i64 0))
  have hK : Keeps (MineR S q) w _ := HS.out.1.trans hk (fun k h => .inl (.inl h))
  have hlt2 := Nat.le_trans (Nat.le_of_lt hlt) HS.out.1.size
  have hm : ∀ k, More S w w2 k → More S w ((w2.setCell ⟨q, 0, none⟩ (.slice A3 Z.length c3)).setCell ⟨q, 2, none⟩ (.int .i64 0)) k := by
    rintro k (h | h)
    · exact .inl h
    · exact .inr ⟨h.1, Nat.lt_of_lt_of_le h.2 hk.size⟩
  have hq := more_ne1 (W := w2) H.out.ne hlt
  refine ⟨rfl, hK, ⟨⟨A3, c3, A1, c1, A2, c2, ?_, ?_, Kd.R_mono (hk.R HS.out.2.2.2.1 hq) hm, Kd.R_mono (hk.R HS.out.2.2.2.2 hq) hm⟩, more_ne1 H.out.ne hlt, ⟨Nat.le_trans hb hK.size, H.out.base_.2⟩, more_lt H.out.slt hK.size⟩⟩
  · simp only [RV.say, RV.cells, HZ.out]
    exact (blk_set (blk_set HS.out.2.1 0 _) 2 _).trans rfl
  · simp only [RV.say, HZ.out]
    exact Kd.R_mono (hk.R HS.out.2.2.1 hq) hm

/-! ### A byte of a scalar -/
theorem scan_one {pre : List Int} {x : Int} (hp : pre = [] ∨ howV pre = 1) (hw : howV (pre ++ [x]) = 2) : scanV [] (pre ++ [x]) = (ofV (pre ++ [x]), (pre.length : Int) + 1, true) := by
  match pre, hp with
  | [], _ =>
    simp only [List.nil_append] at hw ⊢
    simp [scanV, hw]
  | [a], hp =>
    have h1 : howV [a] = 1 := by simpa using hp
    simp only [List.cons_append, List.nil_append] at hw ⊢
    simp [scanV, hw, h1]
  | [a, b], hp =>
    have h2 : howV [a, b] = 1 := by simpa using hp
    have h1 : howV [a] = 1 := by
      simp only [howV] at h2 ⊢
      (repeat' split at h2) <;> (first | (cases h2; done) | skip)
      have := szV_range a
      rw [if_neg (by omega), if_neg (by omega)]
    simp only [List.cons_append, List.nil_append] at hw ⊢
    simp [scanV, hw, h1, h2]
  | [a, b, c], hp =>
    have h3 : howV [a, b, c] = 1 := by simpa using hp
    have hz := szV_range a
    have hh : 3 < szV a ∧ secV a b = true := by
      simp only [howV] at h3
      split at h3
      · cases h3
      · rename_i hn
        split at h3
        · cases h3
        · exact ⟨by omega, by simpa using (fun e => hn (.inr (.inl e)))⟩
    have h2 : howV [a, b] = 1 := by
      simp only [howV]
      rw [if_neg (by simp [hh.2]; omega), if_neg (by omega)]
    have h1 : howV [a] = 1 := by
      simp only [howV]
      rw [if_neg (by omega), if_neg (by omega)]
    simp only [List.cons_append, List.nil_append] at hw ⊢
    simp [scanV, hw, h1, h2, h3]
  | _ :: _ :: _ :: _ :: _, hp =>
    have := howV_one_len (b := _ :: _ :: _ :: _ :: _) (by simpa using hp)
    simp at this
set_option maxHeartbeats 4000000 in
set_option maxRecDepth 100000 in
theorem rbytes_utf8 (base q k : Nat) (S : Nat → Prop) (s : RV) (x how : Int) (w : World) (h : RefAt w base S q s) (hx : 0 ≤ x ∧ x ≤ 255) (hlB : s.B.length ≤ 3) (hH : orthoepyref02_How.f k (s.B ++ [x]) = some how) (hz : how = 0) :
    Calls Try.prog 48 #[.pointer (some ⟨q, 0, none⟩), .int .u8 x] w fun e w' => e = .returned (.int .i64 4) ∧ Keeps (fun _ => False) w w' ∧ RefAt w' base S q s := by
  obtain ⟨A0, c0, A1, c1, A2, c2, h1, h2, h3, h4⟩ := h.row
  have k1 : w.cell? ⟨q, 1, none⟩ = some (.slice A1 s.B.length c1) := (blk_cell h1 1).trans rfl
  obtain ⟨Z, hZ⟩ : ∃ Z, s.B ++ [x] = Z := ⟨_, rfl⟩
  rw [hZ] at hH
  have t0 : (how == 0) = true := beq_iff_eq.mpr hz
  have HZ := Aside0.mk hZ
  have HH := Aside0.mk hH
  have hb := h.base_.1
  have H1 := Aside0.mk h1
  have H2 := Aside0.mk h2
  have H3 := Aside0.mk h3
  have H4 := Aside0.mk h4
  have H := Aside0.mk h
  have hlt := h.lt
  clear h h1 h2 h3 h4 hZ hH hz
  go_enter Try.func48, Try.ntmps48
  go_wp2_with (first
    | ((with_reducible refine gate_builtin (b := .append) (xs := #[.tmp 10, .tmp 14]) rfl ?_); at_builtin; refine app_row (Value.int .u8) (0 : Int) base rfl (.tmp 10) (.tmp 14) 32 5 (.int .u8 0) 1 rfl Try.underlying32 info5 rfl (by decide) (.slice (some ⟨w.heap.size, 0, none⟩) 0 0) [] s.B s.B rfl A1 s.B.length c1 (fun k => w.heap.size ≤ k) rfl rfl (Kd.R_of_own (own_lit w base 5 .u8 [] hb (by simp)) (fun k hk => by simp [Value.ownBlock] at hk; omega)) (Kd.C_alloc (Kd.R_reads' H3.out).2.2 _) (by simp; omega) (by simp; omega) ?_; intro B1 d1 w1 hr1 hk1; have HR1 := Aside0.mk hr1; have HK1 := Aside0.mk (((Keeps.refl (fun _ => False) w).alloc _).trans hk1 (fun k hk => .inr (by simp [Value.ownBlock] at hk; omega))); clear hr1 hk1)
    | ((with_reducible refine gate_builtin (b := .append) (xs := #[.tmp 15, .tmp 17]) rfl ?_); at_builtin; refine app_row (Value.int .u8) (0 : Int) base rfl (.tmp 15) (.tmp 17) 32 5 (.int .u8 0) 1 rfl Try.underlying32 info5 rfl (by decide) (.slice B1 s.B.length d1) s.B [x] Z HZ.out (some ⟨w1.heap.size, 0, none⟩) 1 1 (fun k => w.heap.size ≤ k) rfl rfl (Kd.R_alloc (Kd.R_mono HR1.out (fun k hk => hk.elim id (fun hn => by have := hn.1; simp at this; omega))) _) (C_one (Value.int .u8) 0 w1 5 x) (by have := HK1.out.size; simp; omega) (by simp; omega) ?_; intro B2 d2 w2 hr2 hk2; have HR2 := Aside0.mk (Kd.R_mono (Kd.R_bound hr2) (ok' := fun k => w.heap.size ≤ k ∧ k < w2.heap.size) (fun k hk => ⟨hk.1.elim id (fun hn => by have h1 := hn.1; have h2 := HK1.out.size; simp at h1; omega), hk.2.2.1⟩)); have HK2 := Aside0.mk ((HK1.out.alloc _).trans hk2 (fun k hk => .inr (HR1.out.1 k hk.symm |>.elim id (fun hn => by have := hn.1; simp at this; omega)))); have HB2 := Aside0.mk (HK2.out.blk H1.out id); have j1 : w2.cell? ⟨q, 1, none⟩ = some (.slice A1 s.B.length c1) := (blk_cell HB2.out 1).trans rfl; have j4 : w2.cell? ⟨q, 4, none⟩ = some (.int .u16 s.Wait) := (blk_cell HB2.out 4).trans rfl; have j0 : w2.cell? ⟨q, 0, none⟩ = some (.slice A0 s.Out.length c0) := (blk_cell HB2.out 0).trans rfl; have g1 := blk_frozen HB2.out 1; clear hr2 hk2)
    | (go_at_call 65; refine (orthoepyref02_How.calls k B2 d2 Z how _ (Kd.R_reads' HR2.out).2.2 (Kd.R_reads' HR2.out).2.1 HH.out).mono ?_; rintro e w3 ⟨rfl, hd⟩; obtain ⟨nd, hd⟩ := hd.out; subst hd))
  go_ret
  have fin : ∀ n, Keeps (fun _ => False) w (w2.drewN n) ∧ RefAt (w2.drewN n) base S q s := fun n => ⟨HK2.out.drewN n, H.out.keep (HK2.out.drewN n) id (fun _ _ => id)⟩
  exact ⟨rfl, (fin _).1, (fin _).2⟩
set_option maxHeartbeats 4000000 in
set_option maxRecDepth 100000 in
theorem rbytes_wait (base q k : Nat) (S : Nat → Prop) (s : RV) (x how : Int) (w : World) (h : RefAt w base S q s) (hx : 0 ≤ x ∧ x ≤ 255) (hlB : s.B.length ≤ 3) (hH : orthoepyref02_How.f k (s.B ++ [x]) = some how) (hz : how ≠ 0) (hwt : 0 < s.Wait) :
    Calls Try.prog 48 #[.pointer (some ⟨q, 0, none⟩), .int .u8 x] w fun e w' => e = .returned (.int .i64 5) ∧ Keeps (fun _ => False) w w' ∧ RefAt w' base S q s := by
  obtain ⟨A0, c0, A1, c1, A2, c2, h1, h2, h3, h4⟩ := h.row
  have k1 : w.cell? ⟨q, 1, none⟩ = some (.slice A1 s.B.length c1) := (blk_cell h1 1).trans rfl
  obtain ⟨Z, hZ⟩ : ∃ Z, s.B ++ [x] = Z := ⟨_, rfl⟩
  rw [hZ] at hH
  have t0 : (how == 0) = false := beq_f hz
  have t4 : decide (0 < s.Wait) = true := decide_eq_true hwt
  have HZ := Aside0.mk hZ
  have HH := Aside0.mk hH
  have hb := h.base_.1
  have H1 := Aside0.mk h1
  have H2 := Aside0.mk h2
  have H3 := Aside0.mk h3
  have H4 := Aside0.mk h4
  have H := Aside0.mk h
  have hlt := h.lt
  clear h h1 h2 h3 h4 hZ hH hz hwt
  go_enter Try.func48, Try.ntmps48
  go_wp2_with (first
    | ((with_reducible refine gate_builtin (b := .append) (xs := #[.tmp 10, .tmp 14]) rfl ?_); at_builtin; refine app_row (Value.int .u8) (0 : Int) base rfl (.tmp 10) (.tmp 14) 32 5 (.int .u8 0) 1 rfl Try.underlying32 info5 rfl (by decide) (.slice (some ⟨w.heap.size, 0, none⟩) 0 0) [] s.B s.B rfl A1 s.B.length c1 (fun k => w.heap.size ≤ k) rfl rfl (Kd.R_of_own (own_lit w base 5 .u8 [] hb (by simp)) (fun k hk => by simp [Value.ownBlock] at hk; omega)) (Kd.C_alloc (Kd.R_reads' H3.out).2.2 _) (by simp; omega) (by simp; omega) ?_; intro B1 d1 w1 hr1 hk1; have HR1 := Aside0.mk hr1; have HK1 := Aside0.mk (((Keeps.refl (fun _ => False) w).alloc _).trans hk1 (fun k hk => .inr (by simp [Value.ownBlock] at hk; omega))); clear hr1 hk1)
    | ((with_reducible refine gate_builtin (b := .append) (xs := #[.tmp 15, .tmp 17]) rfl ?_); at_builtin; refine app_row (Value.int .u8) (0 : Int) base rfl (.tmp 15) (.tmp 17) 32 5 (.int .u8 0) 1 rfl Try.underlying32 info5 rfl (by decide) (.slice B1 s.B.length d1) s.B [x] Z HZ.out (some ⟨w1.heap.size, 0, none⟩) 1 1 (fun k => w.heap.size ≤ k) rfl rfl (Kd.R_alloc (Kd.R_mono HR1.out (fun k hk => hk.elim id (fun hn => by have := hn.1; simp at this; omega))) _) (C_one (Value.int .u8) 0 w1 5 x) (by have := HK1.out.size; simp; omega) (by simp; omega) ?_; intro B2 d2 w2 hr2 hk2; have HR2 := Aside0.mk (Kd.R_mono (Kd.R_bound hr2) (ok' := fun k => w.heap.size ≤ k ∧ k < w2.heap.size) (fun k hk => ⟨hk.1.elim id (fun hn => by have h1 := hn.1; have h2 := HK1.out.size; simp at h1; omega), hk.2.2.1⟩)); have HK2 := Aside0.mk ((HK1.out.alloc _).trans hk2 (fun k hk => .inr (HR1.out.1 k hk.symm |>.elim id (fun hn => by have := hn.1; simp at this; omega)))); have HB2 := Aside0.mk (HK2.out.blk H1.out id); have j1 : w2.cell? ⟨q, 1, none⟩ = some (.slice A1 s.B.length c1) := (blk_cell HB2.out 1).trans rfl; have j4 : w2.cell? ⟨q, 4, none⟩ = some (.int .u16 s.Wait) := (blk_cell HB2.out 4).trans rfl; have j0 : w2.cell? ⟨q, 0, none⟩ = some (.slice A0 s.Out.length c0) := (blk_cell HB2.out 0).trans rfl; have g1 := blk_frozen HB2.out 1; clear hr2 hk2)
    | (go_at_call 65; refine (orthoepyref02_How.calls k B2 d2 Z how _ (Kd.R_reads' HR2.out).2.2 (Kd.R_reads' HR2.out).2.1 HH.out).mono ?_; rintro e w3 ⟨rfl, hd⟩; obtain ⟨nd, hd⟩ := hd.out; subst hd))
  go_ret
  have fin : ∀ n, Keeps (fun _ => False) w (w2.drewN n) ∧ RefAt (w2.drewN n) base S q s := fun n => ⟨HK2.out.drewN n, H.out.keep (HK2.out.drewN n) id (fun _ _ => id)⟩
  exact ⟨rfl, (fin _).1, (fin _).2⟩
set_option maxHeartbeats 4000000 in
set_option maxRecDepth 100000 in
theorem rbytes_begun (base q k : Nat) (S : Nat → Prop) (s : RV) (x how : Int) (w : World) (h : RefAt w base S q s) (hx : 0 ≤ x ∧ x ≤ 255) (hlB : s.B.length ≤ 3) (hH : orthoepyref02_How.f k (s.B ++ [x]) = some how) (hz : how = 1) (hwt : s.Wait = 0) :
    Calls Try.prog 48 #[.pointer (some ⟨q, 0, none⟩), .int .u8 x] w fun e w' => e = .returned (.int .i64 0) ∧ Keeps (MineR S q) w w' ∧ RefAt w' base (More S w w') q { s with B := s.B ++ [x] } := by
  obtain ⟨A0, c0, A1, c1, A2, c2, h1, h2, h3, h4⟩ := h.row
  have k1 : w.cell? ⟨q, 1, none⟩ = some (.slice A1 s.B.length c1) := (blk_cell h1 1).trans rfl
  obtain ⟨Z, hZ⟩ : ∃ Z, s.B ++ [x] = Z := ⟨_, rfl⟩
  rw [hZ] at hH
  have t0 : (how == 0) = false := by rw [hz]; rfl
  have t1 : (how == 1) = true := beq_iff_eq.mpr hz
  have t4 : decide (0 < s.Wait) = false := decide_eq_false (by omega)
  have HZ := Aside0.mk hZ
  have HH := Aside0.mk hH
  have hb := h.base_.1
  have H1 := Aside0.mk h1
  have H2 := Aside0.mk h2
  have H3 := Aside0.mk h3
  have H4 := Aside0.mk h4
  have H := Aside0.mk h
  have hlt := h.lt
  clear h h1 h2 h3 h4 hZ hH hz hwt
  go_enter Try.func48, Try.ntmps48
  go_wp2_with (first
    | ((with_reducible refine gate_builtin (b := .append) (xs := #[.tmp 10, .tmp 14]) rfl ?_); at_builtin; refine app_row (Value.int .u8) (0 : Int) base rfl (.tmp 10) (.tmp 14) 32 5 (.int .u8 0) 1 rfl Try.underlying32 info5 rfl (by decide) (.slice (some ⟨w.heap.size, 0, none⟩) 0 0) [] s.B s.B rfl A1 s.B.length c1 (fun k => w.heap.size ≤ k) rfl rfl (Kd.R_of_own (own_lit w base 5 .u8 [] hb (by simp)) (fun k hk => by simp [Value.ownBlock] at hk; omega)) (Kd.C_alloc (Kd.R_reads' H3.out).2.2 _) (by simp; omega) (by simp; omega) ?_; intro B1 d1 w1 hr1 hk1; have HR1 := Aside0.mk hr1; have HK1 := Aside0.mk (((Keeps.refl (fun _ => False) w).alloc _).trans hk1 (fun k hk => .inr (by simp [Value.ownBlock] at hk; omega))); clear hr1 hk1)
    | ((with_reducible refine gate_builtin (b := .append) (xs := #[.tmp 15, .tmp 17]) rfl ?_); at_builtin; refine app_row (Value.int .u8) (0 : Int) base rfl (.tmp 15) (.tmp 17) 32 5 (.int .u8 0) 1 rfl Try.underlying32 info5 rfl (by decide) (.slice B1 s.B.length d1) s.B [x] Z HZ.out (some ⟨w1.heap.size, 0, none⟩) 1 1 (fun k => w.heap.size ≤ k) rfl rfl (Kd.R_alloc (Kd.R_mono HR1.out (fun k hk => hk.elim id (fun hn => by have := hn.1; simp at this; omega))) _) (C_one (Value.int .u8) 0 w1 5 x) (by have := HK1.out.size; simp; omega) (by simp; omega) ?_; intro B2 d2 w2 hr2 hk2; have HR2 := Aside0.mk (Kd.R_mono (Kd.R_bound hr2) (ok' := fun k => w.heap.size ≤ k ∧ k < w2.heap.size) (fun k hk => ⟨hk.1.elim id (fun hn => by have h1 := hn.1; have h2 := HK1.out.size; simp at h1; omega), hk.2.2.1⟩)); have HK2 := Aside0.mk ((HK1.out.alloc _).trans hk2 (fun k hk => .inr (HR1.out.1 k hk.symm |>.elim id (fun hn => by have := hn.1; simp at this; omega)))); have HB2 := Aside0.mk (HK2.out.blk H1.out id); have j1 : w2.cell? ⟨q, 1, none⟩ = some (.slice A1 s.B.length c1) := (blk_cell HB2.out 1).trans rfl; have j4 : w2.cell? ⟨q, 4, none⟩ = some (.int .u16 s.Wait) := (blk_cell HB2.out 4).trans rfl; have j0 : w2.cell? ⟨q, 0, none⟩ = some (.slice A0 s.Out.length c0) := (blk_cell HB2.out 0).trans rfl; have g1 := blk_frozen HB2.out 1; clear hr2 hk2)
    | (go_at_call 65; refine (orthoepyref02_How.calls k B2 d2 Z how _ (Kd.R_reads' HR2.out).2.2 (Kd.R_reads' HR2.out).2.1 HH.out).mono ?_; rintro e w3 ⟨rfl, hd⟩; obtain ⟨nd, hd⟩ := hd.out; subst hd))
  go_ret
  have fin : ∀ n, Keeps (MineR S q) w ((w2.drewN n).setCell ⟨q, 1, none⟩ (.slice B2 Z.length d2)) ∧ RefAt ((w2.drewN n).setCell ⟨q, 1, none⟩ (.slice B2 Z.length d2)) base (More S w ((w2.drewN n).setCell ⟨q, 1, none⟩ (.slice B2 Z.length d2))) q { s with B := s.B ++ [x] } := fun n => by
    have hk0 := ((Keeps.refl (fun k => k = q) w2).drewN n).at_ rfl 1 (.slice B2 Z.length d2)
    have hk : Keeps (fun k => k = q) w _ := (HK2.out.mono (fun _ h => h.elim)).trans hk0 (fun _ h => .inl h)
    have hq : ∀ k, S k → ¬ k = q := H.out.ne
    refine ⟨hk.mono (fun _ h => .inl h), ⟨⟨A0, c0, B2, d2, A2, c2, ?_, Kd.R_mono (hk.R H2.out hq) (fun _ h => .inl h), ?_, Kd.R_mono (hk.R H4.out hq) (fun _ h => .inl h)⟩, more_ne1 H.out.ne hlt, ⟨Nat.le_trans hb hk.size, H.out.base_.2⟩, more_lt H.out.slt hk.size⟩⟩
    · simp only [RV.cells, HZ.out]
      exact (blk_set (blk_drewN HB2.out n) 1 _).trans rfl
    · simp only [HZ.out]
      exact Kd.R_mono (hk0.R HR2.out (fun k hh => by have := hh.1; omega)) (fun k hh => .inr ⟨hh.1, Nat.lt_of_lt_of_le hh.2 hk0.size⟩)
  exact ⟨rfl, (fin _).1, (fin _).2⟩
set_option maxHeartbeats 4000000 in
set_option maxRecDepth 100000 in
theorem rbytes_non (base q k : Nat) (S : Nat → Prop) (s : RV) (x how c nn : Int) (w : World) (h : RefAt w base S q s) (hx : 0 ≤ x ∧ x ≤ 255) (hlB : s.B.length ≤ 3) (hH : orthoepyref02_How.f k (s.B ++ [x]) = some how) (hz : how = 2) (hwt : s.Wait = 0) (hfi : orthoepyref02_First.f k (s.B ++ [x]) = some (c, nn, true)) (hn : orthoepyref01_Nonchar.f c = some true) :
    Calls Try.prog 48 #[.pointer (some ⟨q, 0, none⟩), .int .u8 x] w fun e w' => e = .returned (.int .i64 6) ∧ Keeps (fun _ => False) w w' ∧ RefAt w' base S q s := by
  obtain ⟨A0, c0, A1, c1, A2, c2, h1, h2, h3, h4⟩ := h.row
  have k1 : w.cell? ⟨q, 1, none⟩ = some (.slice A1 s.B.length c1) := (blk_cell h1 1).trans rfl
  obtain ⟨Z, hZ⟩ : ∃ Z, s.B ++ [x] = Z := ⟨_, rfl⟩
  rw [hZ] at hH
  have t0 : (how == 0) = false := by rw [hz]; rfl
  have t1 : (how == 1) = false := by rw [hz]; rfl
  have t4 : decide (0 < s.Wait) = false := decide_eq_false (by omega)
  rw [hZ] at hfi
  have HFI := Aside0.mk hfi
  have HN := Aside0.mk hn
  have HZ := Aside0.mk hZ
  have HH := Aside0.mk hH
  have hb := h.base_.1
  have H1 := Aside0.mk h1
  have H2 := Aside0.mk h2
  have H3 := Aside0.mk h3
  have H4 := Aside0.mk h4
  have H := Aside0.mk h
  have hlt := h.lt
  clear h h1 h2 h3 h4 hZ hH hz hwt hfi hn
  go_enter Try.func48, Try.ntmps48
  go_wp2_with (first
    | ((with_reducible refine gate_builtin (b := .append) (xs := #[.tmp 10, .tmp 14]) rfl ?_); at_builtin; refine app_row (Value.int .u8) (0 : Int) base rfl (.tmp 10) (.tmp 14) 32 5 (.int .u8 0) 1 rfl Try.underlying32 info5 rfl (by decide) (.slice (some ⟨w.heap.size, 0, none⟩) 0 0) [] s.B s.B rfl A1 s.B.length c1 (fun k => w.heap.size ≤ k) rfl rfl (Kd.R_of_own (own_lit w base 5 .u8 [] hb (by simp)) (fun k hk => by simp [Value.ownBlock] at hk; omega)) (Kd.C_alloc (Kd.R_reads' H3.out).2.2 _) (by simp; omega) (by simp; omega) ?_; intro B1 d1 w1 hr1 hk1; have HR1 := Aside0.mk hr1; have HK1 := Aside0.mk (((Keeps.refl (fun _ => False) w).alloc _).trans hk1 (fun k hk => .inr (by simp [Value.ownBlock] at hk; omega))); clear hr1 hk1)
    | ((with_reducible refine gate_builtin (b := .append) (xs := #[.tmp 15, .tmp 17]) rfl ?_); at_builtin; refine app_row (Value.int .u8) (0 : Int) base rfl (.tmp 15) (.tmp 17) 32 5 (.int .u8 0) 1 rfl Try.underlying32 info5 rfl (by decide) (.slice B1 s.B.length d1) s.B [x] Z HZ.out (some ⟨w1.heap.size, 0, none⟩) 1 1 (fun k => w.heap.size ≤ k) rfl rfl (Kd.R_alloc (Kd.R_mono HR1.out (fun k hk => hk.elim id (fun hn => by have := hn.1; simp at this; omega))) _) (C_one (Value.int .u8) 0 w1 5 x) (by have := HK1.out.size; simp; omega) (by simp; omega) ?_; intro B2 d2 w2 hr2 hk2; have HR2 := Aside0.mk (Kd.R_mono (Kd.R_bound hr2) (ok' := fun k => w.heap.size ≤ k ∧ k < w2.heap.size) (fun k hk => ⟨hk.1.elim id (fun hn => by have h1 := hn.1; have h2 := HK1.out.size; simp at h1; omega), hk.2.2.1⟩)); have HK2 := Aside0.mk ((HK1.out.alloc _).trans hk2 (fun k hk => .inr (HR1.out.1 k hk.symm |>.elim id (fun hn => by have := hn.1; simp at this; omega)))); have HB2 := Aside0.mk (HK2.out.blk H1.out id); have j1 : w2.cell? ⟨q, 1, none⟩ = some (.slice A1 s.B.length c1) := (blk_cell HB2.out 1).trans rfl; have j4 : w2.cell? ⟨q, 4, none⟩ = some (.int .u16 s.Wait) := (blk_cell HB2.out 4).trans rfl; have j0 : w2.cell? ⟨q, 0, none⟩ = some (.slice A0 s.Out.length c0) := (blk_cell HB2.out 0).trans rfl; have g1 := blk_frozen HB2.out 1; clear hr2 hk2)
    | (go_at_call 65; refine (orthoepyref02_How.calls k B2 d2 Z how _ (Kd.R_reads' HR2.out).2.2 (Kd.R_reads' HR2.out).2.1 HH.out).mono ?_; rintro e w3 ⟨rfl, hd⟩; obtain ⟨nd, hd⟩ := hd.out; subst hd)
    | (go_at_call 49; refine (orthoepyref02_First.calls k B2 d2 Z c nn true _ (Kd.C_drewN (Kd.R_reads' HR2.out).2.2 _) (Kd.R_reads' HR2.out).2.1 HFI.out).mono ?_; rintro e w4 ⟨rfl, hd⟩; obtain ⟨nf, hd⟩ := hd.out; subst hd)
    | (go_at_call 19; refine (orthoepyref01_Nonchar.calls c true _ HN.out).mono ?_; rintro e w5 ⟨rfl, hd⟩; obtain ⟨ng, hd⟩ := hd.out; subst hd))
  go_ret
  have fin : ∀ n, Keeps (fun _ => False) w (w2.drewN n) ∧ RefAt (w2.drewN n) base S q s := fun n => ⟨HK2.out.drewN n, H.out.keep (HK2.out.drewN n) id (fun _ _ => id)⟩
  exact ⟨rfl, (fin _).1, (fin _).2⟩
set_option maxHeartbeats 4000000 in
set_option maxRecDepth 100000 in
theorem rbytes_say (base q k : Nat) (S : Nat → Prop) (s : RV) (x how c nn : Int) (w : World) (h : RefAt w base S q s) (hx : 0 ≤ x ∧ x ≤ 255) (hlB : s.B.length ≤ 3) (hH : orthoepyref02_How.f k (s.B ++ [x]) = some how) (hz : how = 2) (hwt : s.Wait = 0) (hfi : orthoepyref02_First.f k (s.B ++ [x]) = some (c, nn, true)) (hn : orthoepyref01_Nonchar.f c = some false) (hl : s.Out.length ≤ 1000000) :
    Calls Try.prog 48 #[.pointer (some ⟨q, 0, none⟩), .int .u8 x] w fun e w' => e = .returned (.int .i64 0) ∧ Keeps (MineR S q) w w' ∧ RefAt w' base (More S w w') q { s.say c with B := [] } := by
  obtain ⟨A0, c0, A1, c1, A2, c2, h1, h2, h3, h4⟩ := h.row
  have k1 : w.cell? ⟨q, 1, none⟩ = some (.slice A1 s.B.length c1) := (blk_cell h1 1).trans rfl
  obtain ⟨Z, hZ⟩ : ∃ Z, s.B ++ [x] = Z := ⟨_, rfl⟩
  rw [hZ] at hH
  have t0 : (how == 0) = false := by rw [hz]; rfl
  have t1 : (how == 1) = false := by rw [hz]; rfl
  have t4 : decide (0 < s.Wait) = false := decide_eq_false (by omega)
  rw [hZ] at hfi
  have HFI := Aside0.mk hfi
  have HN := Aside0.mk hn
  obtain ⟨Y, hY⟩ : ∃ Y, s.Out ++ [c] = Y := ⟨_, rfl⟩
  have HY := Aside0.mk hY
  have HZ := Aside0.mk hZ
  have HH := Aside0.mk hH
  have hb := h.base_.1
  have H1 := Aside0.mk h1
  have H2 := Aside0.mk h2
  have H3 := Aside0.mk h3
  have H4 := Aside0.mk h4
  have H := Aside0.mk h
  have hlt := h.lt
  clear h h1 h2 h3 h4 hZ hH hz hwt hfi hn hY
  go_enter Try.func48, Try.ntmps48
  go_wp2_with (first
    | ((with_reducible refine gate_builtin (b := .append) (xs := #[.tmp 10, .tmp 14]) rfl ?_); at_builtin; refine app_row (Value.int .u8) (0 : Int) base rfl (.tmp 10) (.tmp 14) 32 5 (.int .u8 0) 1 rfl Try.underlying32 info5 rfl (by decide) (.slice (some ⟨w.heap.size, 0, none⟩) 0 0) [] s.B s.B rfl A1 s.B.length c1 (fun k => w.heap.size ≤ k) rfl rfl (Kd.R_of_own (own_lit w base 5 .u8 [] hb (by simp)) (fun k hk => by simp [Value.ownBlock] at hk; omega)) (Kd.C_alloc (Kd.R_reads' H3.out).2.2 _) (by simp; omega) (by simp; omega) ?_; intro B1 d1 w1 hr1 hk1; have HR1 := Aside0.mk hr1; have HK1 := Aside0.mk (((Keeps.refl (fun _ => False) w).alloc _).trans hk1 (fun k hk => .inr (by simp [Value.ownBlock] at hk; omega))); clear hr1 hk1)
    | ((with_reducible refine gate_builtin (b := .append) (xs := #[.tmp 15, .tmp 17]) rfl ?_); at_builtin; refine app_row (Value.int .u8) (0 : Int) base rfl (.tmp 15) (.tmp 17) 32 5 (.int .u8 0) 1 rfl Try.underlying32 info5 rfl (by decide) (.slice B1 s.B.length d1) s.B [x] Z HZ.out (some ⟨w1.heap.size, 0, none⟩) 1 1 (fun k => w.heap.size ≤ k) rfl rfl (Kd.R_alloc (Kd.R_mono HR1.out (fun k hk => hk.elim id (fun hn => by have := hn.1; simp at this; omega))) _) (C_one (Value.int .u8) 0 w1 5 x) (by have := HK1.out.size; simp; omega) (by simp; omega) ?_; intro B2 d2 w2 hr2 hk2; have HR2 := Aside0.mk (Kd.R_mono (Kd.R_bound hr2) (ok' := fun k => w.heap.size ≤ k ∧ k < w2.heap.size) (fun k hk => ⟨hk.1.elim id (fun hn => by have h1 := hn.1; have h2 := HK1.out.size; simp at h1; omega), hk.2.2.1⟩)); have HK2 := Aside0.mk ((HK1.out.alloc _).trans hk2 (fun k hk => .inr (HR1.out.1 k hk.symm |>.elim id (fun hn => by have := hn.1; simp at this; omega)))); have HB2 := Aside0.mk (HK2.out.blk H1.out id); have j1 : w2.cell? ⟨q, 1, none⟩ = some (.slice A1 s.B.length c1) := (blk_cell HB2.out 1).trans rfl; have j4 : w2.cell? ⟨q, 4, none⟩ = some (.int .u16 s.Wait) := (blk_cell HB2.out 4).trans rfl; have j0 : w2.cell? ⟨q, 0, none⟩ = some (.slice A0 s.Out.length c0) := (blk_cell HB2.out 0).trans rfl; have g1 := blk_frozen HB2.out 1; clear hr2 hk2)
    | (go_at_call 65; refine (orthoepyref02_How.calls k B2 d2 Z how _ (Kd.R_reads' HR2.out).2.2 (Kd.R_reads' HR2.out).2.1 HH.out).mono ?_; rintro e w3 ⟨rfl, hd⟩; obtain ⟨nd, hd⟩ := hd.out; subst hd)
    | (go_at_call 49; refine (orthoepyref02_First.calls k B2 d2 Z c nn true _ (Kd.C_drewN (Kd.R_reads' HR2.out).2.2 _) (Kd.R_reads' HR2.out).2.1 HFI.out).mono ?_; rintro e w4 ⟨rfl, hd⟩; obtain ⟨nf, hd⟩ := hd.out; subst hd)
    | (go_at_call 19; refine (orthoepyref01_Nonchar.calls c false _ HN.out).mono ?_; rintro e w5 ⟨rfl, hd⟩; obtain ⟨ng, hd⟩ := hd.out; subst hd)
    | ((with_reducible refine gate_builtin (b := .append) (xs := #[.tmp 47, .tmp 49]) rfl ?_); at_builtin; refine app_row (Value.int .i32) (0 : Int) base rfl (.tmp 47) (.tmp 49) 30 21 (.int .i32 0) 4 rfl Try.underlying30 info21 rfl (by decide) (.slice A0 s.Out.length c0) s.Out [c] Y HY.out (some ⟨w2.heap.size, 0, none⟩) 1 1 S rfl rfl (Kd.R_alloc (Kd.R_drewN (HK2.out.R H2.out (fun _ _ => id)) _) _) (C_one (Value.int .i32) 0 (w2.drewN _) 21 c) (by have := HK2.out.size; simp; omega) (by omega) ?_; intro A3 c3 w6 hr6 hk6; have hsd := said_at H.out H1.out H2.out H3.out H4.out ((HK2.out.drewN _).alloc _) hr6 hk6; have g0 := blk_frozen hsd.2.1 0; have g1' := blk_frozen hsd.2.1 1; have e1 : w6.cell? ⟨q, 1, none⟩ = some (.slice A1 s.B.length c1) := (blk_cell hsd.2.1 1).trans rfl; have e0 : w6.cell? ⟨q, 0, none⟩ = some (.slice A0 s.Out.length c0) := (blk_cell hsd.2.1 0).trans rfl; have HS := Aside0.mk hsd; clear hsd hr6 hk6))
  go_ret
  have hk := (((Keeps.refl (fun k => k = q) w6).at_ rfl 0 (.slice A3 Y.length c3)).at_ rfl 1 (.slice none 0 0))
  have hK : Keeps (MineR S q) w _ := HS.out.1.trans hk (fun k h => .inl (.inl h))
  have hm : ∀ k, More S w w6 k → More S w ((w6.setCell ⟨q, 0, none⟩ (.slice A3 Y.length c3)).setCell ⟨q, 1, none⟩ (.slice none 0 0)) k := by
    rintro k (h | h)
    · exact .inl h
    · exact .inr ⟨h.1, Nat.lt_of_lt_of_le h.2 hk.size⟩
  have hq := more_ne1 (W := w6) H.out.ne hlt
  refine ⟨rfl, hK, ⟨⟨A3, c3, none, 0, A2, c2, ?_, ?_, Kd.R_nil _ _ _ _ _, Kd.R_mono (hk.R HS.out.2.2.2.2 hq) hm⟩, more_ne1 H.out.ne hlt, ⟨Nat.le_trans hb hK.size, H.out.base_.2⟩, more_lt H.out.slt hK.size⟩⟩
  · simp only [RV.say, RV.cells, HY.out]
    exact (blk_set (blk_set HS.out.2.1 0 _) 1 _).trans rfl
  · simp only [RV.say, HY.out]
    exact Kd.R_mono (hk.R HS.out.2.2.1 hq) hm

/-! ### One more digit of an escape -/
theorem infoInt : (Try.prog.info? 3).map (fun i => (i.zero, i.size, i.bytes)) = some (some (.int .i64 0), 1, 8) := by kernel_rfl
set_option maxHeartbeats 4000000 in
set_option maxRecDepth 100000 in
theorem rdig_1hn (base q : Nat) (S : Nat → Prop) (Out B : List Int) (Esc : Int) (Over : Bool) (x a wt: Int) (w : World) (h : RefAt w base S q ⟨Out, B, Esc, [], wt, Over⟩) (hx : 0 ≤ x ∧ x ≤ 255) (hv : hexV x = a) (hr : 0 ≤ a ∧ a ≤ 15) (ea : a ≠ 13) (hw : 0 < wt) :
    Calls Try.prog 46 #[.pointer (some ⟨q, 0, none⟩), .int .u8 x] w fun e w' => e = .returned (.int .i64 5) ∧ Keeps (fun _ => False) w w' ∧ RefAt w' base S q ⟨Out, B, Esc, [], wt, Over⟩ := by
  obtain ⟨A0, c0, A1, c1, A2, c2, h1, h2, h3, h4⟩ := h.row
  simp only [RV.cells, List.length_cons, List.length_nil, Nat.zero_add, Nat.reduceAdd] at h1 h2 h3 h4
  have hh := hex_val x hx.1 hx.2
  rw [hv] at hh
  have k3 : w.cell? ⟨q, 3, none⟩ = some (.slice A2 0 c2) := (blk_cell h1 3).trans rfl
  have ta : (a == 13) = false := beq_f ea
  have ta' : (a != 13) = true := bne_t ea
  have tw : decide (0 < wt) = true := decide_eq_true hw
  have tw2 : (wt == 0) = false := beq_f (by omega)
  have HHx := Aside0.mk hh
  have hb := h.base_.1
  have H1 := Aside0.mk h1
  have H2 := Aside0.mk h2
  have H3 := Aside0.mk h3
  have H4 := Aside0.mk h4
  have H := Aside0.mk h
  have hlt := h.lt
  clear h h1 h2 h3 h4 hh hv ea hw
  go_enter Try.func46, Try.ntmps46
  go_wp2_with (first
    | (go_at_call 61; refine (orthoepyref12_hex.calls 12 x a _ HHx.out).mono ?_; rintro e w0 ⟨rfl, hd⟩; obtain ⟨na, hd⟩ := hd.out; subst hd; have k3' : ((w.drewN na).alloc (.cells #[] 3)).cell? ⟨q, 3, none⟩ = some (.slice A2 0 c2) := (World.cell?_alloc_past _ _ _ hlt).trans k3)
    | ((with_reducible refine gate_builtin (b := .append) (xs := #[.tmp 15, .tmp 19]) rfl ?_); at_builtin; refine app_row (Value.int .i64) (0 : Int) base rfl (.tmp 15) (.tmp 19) 29 3 (.int .i64 0) 8 rfl Try.underlying29 infoInt rfl (by decide) (.slice (some ⟨w.heap.size, 0, none⟩) 0 0) [] [] [] rfl A2 0 c2 (fun k => w.heap.size ≤ k) rfl rfl (Kd.R_of_own (own_lit (w.drewN na) base 3 .i64 [] hb (by simp)) (fun k hk => by simp [Value.ownBlock] at hk; omega)) (Kd.C_alloc (Kd.C_drewN (Kd.R_reads' H4.out).2.2 na) _) (by simp; omega) (by simp) ?_; intro B1 d1 w1 hr1 hk1; have HR1 := Aside0.mk hr1; have HK1 := Aside0.mk ((((Keeps.refl (fun _ => False) w).drewN na).alloc _).trans hk1 (fun k hk => .inr (by simp [Value.ownBlock] at hk; omega))); clear hr1 hk1)
    | ((with_reducible refine gate_builtin (b := .append) (xs := #[.tmp 20, .tmp 22]) rfl ?_); at_builtin; refine app_row (Value.int .i64) (0 : Int) base rfl (.tmp 20) (.tmp 22) 29 3 (.int .i64 0) 8 rfl Try.underlying29 infoInt rfl (by decide) (.slice B1 0 d1) [] [a] [a] rfl (some ⟨w1.heap.size, 0, none⟩) 1 1 (fun k => w.heap.size ≤ k) rfl rfl (Kd.R_alloc (Kd.R_mono HR1.out (fun k hk => hk.elim id (fun hn => by have := hn.1; simp at this; omega))) _) (C_one (Value.int .i64) 0 w1 3 a) (by have := HK1.out.size; simp; omega) (by simp) ?_; intro B2 d2 w2 hr2 hk2; have HR2 := Aside0.mk (Kd.R_mono (Kd.R_bound hr2) (ok' := fun k => w.heap.size ≤ k ∧ k < w2.heap.size) (fun k hk => ⟨hk.1.elim id (fun hn => by have h1 := hn.1; have h2 := HK1.out.size; simp at h1; omega), hk.2.2.1⟩)); have HK2 := Aside0.mk ((HK1.out.alloc _).trans hk2 (fun k hk => .inr (HR1.out.1 k hk.symm |>.elim id (fun hn => by have := hn.1; simp at this; omega)))); have HB2 := Aside0.mk (HK2.out.blk H1.out id); obtain ⟨g, dg, eg, _, _⟩ := (Kd.own_of_R HR2.out).form (by simp); injection eg with eg1 eg2 eg3; subst eg1; have z0 : w2.cell? ⟨g, 0, none⟩ = some (.int .i64 a) := (own_at (k := .i64) (xs := [a]) (Kd.own_of_R HR2.out) 0 (by omega) (by simp)).1; have j0 : w2.cell? ⟨q, 0, none⟩ = some (.slice A0 Out.length c0) := (blk_cell HB2.out 0).trans rfl; have j2 : w2.cell? ⟨q, 2, none⟩ = some (.int .i64 Esc) := (blk_cell HB2.out 2).trans rfl; have j3 : w2.cell? ⟨q, 3, none⟩ = some (.slice A2 0 c2) := (blk_cell HB2.out 3).trans rfl; have j4 : w2.cell? ⟨q, 4, none⟩ = some (.int .u16 wt) := (blk_cell HB2.out 4).trans rfl; have g0 := blk_frozen HB2.out 0; have g2 := blk_frozen HB2.out 2; have g3 := blk_frozen HB2.out 3; have g4 := blk_frozen HB2.out 4; clear hr2 hk2 eg2 eg3))
  go_ret
  have fin : ∀ n, Keeps (fun _ => False) w (w2.drewN n) ∧ RefAt (w2.drewN n) base S q ⟨Out, B, Esc, [], wt, Over⟩ := fun n => ⟨HK2.out.drewN n, H.out.keep (HK2.out.drewN n) id (fun _ _ => id)⟩
  exact ⟨rfl, (fin 0).1, (fin 0).2⟩
set_option maxHeartbeats 4000000 in
set_option maxRecDepth 100000 in
theorem rdig_1hy (base q : Nat) (S : Nat → Prop) (Out B : List Int) (Esc : Int) (Over : Bool) (x a wt: Int) (w : World) (h : RefAt w base S q ⟨Out, B, Esc, [], wt, Over⟩) (hx : 0 ≤ x ∧ x ≤ 255) (hv : hexV x = a) (hr : 0 ≤ a ∧ a ≤ 15) (ea : a = 13) (hw : 0 < wt) :
    Calls Try.prog 46 #[.pointer (some ⟨q, 0, none⟩), .int .u8 x] w fun e w' => e = .returned (.int .i64 0) ∧ Keeps (MineR S q) w w' ∧ RefAt w' base (More S w w') q ⟨Out, B, Esc, [a], wt, Over⟩ := by
  obtain ⟨A0, c0, A1, c1, A2, c2, h1, h2, h3, h4⟩ := h.row
  simp only [RV.cells, List.length_cons, List.length_nil, Nat.zero_add, Nat.reduceAdd] at h1 h2 h3 h4
  have hh := hex_val x hx.1 hx.2
  rw [hv] at hh
  have k3 : w.cell? ⟨q, 3, none⟩ = some (.slice A2 0 c2) := (blk_cell h1 3).trans rfl
  have ta : (a == 13) = true := beq_iff_eq.mpr ea
  have ta' : (a != 13) = false := by rw [ea]; rfl
  have tw : decide (0 < wt) = true := decide_eq_true hw
  have tw2 : (wt == 0) = false := beq_f (by omega)
  have HHx := Aside0.mk hh
  have hb := h.base_.1
  have H1 := Aside0.mk h1
  have H2 := Aside0.mk h2
  have H3 := Aside0.mk h3
  have H4 := Aside0.mk h4
  have H := Aside0.mk h
  have hlt := h.lt
  clear h h1 h2 h3 h4 hh hv ea hw
  go_enter Try.func46, Try.ntmps46
  go_wp2_with (first
    | (go_at_call 61; refine (orthoepyref12_hex.calls 12 x a _ HHx.out).mono ?_; rintro e w0 ⟨rfl, hd⟩; obtain ⟨na, hd⟩ := hd.out; subst hd; have k3' : ((w.drewN na).alloc (.cells #[] 3)).cell? ⟨q, 3, none⟩ = some (.slice A2 0 c2) := (World.cell?_alloc_past _ _ _ hlt).trans k3)
    | ((with_reducible refine gate_builtin (b := .append) (xs := #[.tmp 15, .tmp 19]) rfl ?_); at_builtin; refine app_row (Value.int .i64) (0 : Int) base rfl (.tmp 15) (.tmp 19) 29 3 (.int .i64 0) 8 rfl Try.underlying29 infoInt rfl (by decide) (.slice (some ⟨w.heap.size, 0, none⟩) 0 0) [] [] [] rfl A2 0 c2 (fun k => w.heap.size ≤ k) rfl rfl (Kd.R_of_own (own_lit (w.drewN na) base 3 .i64 [] hb (by simp)) (fun k hk => by simp [Value.ownBlock] at hk; omega)) (Kd.C_alloc (Kd.C_drewN (Kd.R_reads' H4.out).2.2 na) _) (by simp; omega) (by simp) ?_; intro B1 d1 w1 hr1 hk1; have HR1 := Aside0.mk hr1; have HK1 := Aside0.mk ((((Keeps.refl (fun _ => False) w).drewN na).alloc _).trans hk1 (fun k hk => .inr (by simp [Value.ownBlock] at hk; omega))); clear hr1 hk1)
    | ((with_reducible refine gate_builtin (b := .append) (xs := #[.tmp 20, .tmp 22]) rfl ?_); at_builtin; refine app_row (Value.int .i64) (0 : Int) base rfl (.tmp 20) (.tmp 22) 29 3 (.int .i64 0) 8 rfl Try.underlying29 infoInt rfl (by decide) (.slice B1 0 d1) [] [a] [a] rfl (some ⟨w1.heap.size, 0, none⟩) 1 1 (fun k => w.heap.size ≤ k) rfl rfl (Kd.R_alloc (Kd.R_mono HR1.out (fun k hk => hk.elim id (fun hn => by have := hn.1; simp at this; omega))) _) (C_one (Value.int .i64) 0 w1 3 a) (by have := HK1.out.size; simp; omega) (by simp) ?_; intro B2 d2 w2 hr2 hk2; have HR2 := Aside0.mk (Kd.R_mono (Kd.R_bound hr2) (ok' := fun k => w.heap.size ≤ k ∧ k < w2.heap.size) (fun k hk => ⟨hk.1.elim id (fun hn => by have h1 := hn.1; have h2 := HK1.out.size; simp at h1; omega), hk.2.2.1⟩)); have HK2 := Aside0.mk ((HK1.out.alloc _).trans hk2 (fun k hk => .inr (HR1.out.1 k hk.symm |>.elim id (fun hn => by have := hn.1; simp at this; omega)))); have HB2 := Aside0.mk (HK2.out.blk H1.out id); obtain ⟨g, dg, eg, _, _⟩ := (Kd.own_of_R HR2.out).form (by simp); injection eg with eg1 eg2 eg3; subst eg1; have z0 : w2.cell? ⟨g, 0, none⟩ = some (.int .i64 a) := (own_at (k := .i64) (xs := [a]) (Kd.own_of_R HR2.out) 0 (by omega) (by simp)).1; have j0 : w2.cell? ⟨q, 0, none⟩ = some (.slice A0 Out.length c0) := (blk_cell HB2.out 0).trans rfl; have j2 : w2.cell? ⟨q, 2, none⟩ = some (.int .i64 Esc) := (blk_cell HB2.out 2).trans rfl; have j3 : w2.cell? ⟨q, 3, none⟩ = some (.slice A2 0 c2) := (blk_cell HB2.out 3).trans rfl; have j4 : w2.cell? ⟨q, 4, none⟩ = some (.int .u16 wt) := (blk_cell HB2.out 4).trans rfl; have g0 := blk_frozen HB2.out 0; have g2 := blk_frozen HB2.out 2; have g3 := blk_frozen HB2.out 3; have g4 := blk_frozen HB2.out 4; clear hr2 hk2 eg2 eg3))
  go_ret
  have hk0 := ((Keeps.refl (fun k => k = q) w2).at_ rfl 3 (.slice (some ⟨g, 0, none⟩) 1 d2))
  have hk : Keeps (fun k => k = q) w _ := (HK2.out.mono (fun _ h => h.elim)).trans hk0 (fun _ h => .inl h)
  have hq : ∀ k, S k → ¬ k = q := H.out.ne
  refine ⟨rfl, hk.mono (fun _ h => .inl h), ⟨⟨A0, c0, A1, c1, some ⟨g, 0, none⟩, d2, (blk_set HB2.out 3 _).trans rfl, Kd.R_mono (hk.R H2.out hq) (fun _ h => .inl h), Kd.R_mono (hk.R H3.out hq) (fun _ h => .inl h), Kd.R_mono (hk0.R HR2.out (fun k hh => by have := hh.1; omega)) (fun k hh => .inr ⟨hh.1, Nat.lt_of_lt_of_le hh.2 hk0.size⟩)⟩, more_ne1 H.out.ne hlt, ⟨Nat.le_trans hb hk.size, H.out.base_.2⟩, more_lt H.out.slt hk.size⟩⟩
set_option maxHeartbeats 4000000 in
set_option maxRecDepth 100000 in
theorem rdig_1zs (base q : Nat) (S : Nat → Prop) (Out B : List Int) (Esc : Int) (Over : Bool) (x a wt: Int) (w : World) (h : RefAt w base S q ⟨Out, B, Esc, [], 0, Over⟩) (hx : 0 ≤ x ∧ x ≤ 255) (hv : hexV x = a) (hr : 0 ≤ a ∧ a ≤ 15)  :
    Calls Try.prog 46 #[.pointer (some ⟨q, 0, none⟩), .int .u8 x] w fun e w' => e = .returned (.int .i64 0) ∧ Keeps (MineR S q) w w' ∧ RefAt w' base (More S w w') q ⟨Out, B, Esc, [a], 0, Over⟩ := by
  obtain ⟨A0, c0, A1, c1, A2, c2, h1, h2, h3, h4⟩ := h.row
  simp only [RV.cells, List.length_cons, List.length_nil, Nat.zero_add, Nat.reduceAdd] at h1 h2 h3 h4
  have hh := hex_val x hx.1 hx.2
  rw [hv] at hh
  have k3 : w.cell? ⟨q, 3, none⟩ = some (.slice A2 0 c2) := (blk_cell h1 3).trans rfl
  have HHx := Aside0.mk hh
  have hb := h.base_.1
  have H1 := Aside0.mk h1
  have H2 := Aside0.mk h2
  have H3 := Aside0.mk h3
  have H4 := Aside0.mk h4
  have H := Aside0.mk h
  have hlt := h.lt
  clear h h1 h2 h3 h4 hh hv 
  go_enter Try.func46, Try.ntmps46
  go_wp2_with (first
    | (go_at_call 61; refine (orthoepyref12_hex.calls 12 x a _ HHx.out).mono ?_; rintro e w0 ⟨rfl, hd⟩; obtain ⟨na, hd⟩ := hd.out; subst hd; have k3' : ((w.drewN na).alloc (.cells #[] 3)).cell? ⟨q, 3, none⟩ = some (.slice A2 0 c2) := (World.cell?_alloc_past _ _ _ hlt).trans k3)
    | ((with_reducible refine gate_builtin (b := .append) (xs := #[.tmp 15, .tmp 19]) rfl ?_); at_builtin; refine app_row (Value.int .i64) (0 : Int) base rfl (.tmp 15) (.tmp 19) 29 3 (.int .i64 0) 8 rfl Try.underlying29 infoInt rfl (by decide) (.slice (some ⟨w.heap.size, 0, none⟩) 0 0) [] [] [] rfl A2 0 c2 (fun k => w.heap.size ≤ k) rfl rfl (Kd.R_of_own (own_lit (w.drewN na) base 3 .i64 [] hb (by simp)) (fun k hk => by simp [Value.ownBlock] at hk; omega)) (Kd.C_alloc (Kd.C_drewN (Kd.R_reads' H4.out).2.2 na) _) (by simp; omega) (by simp) ?_; intro B1 d1 w1 hr1 hk1; have HR1 := Aside0.mk hr1; have HK1 := Aside0.mk ((((Keeps.refl (fun _ => False) w).drewN na).alloc _).trans hk1 (fun k hk => .inr (by simp [Value.ownBlock] at hk; omega))); clear hr1 hk1)
    | ((with_reducible refine gate_builtin (b := .append) (xs := #[.tmp 20, .tmp 22]) rfl ?_); at_builtin; refine app_row (Value.int .i64) (0 : Int) base rfl (.tmp 20) (.tmp 22) 29 3 (.int .i64 0) 8 rfl Try.underlying29 infoInt rfl (by decide) (.slice B1 0 d1) [] [a] [a] rfl (some ⟨w1.heap.size, 0, none⟩) 1 1 (fun k => w.heap.size ≤ k) rfl rfl (Kd.R_alloc (Kd.R_mono HR1.out (fun k hk => hk.elim id (fun hn => by have := hn.1; simp at this; omega))) _) (C_one (Value.int .i64) 0 w1 3 a) (by have := HK1.out.size; simp; omega) (by simp) ?_; intro B2 d2 w2 hr2 hk2; have HR2 := Aside0.mk (Kd.R_mono (Kd.R_bound hr2) (ok' := fun k => w.heap.size ≤ k ∧ k < w2.heap.size) (fun k hk => ⟨hk.1.elim id (fun hn => by have h1 := hn.1; have h2 := HK1.out.size; simp at h1; omega), hk.2.2.1⟩)); have HK2 := Aside0.mk ((HK1.out.alloc _).trans hk2 (fun k hk => .inr (HR1.out.1 k hk.symm |>.elim id (fun hn => by have := hn.1; simp at this; omega)))); have HB2 := Aside0.mk (HK2.out.blk H1.out id); obtain ⟨g, dg, eg, _, _⟩ := (Kd.own_of_R HR2.out).form (by simp); injection eg with eg1 eg2 eg3; subst eg1; have z0 : w2.cell? ⟨g, 0, none⟩ = some (.int .i64 a) := (own_at (k := .i64) (xs := [a]) (Kd.own_of_R HR2.out) 0 (by omega) (by simp)).1; have j0 : w2.cell? ⟨q, 0, none⟩ = some (.slice A0 Out.length c0) := (blk_cell HB2.out 0).trans rfl; have j2 : w2.cell? ⟨q, 2, none⟩ = some (.int .i64 Esc) := (blk_cell HB2.out 2).trans rfl; have j3 : w2.cell? ⟨q, 3, none⟩ = some (.slice A2 0 c2) := (blk_cell HB2.out 3).trans rfl; have j4 : w2.cell? ⟨q, 4, none⟩ = some (.int .u16 0) := (blk_cell HB2.out 4).trans rfl; have g0 := blk_frozen HB2.out 0; have g2 := blk_frozen HB2.out 2; have g3 := blk_frozen HB2.out 3; have g4 := blk_frozen HB2.out 4; clear hr2 hk2 eg2 eg3))
  go_ret
  have hk0 := ((Keeps.refl (fun k => k = q) w2).at_ rfl 3 (.slice (some ⟨g, 0, none⟩) 1 d2))
  have hk : Keeps (fun k => k = q) w _ := (HK2.out.mono (fun _ h => h.elim)).trans hk0 (fun _ h => .inl h)
  have hq : ∀ k, S k → ¬ k = q := H.out.ne
  refine ⟨rfl, hk.mono (fun _ h => .inl h), ⟨⟨A0, c0, A1, c1, some ⟨g, 0, none⟩, d2, (blk_set HB2.out 3 _).trans rfl, Kd.R_mono (hk.R H2.out hq) (fun _ h => .inl h), Kd.R_mono (hk.R H3.out hq) (fun _ h => .inl h), Kd.R_mono (hk0.R HR2.out (fun k hh => by have := hh.1; omega)) (fun k hh => .inr ⟨hh.1, Nat.lt_of_lt_of_le hh.2 hk0.size⟩)⟩, more_ne1 H.out.ne hlt, ⟨Nat.le_trans hb hk.size, H.out.base_.2⟩, more_lt H.out.slt hk.size⟩⟩
set_option maxHeartbeats 4000000 in
set_option maxRecDepth 100000 in
theorem rdig_2hn (base q : Nat) (S : Nat → Prop) (Out B : List Int) (Esc : Int) (Over : Bool) (x a b wt: Int) (w : World) (h : RefAt w base S q ⟨Out, B, Esc, [a], wt, Over⟩) (hx : 0 ≤ x ∧ x ≤ 255) (hv : hexV x = b) (hr : 0 ≤ a ∧ a ≤ 15 ∧ 0 ≤ b ∧ b ≤ 15) (ea : a ≠ 13) (hw : 0 < wt) :
    Calls Try.prog 46 #[.pointer (some ⟨q, 0, none⟩), .int .u8 x] w fun e w' => e = .returned (.int .i64 5) ∧ Keeps (fun _ => False) w w' ∧ RefAt w' base S q ⟨Out, B, Esc, [a], wt, Over⟩ := by
  obtain ⟨A0, c0, A1, c1, A2, c2, h1, h2, h3, h4⟩ := h.row
  simp only [RV.cells, List.length_cons, List.length_nil, Nat.zero_add, Nat.reduceAdd] at h1 h2 h3 h4
  have hh := hex_val x hx.1 hx.2
  rw [hv] at hh
  have k3 : w.cell? ⟨q, 3, none⟩ = some (.slice A2 1 c2) := (blk_cell h1 3).trans rfl
  have ta : (a == 13) = false := beq_f ea
  have ta' : (a != 13) = true := bne_t ea
  have tw : decide (0 < wt) = true := decide_eq_true hw
  have tw2 : (wt == 0) = false := beq_f (by omega)
  have HHx := Aside0.mk hh
  have hb := h.base_.1
  have H1 := Aside0.mk h1
  have H2 := Aside0.mk h2
  have H3 := Aside0.mk h3
  have H4 := Aside0.mk h4
  have H := Aside0.mk h
  have hlt := h.lt
  clear h h1 h2 h3 h4 hh hv ea hw
  go_enter Try.func46, Try.ntmps46
  go_wp2_with (first
    | (go_at_call 61; refine (orthoepyref12_hex.calls 12 x b _ HHx.out).mono ?_; rintro e w0 ⟨rfl, hd⟩; obtain ⟨na, hd⟩ := hd.out; subst hd; have k3' : ((w.drewN na).alloc (.cells #[] 3)).cell? ⟨q, 3, none⟩ = some (.slice A2 1 c2) := (World.cell?_alloc_past _ _ _ hlt).trans k3)
    | ((with_reducible refine gate_builtin (b := .append) (xs := #[.tmp 15, .tmp 19]) rfl ?_); at_builtin; refine app_row (Value.int .i64) (0 : Int) base rfl (.tmp 15) (.tmp 19) 29 3 (.int .i64 0) 8 rfl Try.underlying29 infoInt rfl (by decide) (.slice (some ⟨w.heap.size, 0, none⟩) 0 0) [] [a] [a] rfl A2 1 c2 (fun k => w.heap.size ≤ k) rfl rfl (Kd.R_of_own (own_lit (w.drewN na) base 3 .i64 [] hb (by simp)) (fun k hk => by simp [Value.ownBlock] at hk; omega)) (Kd.C_alloc (Kd.C_drewN (Kd.R_reads' H4.out).2.2 na) _) (by simp; omega) (by simp) ?_; intro B1 d1 w1 hr1 hk1; have HR1 := Aside0.mk hr1; have HK1 := Aside0.mk ((((Keeps.refl (fun _ => False) w).drewN na).alloc _).trans hk1 (fun k hk => .inr (by simp [Value.ownBlock] at hk; omega))); clear hr1 hk1)
    | ((with_reducible refine gate_builtin (b := .append) (xs := #[.tmp 20, .tmp 22]) rfl ?_); at_builtin; refine app_row (Value.int .i64) (0 : Int) base rfl (.tmp 20) (.tmp 22) 29 3 (.int .i64 0) 8 rfl Try.underlying29 infoInt rfl (by decide) (.slice B1 1 d1) [a] [b] [a, b] rfl (some ⟨w1.heap.size, 0, none⟩) 1 1 (fun k => w.heap.size ≤ k) rfl rfl (Kd.R_alloc (Kd.R_mono HR1.out (fun k hk => hk.elim id (fun hn => by have := hn.1; simp at this; omega))) _) (C_one (Value.int .i64) 0 w1 3 b) (by have := HK1.out.size; simp; omega) (by simp) ?_; intro B2 d2 w2 hr2 hk2; have HR2 := Aside0.mk (Kd.R_mono (Kd.R_bound hr2) (ok' := fun k => w.heap.size ≤ k ∧ k < w2.heap.size) (fun k hk => ⟨hk.1.elim id (fun hn => by have h1 := hn.1; have h2 := HK1.out.size; simp at h1; omega), hk.2.2.1⟩)); have HK2 := Aside0.mk ((HK1.out.alloc _).trans hk2 (fun k hk => .inr (HR1.out.1 k hk.symm |>.elim id (fun hn => by have := hn.1; simp at this; omega)))); have HB2 := Aside0.mk (HK2.out.blk H1.out id); obtain ⟨g, dg, eg, _, _⟩ := (Kd.own_of_R HR2.out).form (by simp); injection eg with eg1 eg2 eg3; subst eg1; have z0 : w2.cell? ⟨g, 0, none⟩ = some (.int .i64 a) := (own_at (k := .i64) (xs := [a, b]) (Kd.own_of_R HR2.out) 0 (by omega) (by simp)).1; have z1 : w2.cell? ⟨g, 1, none⟩ = some (.int .i64 b) := (own_at (k := .i64) (xs := [a, b]) (Kd.own_of_R HR2.out) 1 (by omega) (by simp)).1; have j0 : w2.cell? ⟨q, 0, none⟩ = some (.slice A0 Out.length c0) := (blk_cell HB2.out 0).trans rfl; have j2 : w2.cell? ⟨q, 2, none⟩ = some (.int .i64 Esc) := (blk_cell HB2.out 2).trans rfl; have j3 : w2.cell? ⟨q, 3, none⟩ = some (.slice A2 1 c2) := (blk_cell HB2.out 3).trans rfl; have j4 : w2.cell? ⟨q, 4, none⟩ = some (.int .u16 wt) := (blk_cell HB2.out 4).trans rfl; have g0 := blk_frozen HB2.out 0; have g2 := blk_frozen HB2.out 2; have g3 := blk_frozen HB2.out 3; have g4 := blk_frozen HB2.out 4; clear hr2 hk2 eg2 eg3))
  go_ret
  have fin : ∀ n, Keeps (fun _ => False) w (w2.drewN n) ∧ RefAt (w2.drewN n) base S q ⟨Out, B, Esc, [a], wt, Over⟩ := fun n => ⟨HK2.out.drewN n, H.out.keep (HK2.out.drewN n) id (fun _ _ => id)⟩
  exact ⟨rfl, (fin 0).1, (fin 0).2⟩
set_option maxHeartbeats 4000000 in
set_option maxRecDepth 100000 in
theorem rdig_2hf (base q : Nat) (S : Nat → Prop) (Out B : List Int) (Esc : Int) (Over : Bool) (x a b wt: Int) (w : World) (h : RefAt w base S q ⟨Out, B, Esc, [a], wt, Over⟩) (hx : 0 ≤ x ∧ x ≤ 255) (hv : hexV x = b) (hr : 0 ≤ a ∧ a ≤ 15 ∧ 0 ≤ b ∧ b ≤ 15) (ea : a = 13) (eb : b < 12) (hw : 0 < wt) :
    Calls Try.prog 46 #[.pointer (some ⟨q, 0, none⟩), .int .u8 x] w fun e w' => e = .returned (.int .i64 5) ∧ Keeps (fun _ => False) w w' ∧ RefAt w' base S q ⟨Out, B, Esc, [a], wt, Over⟩ := by
  obtain ⟨A0, c0, A1, c1, A2, c2, h1, h2, h3, h4⟩ := h.row
  simp only [RV.cells, List.length_cons, List.length_nil, Nat.zero_add, Nat.reduceAdd] at h1 h2 h3 h4
  have hh := hex_val x hx.1 hx.2
  rw [hv] at hh
  have k3 : w.cell? ⟨q, 3, none⟩ = some (.slice A2 1 c2) := (blk_cell h1 3).trans rfl
  have ta : (a == 13) = true := beq_iff_eq.mpr ea
  have ta' : (a != 13) = false := by rw [ea]; rfl
  have tb : decide (12 ≤ b) = false := decide_eq_false (by omega)
  have tw : decide (0 < wt) = true := decide_eq_true hw
  have tw2 : (wt == 0) = false := beq_f (by omega)
  have HHx := Aside0.mk hh
  have hb := h.base_.1
  have H1 := Aside0.mk h1
  have H2 := Aside0.mk h2
  have H3 := Aside0.mk h3
  have H4 := Aside0.mk h4
  have H := Aside0.mk h
  have hlt := h.lt
  clear h h1 h2 h3 h4 hh hv ea eb hw
  go_enter Try.func46, Try.ntmps46
  go_wp2_with (first
    | (go_at_call 61; refine (orthoepyref12_hex.calls 12 x b _ HHx.out).mono ?_; rintro e w0 ⟨rfl, hd⟩; obtain ⟨na, hd⟩ := hd.out; subst hd; have k3' : ((w.drewN na).alloc (.cells #[] 3)).cell? ⟨q, 3, none⟩ = some (.slice A2 1 c2) := (World.cell?_alloc_past _ _ _ hlt).trans k3)
    | ((with_reducible refine gate_builtin (b := .append) (xs := #[.tmp 15, .tmp 19]) rfl ?_); at_builtin; refine app_row (Value.int .i64) (0 : Int) base rfl (.tmp 15) (.tmp 19) 29 3 (.int .i64 0) 8 rfl Try.underlying29 infoInt rfl (by decide) (.slice (some ⟨w.heap.size, 0, none⟩) 0 0) [] [a] [a] rfl A2 1 c2 (fun k => w.heap.size ≤ k) rfl rfl (Kd.R_of_own (own_lit (w.drewN na) base 3 .i64 [] hb (by simp)) (fun k hk => by simp [Value.ownBlock] at hk; omega)) (Kd.C_alloc (Kd.C_drewN (Kd.R_reads' H4.out).2.2 na) _) (by simp; omega) (by simp) ?_; intro B1 d1 w1 hr1 hk1; have HR1 := Aside0.mk hr1; have HK1 := Aside0.mk ((((Keeps.refl (fun _ => False) w).drewN na).alloc _).trans hk1 (fun k hk => .inr (by simp [Value.ownBlock] at hk; omega))); clear hr1 hk1)
    | ((with_reducible refine gate_builtin (b := .append) (xs := #[.tmp 20, .tmp 22]) rfl ?_); at_builtin; refine app_row (Value.int .i64) (0 : Int) base rfl (.tmp 20) (.tmp 22) 29 3 (.int .i64 0) 8 rfl Try.underlying29 infoInt rfl (by decide) (.slice B1 1 d1) [a] [b] [a, b] rfl (some ⟨w1.heap.size, 0, none⟩) 1 1 (fun k => w.heap.size ≤ k) rfl rfl (Kd.R_alloc (Kd.R_mono HR1.out (fun k hk => hk.elim id (fun hn => by have := hn.1; simp at this; omega))) _) (C_one (Value.int .i64) 0 w1 3 b) (by have := HK1.out.size; simp; omega) (by simp) ?_; intro B2 d2 w2 hr2 hk2; have HR2 := Aside0.mk (Kd.R_mono (Kd.R_bound hr2) (ok' := fun k => w.heap.size ≤ k ∧ k < w2.heap.size) (fun k hk => ⟨hk.1.elim id (fun hn => by have h1 := hn.1; have h2 := HK1.out.size; simp at h1; omega), hk.2.2.1⟩)); have HK2 := Aside0.mk ((HK1.out.alloc _).trans hk2 (fun k hk => .inr (HR1.out.1 k hk.symm |>.elim id (fun hn => by have := hn.1; simp at this; omega)))); have HB2 := Aside0.mk (HK2.out.blk H1.out id); obtain ⟨g, dg, eg, _, _⟩ := (Kd.own_of_R HR2.out).form (by simp); injection eg with eg1 eg2 eg3; subst eg1; have z0 : w2.cell? ⟨g, 0, none⟩ = some (.int .i64 a) := (own_at (k := .i64) (xs := [a, b]) (Kd.own_of_R HR2.out) 0 (by omega) (by simp)).1; have z1 : w2.cell? ⟨g, 1, none⟩ = some (.int .i64 b) := (own_at (k := .i64) (xs := [a, b]) (Kd.own_of_R HR2.out) 1 (by omega) (by simp)).1; have j0 : w2.cell? ⟨q, 0, none⟩ = some (.slice A0 Out.length c0) := (blk_cell HB2.out 0).trans rfl; have j2 : w2.cell? ⟨q, 2, none⟩ = some (.int .i64 Esc) := (blk_cell HB2.out 2).trans rfl; have j3 : w2.cell? ⟨q, 3, none⟩ = some (.slice A2 1 c2) := (blk_cell HB2.out 3).trans rfl; have j4 : w2.cell? ⟨q, 4, none⟩ = some (.int .u16 wt) := (blk_cell HB2.out 4).trans rfl; have g0 := blk_frozen HB2.out 0; have g2 := blk_frozen HB2.out 2; have g3 := blk_frozen HB2.out 3; have g4 := blk_frozen HB2.out 4; clear hr2 hk2 eg2 eg3))
  go_ret
  have fin : ∀ n, Keeps (fun _ => False) w (w2.drewN n) ∧ RefAt (w2.drewN n) base S q ⟨Out, B, Esc, [a], wt, Over⟩ := fun n => ⟨HK2.out.drewN n, H.out.keep (HK2.out.drewN n) id (fun _ _ => id)⟩
  exact ⟨rfl, (fin 0).1, (fin 0).2⟩
set_option maxHeartbeats 4000000 in
set_option maxRecDepth 100000 in
theorem rdig_2zl (base q : Nat) (S : Nat → Prop) (Out B : List Int) (Esc : Int) (Over : Bool) (x a b wt: Int) (w : World) (h : RefAt w base S q ⟨Out, B, Esc, [a], 0, Over⟩) (hx : 0 ≤ x ∧ x ≤ 255) (hv : hexV x = b) (hr : 0 ≤ a ∧ a ≤ 15 ∧ 0 ≤ b ∧ b ≤ 15) (ea : a = 13) (eb : 12 ≤ b) :
    Calls Try.prog 46 #[.pointer (some ⟨q, 0, none⟩), .int .u8 x] w fun e w' => e = .returned (.int .i64 5) ∧ Keeps (fun _ => False) w w' ∧ RefAt w' base S q ⟨Out, B, Esc, [a], 0, Over⟩ := by
  obtain ⟨A0, c0, A1, c1, A2, c2, h1, h2, h3, h4⟩ := h.row
  simp only [RV.cells, List.length_cons, List.length_nil, Nat.zero_add, Nat.reduceAdd] at h1 h2 h3 h4
  have hh := hex_val x hx.1 hx.2
  rw [hv] at hh
  have k3 : w.cell? ⟨q, 3, none⟩ = some (.slice A2 1 c2) := (blk_cell h1 3).trans rfl
  have ta : (a == 13) = true := beq_iff_eq.mpr ea
  have ta' : (a != 13) = false := by rw [ea]; rfl
  have tb : decide (12 ≤ b) = true := decide_eq_true eb
  have HHx := Aside0.mk hh
  have hb := h.base_.1
  have H1 := Aside0.mk h1
  have H2 := Aside0.mk h2
  have H3 := Aside0.mk h3
  have H4 := Aside0.mk h4
  have H := Aside0.mk h
  have hlt := h.lt
  clear h h1 h2 h3 h4 hh hv ea eb
  go_enter Try.func46, Try.ntmps46
  go_wp2_with (first
    | (go_at_call 61; refine (orthoepyref12_hex.calls 12 x b _ HHx.out).mono ?_; rintro e w0 ⟨rfl, hd⟩; obtain ⟨na, hd⟩ := hd.out; subst hd; have k3' : ((w.drewN na).alloc (.cells #[] 3)).cell? ⟨q, 3, none⟩ = some (.slice A2 1 c2) := (World.cell?_alloc_past _ _ _ hlt).trans k3)
    | ((with_reducible refine gate_builtin (b := .append) (xs := #[.tmp 15, .tmp 19]) rfl ?_); at_builtin; refine app_row (Value.int .i64) (0 : Int) base rfl (.tmp 15) (.tmp 19) 29 3 (.int .i64 0) 8 rfl Try.underlying29 infoInt rfl (by decide) (.slice (some ⟨w.heap.size, 0, none⟩) 0 0) [] [a] [a] rfl A2 1 c2 (fun k => w.heap.size ≤ k) rfl rfl (Kd.R_of_own (own_lit (w.drewN na) base 3 .i64 [] hb (by simp)) (fun k hk => by simp [Value.ownBlock] at hk; omega)) (Kd.C_alloc (Kd.C_drewN (Kd.R_reads' H4.out).2.2 na) _) (by simp; omega) (by simp) ?_; intro B1 d1 w1 hr1 hk1; have HR1 := Aside0.mk hr1; have HK1 := Aside0.mk ((((Keeps.refl (fun _ => False) w).drewN na).alloc _).trans hk1 (fun k hk => .inr (by simp [Value.ownBlock] at hk; omega))); clear hr1 hk1)
    | ((with_reducible refine gate_builtin (b := .append) (xs := #[.tmp 20, .tmp 22]) rfl ?_); at_builtin; refine app_row (Value.int .i64) (0 : Int) base rfl (.tmp 20) (.tmp 22) 29 3 (.int .i64 0) 8 rfl Try.underlying29 infoInt rfl (by decide) (.slice B1 1 d1) [a] [b] [a, b] rfl (some ⟨w1.heap.size, 0, none⟩) 1 1 (fun k => w.heap.size ≤ k) rfl rfl (Kd.R_alloc (Kd.R_mono HR1.out (fun k hk => hk.elim id (fun hn => by have := hn.1; simp at this; omega))) _) (C_one (Value.int .i64) 0 w1 3 b) (by have := HK1.out.size; simp; omega) (by simp) ?_; intro B2 d2 w2 hr2 hk2; have HR2 := Aside0.mk (Kd.R_mono (Kd.R_bound hr2) (ok' := fun k => w.heap.size ≤ k ∧ k < w2.heap.size) (fun k hk => ⟨hk.1.elim id (fun hn => by have h1 := hn.1; have h2 := HK1.out.size; simp at h1; omega), hk.2.2.1⟩)); have HK2 := Aside0.mk ((HK1.out.alloc _).trans hk2 (fun k hk => .inr (HR1.out.1 k hk.symm |>.elim id (fun hn => by have := hn.1; simp at this; omega)))); have HB2 := Aside0.mk (HK2.out.blk H1.out id); obtain ⟨g, dg, eg, _, _⟩ := (Kd.own_of_R HR2.out).form (by simp); injection eg with eg1 eg2 eg3; subst eg1; have z0 : w2.cell? ⟨g, 0, none⟩ = some (.int .i64 a) := (own_at (k := .i64) (xs := [a, b]) (Kd.own_of_R HR2.out) 0 (by omega) (by simp)).1; have z1 : w2.cell? ⟨g, 1, none⟩ = some (.int .i64 b) := (own_at (k := .i64) (xs := [a, b]) (Kd.own_of_R HR2.out) 1 (by omega) (by simp)).1; have j0 : w2.cell? ⟨q, 0, none⟩ = some (.slice A0 Out.length c0) := (blk_cell HB2.out 0).trans rfl; have j2 : w2.cell? ⟨q, 2, none⟩ = some (.int .i64 Esc) := (blk_cell HB2.out 2).trans rfl; have j3 : w2.cell? ⟨q, 3, none⟩ = some (.slice A2 1 c2) := (blk_cell HB2.out 3).trans rfl; have j4 : w2.cell? ⟨q, 4, none⟩ = some (.int .u16 0) := (blk_cell HB2.out 4).trans rfl; have g0 := blk_frozen HB2.out 0; have g2 := blk_frozen HB2.out 2; have g3 := blk_frozen HB2.out 3; have g4 := blk_frozen HB2.out 4; clear hr2 hk2 eg2 eg3))
  go_ret
  have fin : ∀ n, Keeps (fun _ => False) w (w2.drewN n) ∧ RefAt (w2.drewN n) base S q ⟨Out, B, Esc, [a], 0, Over⟩ := fun n => ⟨HK2.out.drewN n, H.out.keep (HK2.out.drewN n) id (fun _ _ => id)⟩
  exact ⟨rfl, (fin 0).1, (fin 0).2⟩
set_option maxHeartbeats 4000000 in
set_option maxRecDepth 100000 in
theorem rdig_3hn (base q : Nat) (S : Nat → Prop) (Out B : List Int) (Esc : Int) (Over : Bool) (x a b c wt: Int) (w : World) (h : RefAt w base S q ⟨Out, B, Esc, [a, b], wt, Over⟩) (hx : 0 ≤ x ∧ x ≤ 255) (hv : hexV x = c) (hr : 0 ≤ a ∧ a ≤ 15 ∧ 0 ≤ b ∧ b ≤ 15 ∧ 0 ≤ c ∧ c ≤ 15) (ea : a ≠ 13) (hw : 0 < wt) :
    Calls Try.prog 46 #[.pointer (some ⟨q, 0, none⟩), .int .u8 x] w fun e w' => e = .returned (.int .i64 5) ∧ Keeps (fun _ => False) w w' ∧ RefAt w' base S q ⟨Out, B, Esc, [a, b], wt, Over⟩ := by
  obtain ⟨A0, c0, A1, c1, A2, c2, h1, h2, h3, h4⟩ := h.row
  simp only [RV.cells, List.length_cons, List.length_nil, Nat.zero_add, Nat.reduceAdd] at h1 h2 h3 h4
  have hh := hex_val x hx.1 hx.2
  rw [hv] at hh
  have k3 : w.cell? ⟨q, 3, none⟩ = some (.slice A2 2 c2) := (blk_cell h1 3).trans rfl
  have ta : (a == 13) = false := beq_f ea
  have ta' : (a != 13) = true := bne_t ea
  have tw : decide (0 < wt) = true := decide_eq_true hw
  have tw2 : (wt == 0) = false := beq_f (by omega)
  have HHx := Aside0.mk hh
  have hb := h.base_.1
  have H1 := Aside0.mk h1
  have H2 := Aside0.mk h2
  have H3 := Aside0.mk h3
  have H4 := Aside0.mk h4
  have H := Aside0.mk h
  have hlt := h.lt
  clear h h1 h2 h3 h4 hh hv ea hw
  go_enter Try.func46, Try.ntmps46
  go_wp2_with (first
    | (go_at_call 61; refine (orthoepyref12_hex.calls 12 x c _ HHx.out).mono ?_; rintro e w0 ⟨rfl, hd⟩; obtain ⟨na, hd⟩ := hd.out; subst hd; have k3' : ((w.drewN na).alloc (.cells #[] 3)).cell? ⟨q, 3, none⟩ = some (.slice A2 2 c2) := (World.cell?_alloc_past _ _ _ hlt).trans k3)
    | ((with_reducible refine gate_builtin (b := .append) (xs := #[.tmp 15, .tmp 19]) rfl ?_); at_builtin; refine app_row (Value.int .i64) (0 : Int) base rfl (.tmp 15) (.tmp 19) 29 3 (.int .i64 0) 8 rfl Try.underlying29 infoInt rfl (by decide) (.slice (some ⟨w.heap.size, 0, none⟩) 0 0) [] [a, b] [a, b] rfl A2 2 c2 (fun k => w.heap.size ≤ k) rfl rfl (Kd.R_of_own (own_lit (w.drewN na) base 3 .i64 [] hb (by simp)) (fun k hk => by simp [Value.ownBlock] at hk; omega)) (Kd.C_alloc (Kd.C_drewN (Kd.R_reads' H4.out).2.2 na) _) (by simp; omega) (by simp) ?_; intro B1 d1 w1 hr1 hk1; have HR1 := Aside0.mk hr1; have HK1 := Aside0.mk ((((Keeps.refl (fun _ => False) w).drewN na).alloc _).trans hk1 (fun k hk => .inr (by simp [Value.ownBlock] at hk; omega))); clear hr1 hk1)
    | ((with_reducible refine gate_builtin (b := .append) (xs := #[.tmp 20, .tmp 22]) rfl ?_); at_builtin; refine app_row (Value.int .i64) (0 : Int) base rfl (.tmp 20) (.tmp 22) 29 3 (.int .i64 0) 8 rfl Try.underlying29 infoInt rfl (by decide) (.slice B1 2 d1) [a, b] [c] [a, b, c] rfl (some ⟨w1.heap.size, 0, none⟩) 1 1 (fun k => w.heap.size ≤ k) rfl rfl (Kd.R_alloc (Kd.R_mono HR1.out (fun k hk => hk.elim id (fun hn => by have := hn.1; simp at this; omega))) _) (C_one (Value.int .i64) 0 w1 3 c) (by have := HK1.out.size; simp; omega) (by simp) ?_; intro B2 d2 w2 hr2 hk2; have HR2 := Aside0.mk (Kd.R_mono (Kd.R_bound hr2) (ok' := fun k => w.heap.size ≤ k ∧ k < w2.heap.size) (fun k hk => ⟨hk.1.elim id (fun hn => by have h1 := hn.1; have h2 := HK1.out.size; simp at h1; omega), hk.2.2.1⟩)); have HK2 := Aside0.mk ((HK1.out.alloc _).trans hk2 (fun k hk => .inr (HR1.out.1 k hk.symm |>.elim id (fun hn => by have := hn.1; simp at this; omega)))); have HB2 := Aside0.mk (HK2.out.blk H1.out id); obtain ⟨g, dg, eg, _, _⟩ := (Kd.own_of_R HR2.out).form (by simp); injection eg with eg1 eg2 eg3; subst eg1; have z0 : w2.cell? ⟨g, 0, none⟩ = some (.int .i64 a) := (own_at (k := .i64) (xs := [a, b, c]) (Kd.own_of_R HR2.out) 0 (by omega) (by simp)).1; have z1 : w2.cell? ⟨g, 1, none⟩ = some (.int .i64 b) := (own_at (k := .i64) (xs := [a, b, c]) (Kd.own_of_R HR2.out) 1 (by omega) (by simp)).1; have z2 : w2.cell? ⟨g, 2, none⟩ = some (.int .i64 c) := (own_at (k := .i64) (xs := [a, b, c]) (Kd.own_of_R HR2.out) 2 (by omega) (by simp)).1; have j0 : w2.cell? ⟨q, 0, none⟩ = some (.slice A0 Out.length c0) := (blk_cell HB2.out 0).trans rfl; have j2 : w2.cell? ⟨q, 2, none⟩ = some (.int .i64 Esc) := (blk_cell HB2.out 2).trans rfl; have j3 : w2.cell? ⟨q, 3, none⟩ = some (.slice A2 2 c2) := (blk_cell HB2.out 3).trans rfl; have j4 : w2.cell? ⟨q, 4, none⟩ = some (.int .u16 wt) := (blk_cell HB2.out 4).trans rfl; have g0 := blk_frozen HB2.out 0; have g2 := blk_frozen HB2.out 2; have g3 := blk_frozen HB2.out 3; have g4 := blk_frozen HB2.out 4; clear hr2 hk2 eg2 eg3))
  go_ret
  have fin : ∀ n, Keeps (fun _ => False) w (w2.drewN n) ∧ RefAt (w2.drewN n) base S q ⟨Out, B, Esc, [a, b], wt, Over⟩ := fun n => ⟨HK2.out.drewN n, H.out.keep (HK2.out.drewN n) id (fun _ _ => id)⟩
  exact ⟨rfl, (fin 0).1, (fin 0).2⟩
set_option maxHeartbeats 4000000 in
set_option maxRecDepth 100000 in
theorem rdig_3hf (base q : Nat) (S : Nat → Prop) (Out B : List Int) (Esc : Int) (Over : Bool) (x a b c wt: Int) (w : World) (h : RefAt w base S q ⟨Out, B, Esc, [a, b], wt, Over⟩) (hx : 0 ≤ x ∧ x ≤ 255) (hv : hexV x = c) (hr : 0 ≤ a ∧ a ≤ 15 ∧ 0 ≤ b ∧ b ≤ 15 ∧ 0 ≤ c ∧ c ≤ 15) (ea : a = 13) (eb : b < 12) (hw : 0 < wt) :
    Calls Try.prog 46 #[.pointer (some ⟨q, 0, none⟩), .int .u8 x] w fun e w' => e = .returned (.int .i64 5) ∧ Keeps (fun _ => False) w w' ∧ RefAt w' base S q ⟨Out, B, Esc, [a, b], wt, Over⟩ := by
  obtain ⟨A0, c0, A1, c1, A2, c2, h1, h2, h3, h4⟩ := h.row
  simp only [RV.cells, List.length_cons, List.length_nil, Nat.zero_add, Nat.reduceAdd] at h1 h2 h3 h4
  have hh := hex_val x hx.1 hx.2
  rw [hv] at hh
  have k3 : w.cell? ⟨q, 3, none⟩ = some (.slice A2 2 c2) := (blk_cell h1 3).trans rfl
  have ta : (a == 13) = true := beq_iff_eq.mpr ea
  have ta' : (a != 13) = false := by rw [ea]; rfl
  have tb : decide (12 ≤ b) = false := decide_eq_false (by omega)
  have tw : decide (0 < wt) = true := decide_eq_true hw
  have tw2 : (wt == 0) = false := beq_f (by omega)
  have HHx := Aside0.mk hh
  have hb := h.base_.1
  have H1 := Aside0.mk h1
  have H2 := Aside0.mk h2
  have H3 := Aside0.mk h3
  have H4 := Aside0.mk h4
  have H := Aside0.mk h
  have hlt := h.lt
  clear h h1 h2 h3 h4 hh hv ea eb hw
  go_enter Try.func46, Try.ntmps46
  go_wp2_with (first
    | (go_at_call 61; refine (orthoepyref12_hex.calls 12 x c _ HHx.out).mono ?_; rintro e w0 ⟨rfl, hd⟩; obtain ⟨na, hd⟩ := hd.out; subst hd; have k3' : ((w.drewN na).alloc (.cells #[] 3)).cell? ⟨q, 3, none⟩ = some (.slice A2 2 c2) := (World.cell?_alloc_past _ _ _ hlt).trans k3)
    | ((with_reducible refine gate_builtin (b := .append) (xs := #[.tmp 15, .tmp 19]) rfl ?_); at_builtin; refine app_row (Value.int .i64) (0 : Int) base rfl (.tmp 15) (.tmp 19) 29 3 (.int .i64 0) 8 rfl Try.underlying29 infoInt rfl (by decide) (.slice (some ⟨w.heap.size, 0, none⟩) 0 0) [] [a, b] [a, b] rfl A2 2 c2 (fun k => w.heap.size ≤ k) rfl rfl (Kd.R_of_own (own_lit (w.drewN na) base 3 .i64 [] hb (by simp)) (fun k hk => by simp [Value.ownBlock] at hk; omega)) (Kd.C_alloc (Kd.C_drewN (Kd.R_reads' H4.out).2.2 na) _) (by simp; omega) (by simp) ?_; intro B1 d1 w1 hr1 hk1; have HR1 := Aside0.mk hr1; have HK1 := Aside0.mk ((((Keeps.refl (fun _ => False) w).drewN na).alloc _).trans hk1 (fun k hk => .inr (by simp [Value.ownBlock] at hk; omega))); clear hr1 hk1)
    | ((with_reducible refine gate_builtin (b := .append) (xs := #[.tmp 20, .tmp 22]) rfl ?_); at_builtin; refine app_row (Value.int .i64) (0 : Int) base rfl (.tmp 20) (.tmp 22) 29 3 (.int .i64 0) 8 rfl Try.underlying29 infoInt rfl (by decide) (.slice B1 2 d1) [a, b] [c] [a, b, c] rfl (some ⟨w1.heap.size, 0, none⟩) 1 1 (fun k => w.heap.size ≤ k) rfl rfl (Kd.R_alloc (Kd.R_mono HR1.out (fun k hk => hk.elim id (fun hn => by have := hn.1; simp at this; omega))) _) (C_one (Value.int .i64) 0 w1 3 c) (by have := HK1.out.size; simp; omega) (by simp) ?_; intro B2 d2 w2 hr2 hk2; have HR2 := Aside0.mk (Kd.R_mono (Kd.R_bound hr2) (ok' := fun k => w.heap.size ≤ k ∧ k < w2.heap.size) (fun k hk => ⟨hk.1.elim id (fun hn => by have h1 := hn.1; have h2 := HK1.out.size; simp at h1; omega), hk.2.2.1⟩)); have HK2 := Aside0.mk ((HK1.out.alloc _).trans hk2 (fun k hk => .inr (HR1.out.1 k hk.symm |>.elim id (fun hn => by have := hn.1; simp at this; omega)))); have HB2 := Aside0.mk (HK2.out.blk H1.out id); obtain ⟨g, dg, eg, _, _⟩ := (Kd.own_of_R HR2.out).form (by simp); injection eg with eg1 eg2 eg3; subst eg1; have z0 : w2.cell? ⟨g, 0, none⟩ = some (.int .i64 a) := (own_at (k := .i64) (xs := [a, b, c]) (Kd.own_of_R HR2.out) 0 (by omega) (by simp)).1; have z1 : w2.cell? ⟨g, 1, none⟩ = some (.int .i64 b) := (own_at (k := .i64) (xs := [a, b, c]) (Kd.own_of_R HR2.out) 1 (by omega) (by simp)).1; have z2 : w2.cell? ⟨g, 2, none⟩ = some (.int .i64 c) := (own_at (k := .i64) (xs := [a, b, c]) (Kd.own_of_R HR2.out) 2 (by omega) (by simp)).1; have j0 : w2.cell? ⟨q, 0, none⟩ = some (.slice A0 Out.length c0) := (blk_cell HB2.out 0).trans rfl; have j2 : w2.cell? ⟨q, 2, none⟩ = some (.int .i64 Esc) := (blk_cell HB2.out 2).trans rfl; have j3 : w2.cell? ⟨q, 3, none⟩ = some (.slice A2 2 c2) := (blk_cell HB2.out 3).trans rfl; have j4 : w2.cell? ⟨q, 4, none⟩ = some (.int .u16 wt) := (blk_cell HB2.out 4).trans rfl; have g0 := blk_frozen HB2.out 0; have g2 := blk_frozen HB2.out 2; have g3 := blk_frozen HB2.out 3; have g4 := blk_frozen HB2.out 4; clear hr2 hk2 eg2 eg3))
  go_ret
  have fin : ∀ n, Keeps (fun _ => False) w (w2.drewN n) ∧ RefAt (w2.drewN n) base S q ⟨Out, B, Esc, [a, b], wt, Over⟩ := fun n => ⟨HK2.out.drewN n, H.out.keep (HK2.out.drewN n) id (fun _ _ => id)⟩
  exact ⟨rfl, (fin 0).1, (fin 0).2⟩
set_option maxHeartbeats 4000000 in
set_option maxRecDepth 100000 in
theorem rdig_3zl (base q : Nat) (S : Nat → Prop) (Out B : List Int) (Esc : Int) (Over : Bool) (x a b c wt: Int) (w : World) (h : RefAt w base S q ⟨Out, B, Esc, [a, b], 0, Over⟩) (hx : 0 ≤ x ∧ x ≤ 255) (hv : hexV x = c) (hr : 0 ≤ a ∧ a ≤ 15 ∧ 0 ≤ b ∧ b ≤ 15 ∧ 0 ≤ c ∧ c ≤ 15) (ea : a = 13) (eb : 12 ≤ b) :
    Calls Try.prog 46 #[.pointer (some ⟨q, 0, none⟩), .int .u8 x] w fun e w' => e = .returned (.int .i64 5) ∧ Keeps (fun _ => False) w w' ∧ RefAt w' base S q ⟨Out, B, Esc, [a, b], 0, Over⟩ := by
  obtain ⟨A0, c0, A1, c1, A2, c2, h1, h2, h3, h4⟩ := h.row
  simp only [RV.cells, List.length_cons, List.length_nil, Nat.zero_add, Nat.reduceAdd] at h1 h2 h3 h4
  have hh := hex_val x hx.1 hx.2
  rw [hv] at hh
  have k3 : w.cell? ⟨q, 3, none⟩ = some (.slice A2 2 c2) := (blk_cell h1 3).trans rfl
  have ta : (a == 13) = true := beq_iff_eq.mpr ea
  have ta' : (a != 13) = false := by rw [ea]; rfl
  have tb : decide (12 ≤ b) = true := decide_eq_true eb
  have HHx := Aside0.mk hh
  have hb := h.base_.1
  have H1 := Aside0.mk h1
  have H2 := Aside0.mk h2
  have H3 := Aside0.mk h3
  have H4 := Aside0.mk h4
  have H := Aside0.mk h
  have hlt := h.lt
  clear h h1 h2 h3 h4 hh hv ea eb
  go_enter Try.func46, Try.ntmps46
  go_wp2_with (first
    | (go_at_call 61; refine (orthoepyref12_hex.calls 12 x c _ HHx.out).mono ?_; rintro e w0 ⟨rfl, hd⟩; obtain ⟨na, hd⟩ := hd.out; subst hd; have k3' : ((w.drewN na).alloc (.cells #[] 3)).cell? ⟨q, 3, none⟩ = some (.slice A2 2 c2) := (World.cell?_alloc_past _ _ _ hlt).trans k3)
    | ((with_reducible refine gate_builtin (b := .append) (xs := #[.tmp 15, .tmp 19]) rfl ?_); at_builtin; refine app_row (Value.int .i64) (0 : Int) base rfl (.tmp 15) (.tmp 19) 29 3 (.int .i64 0) 8 rfl Try.underlying29 infoInt rfl (by decide) (.slice (some ⟨w.heap.size, 0, none⟩) 0 0) [] [a, b] [a, b] rfl A2 2 c2 (fun k => w.heap.size ≤ k) rfl rfl (Kd.R_of_own (own_lit (w.drewN na) base 3 .i64 [] hb (by simp)) (fun k hk => by simp [Value.ownBlock] at hk; omega)) (Kd.C_alloc (Kd.C_drewN (Kd.R_reads' H4.out).2.2 na) _) (by simp; omega) (by simp) ?_; intro B1 d1 w1 hr1 hk1; have HR1 := Aside0.mk hr1; have HK1 := Aside0.mk ((((Keeps.refl (fun _ => False) w).drewN na).alloc _).trans hk1 (fun k hk => .inr (by simp [Value.ownBlock] at hk; omega))); clear hr1 hk1)
    | ((with_reducible refine gate_builtin (b := .append) (xs := #[.tmp 20, .tmp 22]) rfl ?_); at_builtin; refine app_row (Value.int .i64) (0 : Int) base rfl (.tmp 20) (.tmp 22) 29 3 (.int .i64 0) 8 rfl Try.underlying29 infoInt rfl (by decide) (.slice B1 2 d1) [a, b] [c] [a, b, c] rfl (some ⟨w1.heap.size, 0, none⟩) 1 1 (fun k => w.heap.size ≤ k) rfl rfl (Kd.R_alloc (Kd.R_mono HR1.out (fun k hk => hk.elim id (fun hn => by have := hn.1; simp at this; omega))) _) (C_one (Value.int .i64) 0 w1 3 c) (by have := HK1.out.size; simp; omega) (by simp) ?_; intro B2 d2 w2 hr2 hk2; have HR2 := Aside0.mk (Kd.R_mono (Kd.R_bound hr2) (ok' := fun k => w.heap.size ≤ k ∧ k < w2.heap.size) (fun k hk => ⟨hk.1.elim id (fun hn => by have h1 := hn.1; have h2 := HK1.out.size; simp at h1; omega), hk.2.2.1⟩)); have HK2 := Aside0.mk ((HK1.out.alloc _).trans hk2 (fun k hk => .inr (HR1.out.1 k hk.symm |>.elim id (fun hn => by have := hn.1; simp at this; omega)))); have HB2 := Aside0.mk (HK2.out.blk H1.out id); obtain ⟨g, dg, eg, _, _⟩ := (Kd.own_of_R HR2.out).form (by simp); injection eg with eg1 eg2 eg3; subst eg1; have z0 : w2.cell? ⟨g, 0, none⟩ = some (.int .i64 a) := (own_at (k := .i64) (xs := [a, b, c]) (Kd.own_of_R HR2.out) 0 (by omega) (by simp)).1; have z1 : w2.cell? ⟨g, 1, none⟩ = some (.int .i64 b) := (own_at (k := .i64) (xs := [a, b, c]) (Kd.own_of_R HR2.out) 1 (by omega) (by simp)).1; have z2 : w2.cell? ⟨g, 2, none⟩ = some (.int .i64 c) := (own_at (k := .i64) (xs := [a, b, c]) (Kd.own_of_R HR2.out) 2 (by omega) (by simp)).1; have j0 : w2.cell? ⟨q, 0, none⟩ = some (.slice A0 Out.length c0) := (blk_cell HB2.out 0).trans rfl; have j2 : w2.cell? ⟨q, 2, none⟩ = some (.int .i64 Esc) := (blk_cell HB2.out 2).trans rfl; have j3 : w2.cell? ⟨q, 3, none⟩ = some (.slice A2 2 c2) := (blk_cell HB2.out 3).trans rfl; have j4 : w2.cell? ⟨q, 4, none⟩ = some (.int .u16 0) := (blk_cell HB2.out 4).trans rfl; have g0 := blk_frozen HB2.out 0; have g2 := blk_frozen HB2.out 2; have g3 := blk_frozen HB2.out 3; have g4 := blk_frozen HB2.out 4; clear hr2 hk2 eg2 eg3))
  go_ret
  have fin : ∀ n, Keeps (fun _ => False) w (w2.drewN n) ∧ RefAt (w2.drewN n) base S q ⟨Out, B, Esc, [a, b], 0, Over⟩ := fun n => ⟨HK2.out.drewN n, H.out.keep (HK2.out.drewN n) id (fun _ _ => id)⟩
  exact ⟨rfl, (fin 0).1, (fin 0).2⟩
set_option maxHeartbeats 4000000 in
set_option maxRecDepth 100000 in
theorem rdig_4hn (base q : Nat) (S : Nat → Prop) (Out B : List Int) (Esc : Int) (Over : Bool) (x a b c d wt: Int) (w : World) (h : RefAt w base S q ⟨Out, B, Esc, [a, b, c], wt, Over⟩) (hx : 0 ≤ x ∧ x ≤ 255) (hv : hexV x = d) (hr : 0 ≤ a ∧ a ≤ 15 ∧ 0 ≤ b ∧ b ≤ 15 ∧ 0 ≤ c ∧ c ≤ 15 ∧ 0 ≤ d ∧ d ≤ 15) (ea : a ≠ 13) (hw : 0 < wt) :
    Calls Try.prog 46 #[.pointer (some ⟨q, 0, none⟩), .int .u8 x] w fun e w' => e = .returned (.int .i64 5) ∧ Keeps (fun _ => False) w w' ∧ RefAt w' base S q ⟨Out, B, Esc, [a, b, c], wt, Over⟩ := by
  obtain ⟨A0, c0, A1, c1, A2, c2, h1, h2, h3, h4⟩ := h.row
  simp only [RV.cells, List.length_cons, List.length_nil, Nat.zero_add, Nat.reduceAdd] at h1 h2 h3 h4
  have hh := hex_val x hx.1 hx.2
  rw [hv] at hh
  have k3 : w.cell? ⟨q, 3, none⟩ = some (.slice A2 3 c2) := (blk_cell h1 3).trans rfl
  have ta : (a == 13) = false := beq_f ea
  have ta' : (a != 13) = true := bne_t ea
  have tw : decide (0 < wt) = true := decide_eq_true hw
  have tw2 : (wt == 0) = false := beq_f (by omega)
  have HHx := Aside0.mk hh
  have hb := h.base_.1
  have H1 := Aside0.mk h1
  have H2 := Aside0.mk h2
  have H3 := Aside0.mk h3
  have H4 := Aside0.mk h4
  have H := Aside0.mk h
  have hlt := h.lt
  clear h h1 h2 h3 h4 hh hv ea hw
  go_enter Try.func46, Try.ntmps46
  go_wp2_with (first
    | (go_at_call 61; refine (orthoepyref12_hex.calls 12 x d _ HHx.out).mono ?_; rintro e w0 ⟨rfl, hd⟩; obtain ⟨na, hd⟩ := hd.out; subst hd; have k3' : ((w.drewN na).alloc (.cells #[] 3)).cell? ⟨q, 3, none⟩ = some (.slice A2 3 c2) := (World.cell?_alloc_past _ _ _ hlt).trans k3)
    | ((with_reducible refine gate_builtin (b := .append) (xs := #[.tmp 15, .tmp 19]) rfl ?_); at_builtin; refine app_row (Value.int .i64) (0 : Int) base rfl (.tmp 15) (.tmp 19) 29 3 (.int .i64 0) 8 rfl Try.underlying29 infoInt rfl (by decide) (.slice (some ⟨w.heap.size, 0, none⟩) 0 0) [] [a, b, c] [a, b, c] rfl A2 3 c2 (fun k => w.heap.size ≤ k) rfl rfl (Kd.R_of_own (own_lit (w.drewN na) base 3 .i64 [] hb (by simp)) (fun k hk => by simp [Value.ownBlock] at hk; omega)) (Kd.C_alloc (Kd.C_drewN (Kd.R_reads' H4.out).2.2 na) _) (by simp; omega) (by simp) ?_; intro B1 d1 w1 hr1 hk1; have HR1 := Aside0.mk hr1; have HK1 := Aside0.mk ((((Keeps.refl (fun _ => False) w).drewN na).alloc _).trans hk1 (fun k hk => .inr (by simp [Value.ownBlock] at hk; omega))); clear hr1 hk1)
    | ((with_reducible refine gate_builtin (b := .append) (xs := #[.tmp 20, .tmp 22]) rfl ?_); at_builtin; refine app_row (Value.int .i64) (0 : Int) base rfl (.tmp 20) (.tmp 22) 29 3 (.int .i64 0) 8 rfl Try.underlying29 infoInt rfl (by decide) (.slice B1 3 d1) [a, b, c] [d] [a, b, c, d] rfl (some ⟨w1.heap.size, 0, none⟩) 1 1 (fun k => w.heap.size ≤ k) rfl rfl (Kd.R_alloc (Kd.R_mono HR1.out (fun k hk => hk.elim id (fun hn => by have := hn.1; simp at this; omega))) _) (C_one (Value.int .i64) 0 w1 3 d) (by have := HK1.out.size; simp; omega) (by simp) ?_; intro B2 d2 w2 hr2 hk2; have HR2 := Aside0.mk (Kd.R_mono (Kd.R_bound hr2) (ok' := fun k => w.heap.size ≤ k ∧ k < w2.heap.size) (fun k hk => ⟨hk.1.elim id (fun hn => by have h1 := hn.1; have h2 := HK1.out.size; simp at h1; omega), hk.2.2.1⟩)); have HK2 := Aside0.mk ((HK1.out.alloc _).trans hk2 (fun k hk => .inr (HR1.out.1 k hk.symm |>.elim id (fun hn => by have := hn.1; simp at this; omega)))); have HB2 := Aside0.mk (HK2.out.blk H1.out id); obtain ⟨g, dg, eg, _, _⟩ := (Kd.own_of_R HR2.out).form (by simp); injection eg with eg1 eg2 eg3; subst eg1; have z0 : w2.cell? ⟨g, 0, none⟩ = some (.int .i64 a) := (own_at (k := .i64) (xs := [a, b, c, d]) (Kd.own_of_R HR2.out) 0 (by omega) (by simp)).1; have z1 : w2.cell? ⟨g, 1, none⟩ = some (.int .i64 b) := (own_at (k := .i64) (xs := [a, b, c, d]) (Kd.own_of_R HR2.out) 1 (by omega) (by simp)).1; have z2 : w2.cell? ⟨g, 2, none⟩ = some (.int .i64 c) := (own_at (k := .i64) (xs := [a, b, c, d]) (Kd.own_of_R HR2.out) 2 (by omega) (by simp)).1; have z3 : w2.cell? ⟨g, 3, none⟩ = some (.int .i64 d) := (own_at (k := .i64) (xs := [a, b, c, d]) (Kd.own_of_R HR2.out) 3 (by omega) (by simp)).1; have j0 : w2.cell? ⟨q, 0, none⟩ = some (.slice A0 Out.length c0) := (blk_cell HB2.out 0).trans rfl; have j2 : w2.cell? ⟨q, 2, none⟩ = some (.int .i64 Esc) := (blk_cell HB2.out 2).trans rfl; have j3 : w2.cell? ⟨q, 3, none⟩ = some (.slice A2 3 c2) := (blk_cell HB2.out 3).trans rfl; have j4 : w2.cell? ⟨q, 4, none⟩ = some (.int .u16 wt) := (blk_cell HB2.out 4).trans rfl; have g0 := blk_frozen HB2.out 0; have g2 := blk_frozen HB2.out 2; have g3 := blk_frozen HB2.out 3; have g4 := blk_frozen HB2.out 4; clear hr2 hk2 eg2 eg3))
  go_ret
  have fin : ∀ n, Keeps (fun _ => False) w (w2.drewN n) ∧ RefAt (w2.drewN n) base S q ⟨Out, B, Esc, [a, b, c], wt, Over⟩ := fun n => ⟨HK2.out.drewN n, H.out.keep (HK2.out.drewN n) id (fun _ _ => id)⟩
  exact ⟨rfl, (fin 0).1, (fin 0).2⟩
set_option maxHeartbeats 4000000 in
set_option maxRecDepth 100000 in
theorem rdig_4hf (base q : Nat) (S : Nat → Prop) (Out B : List Int) (Esc : Int) (Over : Bool) (x a b c d wt: Int) (w : World) (h : RefAt w base S q ⟨Out, B, Esc, [a, b, c], wt, Over⟩) (hx : 0 ≤ x ∧ x ≤ 255) (hv : hexV x = d) (hr : 0 ≤ a ∧ a ≤ 15 ∧ 0 ≤ b ∧ b ≤ 15 ∧ 0 ≤ c ∧ c ≤ 15 ∧ 0 ≤ d ∧ d ≤ 15) (ea : a = 13) (eb : b < 12) (hw : 0 < wt) :
    Calls Try.prog 46 #[.pointer (some ⟨q, 0, none⟩), .int .u8 x] w fun e w' => e = .returned (.int .i64 5) ∧ Keeps (fun _ => False) w w' ∧ RefAt w' base S q ⟨Out, B, Esc, [a, b, c], wt, Over⟩ := by
  obtain ⟨A0, c0, A1, c1, A2, c2, h1, h2, h3, h4⟩ := h.row
  simp only [RV.cells, List.length_cons, List.length_nil, Nat.zero_add, Nat.reduceAdd] at h1 h2 h3 h4
  have hh := hex_val x hx.1 hx.2
  rw [hv] at hh
  have k3 : w.cell? ⟨q, 3, none⟩ = some (.slice A2 3 c2) := (blk_cell h1 3).trans rfl
  have ta : (a == 13) = true := beq_iff_eq.mpr ea
  have ta' : (a != 13) = false := by rw [ea]; rfl
  have tb : decide (12 ≤ b) = false := decide_eq_false (by omega)
  have tw : decide (0 < wt) = true := decide_eq_true hw
  have tw2 : (wt == 0) = false := beq_f (by omega)
  have HHx := Aside0.mk hh
  have hb := h.base_.1
  have H1 := Aside0.mk h1
  have H2 := Aside0.mk h2
  have H3 := Aside0.mk h3
  have H4 := Aside0.mk h4
  have H := Aside0.mk h
  have hlt := h.lt
  clear h h1 h2 h3 h4 hh hv ea eb hw
  go_enter Try.func46, Try.ntmps46
  go_wp2_with (first
    | (go_at_call 61; refine (orthoepyref12_hex.calls 12 x d _ HHx.out).mono ?_; rintro e w0 ⟨rfl, hd⟩; obtain ⟨na, hd⟩ := hd.out; subst hd; have k3' : ((w.drewN na).alloc (.cells #[] 3)).cell? ⟨q, 3, none⟩ = some (.slice A2 3 c2) := (World.cell?_alloc_past _ _ _ hlt).trans k3)
    | ((with_reducible refine gate_builtin (b := .append) (xs := #[.tmp 15, .tmp 19]) rfl ?_); at_builtin; refine app_row (Value.int .i64) (0 : Int) base rfl (.tmp 15) (.tmp 19) 29 3 (.int .i64 0) 8 rfl Try.underlying29 infoInt rfl (by decide) (.slice (some ⟨w.heap.size, 0, none⟩) 0 0) [] [a, b, c] [a, b, c] rfl A2 3 c2 (fun k => w.heap.size ≤ k) rfl rfl (Kd.R_of_own (own_lit (w.drewN na) base 3 .i64 [] hb (by simp)) (fun k hk => by simp [Value.ownBlock] at hk; omega)) (Kd.C_alloc (Kd.C_drewN (Kd.R_reads' H4.out).2.2 na) _) (by simp; omega) (by simp) ?_; intro B1 d1 w1 hr1 hk1; have HR1 := Aside0.mk hr1; have HK1 := Aside0.mk ((((Keeps.refl (fun _ => False) w).drewN na).alloc _).trans hk1 (fun k hk => .inr (by simp [Value.ownBlock] at hk; omega))); clear hr1 hk1)
    | ((with_reducible refine gate_builtin (b := .append) (xs := #[.tmp 20, .tmp 22]) rfl ?_); at_builtin; refine app_row (Value.int .i64) (0 : Int) base rfl (.tmp 20) (.tmp 22) 29 3 (.int .i64 0) 8 rfl Try.underlying29 infoInt rfl (by decide) (.slice B1 3 d1) [a, b, c] [d] [a, b, c, d] rfl (some ⟨w1.heap.size, 0, none⟩) 1 1 (fun k => w.heap.size ≤ k) rfl rfl (Kd.R_alloc (Kd.R_mono HR1.out (fun k hk => hk.elim id (fun hn => by have := hn.1; simp at this; omega))) _) (C_one (Value.int .i64) 0 w1 3 d) (by have := HK1.out.size; simp; omega) (by simp) ?_; intro B2 d2 w2 hr2 hk2; have HR2 := Aside0.mk (Kd.R_mono (Kd.R_bound hr2) (ok' := fun k => w.heap.size ≤ k ∧ k < w2.heap.size) (fun k hk => ⟨hk.1.elim id (fun hn => by have h1 := hn.1; have h2 := HK1.out.size; simp at h1; omega), hk.2.2.1⟩)); have HK2 := Aside0.mk ((HK1.out.alloc _).trans hk2 (fun k hk => .inr (HR1.out.1 k hk.symm |>.elim id (fun hn => by have := hn.1; simp at this; omega)))); have HB2 := Aside0.mk (HK2.out.blk H1.out id); obtain ⟨g, dg, eg, _, _⟩ := (Kd.own_of_R HR2.out).form (by simp); injection eg with eg1 eg2 eg3; subst eg1; have z0 : w2.cell? ⟨g, 0, none⟩ = some (.int .i64 a) := (own_at (k := .i64) (xs := [a, b, c, d]) (Kd.own_of_R HR2.out) 0 (by omega) (by simp)).1; have z1 : w2.cell? ⟨g, 1, none⟩ = some (.int .i64 b) := (own_at (k := .i64) (xs := [a, b, c, d]) (Kd.own_of_R HR2.out) 1 (by omega) (by simp)).1; have z2 : w2.cell? ⟨g, 2, none⟩ = some (.int .i64 c) := (own_at (k := .i64) (xs := [a, b, c, d]) (Kd.own_of_R HR2.out) 2 (by omega) (by simp)).1; have z3 : w2.cell? ⟨g, 3, none⟩ = some (.int .i64 d) := (own_at (k := .i64) (xs := [a, b, c, d]) (Kd.own_of_R HR2.out) 3 (by omega) (by simp)).1; have j0 : w2.cell? ⟨q, 0, none⟩ = some (.slice A0 Out.length c0) := (blk_cell HB2.out 0).trans rfl; have j2 : w2.cell? ⟨q, 2, none⟩ = some (.int .i64 Esc) := (blk_cell HB2.out 2).trans rfl; have j3 : w2.cell? ⟨q, 3, none⟩ = some (.slice A2 3 c2) := (blk_cell HB2.out 3).trans rfl; have j4 : w2.cell? ⟨q, 4, none⟩ = some (.int .u16 wt) := (blk_cell HB2.out 4).trans rfl; have g0 := blk_frozen HB2.out 0; have g2 := blk_frozen HB2.out 2; have g3 := blk_frozen HB2.out 3; have g4 := blk_frozen HB2.out 4; clear hr2 hk2 eg2 eg3))
  go_ret
  have fin : ∀ n, Keeps (fun _ => False) w (w2.drewN n) ∧ RefAt (w2.drewN n) base S q ⟨Out, B, Esc, [a, b, c], wt, Over⟩ := fun n => ⟨HK2.out.drewN n, H.out.keep (HK2.out.drewN n) id (fun _ _ => id)⟩
  exact ⟨rfl, (fin 0).1, (fin 0).2⟩
set_option maxHeartbeats 4000000 in
set_option maxRecDepth 100000 in
theorem rdig_4zl (base q : Nat) (S : Nat → Prop) (Out B : List Int) (Esc : Int) (Over : Bool) (x a b c d wt: Int) (w : World) (h : RefAt w base S q ⟨Out, B, Esc, [a, b, c], 0, Over⟩) (hx : 0 ≤ x ∧ x ≤ 255) (hv : hexV x = d) (hr : 0 ≤ a ∧ a ≤ 15 ∧ 0 ≤ b ∧ b ≤ 15 ∧ 0 ≤ c ∧ c ≤ 15 ∧ 0 ≤ d ∧ d ≤ 15) (ea : a = 13) (eb : 12 ≤ b) :
    Calls Try.prog 46 #[.pointer (some ⟨q, 0, none⟩), .int .u8 x] w fun e w' => e = .returned (.int .i64 5) ∧ Keeps (fun _ => False) w w' ∧ RefAt w' base S q ⟨Out, B, Esc, [a, b, c], 0, Over⟩ := by
  obtain ⟨A0, c0, A1, c1, A2, c2, h1, h2, h3, h4⟩ := h.row
  simp only [RV.cells, List.length_cons, List.length_nil, Nat.zero_add, Nat.reduceAdd] at h1 h2 h3 h4
  have hh := hex_val x hx.1 hx.2
  rw [hv] at hh
  have k3 : w.cell? ⟨q, 3, none⟩ = some (.slice A2 3 c2) := (blk_cell h1 3).trans rfl
  have ta : (a == 13) = true := beq_iff_eq.mpr ea
  have ta' : (a != 13) = false := by rw [ea]; rfl
  have tb : decide (12 ≤ b) = true := decide_eq_true eb
  have HHx := Aside0.mk hh
  have hb := h.base_.1
  have H1 := Aside0.mk h1
  have H2 := Aside0.mk h2
  have H3 := Aside0.mk h3
  have H4 := Aside0.mk h4
  have H := Aside0.mk h
  have hlt := h.lt
  clear h h1 h2 h3 h4 hh hv ea eb
  go_enter Try.func46, Try.ntmps46
  go_wp2_with (first
    | (go_at_call 61; refine (orthoepyref12_hex.calls 12 x d _ HHx.out).mono ?_; rintro e w0 ⟨rfl, hd⟩; obtain ⟨na, hd⟩ := hd.out; subst hd; have k3' : ((w.drewN na).alloc (.cells #[] 3)).cell? ⟨q, 3, none⟩ = some (.slice A2 3 c2) := (World.cell?_alloc_past _ _ _ hlt).trans k3)
    | ((with_reducible refine gate_builtin (b := .append) (xs := #[.tmp 15, .tmp 19]) rfl ?_); at_builtin; refine app_row (Value.int .i64) (0 : Int) base rfl (.tmp 15) (.tmp 19) 29 3 (.int .i64 0) 8 rfl Try.underlying29 infoInt rfl (by decide) (.slice (some ⟨w.heap.size, 0, none⟩) 0 0) [] [a, b, c] [a, b, c] rfl A2 3 c2 (fun k => w.heap.size ≤ k) rfl rfl (Kd.R_of_own (own_lit (w.drewN na) base 3 .i64 [] hb (by simp)) (fun k hk => by simp [Value.ownBlock] at hk; omega)) (Kd.C_alloc (Kd.C_drewN (Kd.R_reads' H4.out).2.2 na) _) (by simp; omega) (by simp) ?_; intro B1 d1 w1 hr1 hk1; have HR1 := Aside0.mk hr1; have HK1 := Aside0.mk ((((Keeps.refl (fun _ => False) w).drewN na).alloc _).trans hk1 (fun k hk => .inr (by simp [Value.ownBlock] at hk; omega))); clear hr1 hk1)
    | ((with_reducible refine gate_builtin (b := .append) (xs := #[.tmp 20, .tmp 22]) rfl ?_); at_builtin; refine app_row (Value.int .i64) (0 : Int) base rfl (.tmp 20) (.tmp 22) 29 3 (.int .i64 0) 8 rfl Try.underlying29 infoInt rfl (by decide) (.slice B1 3 d1) [a, b, c] [d] [a, b, c, d] rfl (some ⟨w1.heap.size, 0, none⟩) 1 1 (fun k => w.heap.size ≤ k) rfl rfl (Kd.R_alloc (Kd.R_mono HR1.out (fun k hk => hk.elim id (fun hn => by have := hn.1; simp at this; omega))) _) (C_one (Value.int .i64) 0 w1 3 d) (by have := HK1.out.size; simp; omega) (by simp) ?_; intro B2 d2 w2 hr2 hk2; have HR2 := Aside0.mk (Kd.R_mono (Kd.R_bound hr2) (ok' := fun k => w.heap.size ≤ k ∧ k < w2.heap.size) (fun k hk => ⟨hk.1.elim id (fun hn => by have h1 := hn.1; have h2 := HK1.out.size; simp at h1; omega), hk.2.2.1⟩)); have HK2 := Aside0.mk ((HK1.out.alloc _).trans hk2 (fun k hk => .inr (HR1.out.1 k hk.symm |>.elim id (fun hn => by have := hn.1; simp at this; omega)))); have HB2 := Aside0.mk (HK2.out.blk H1.out id); obtain ⟨g, dg, eg, _, _⟩ := (Kd.own_of_R HR2.out).form (by simp); injection eg with eg1 eg2 eg3; subst eg1; have z0 : w2.cell? ⟨g, 0, none⟩ = some (.int .i64 a) := (own_at (k := .i64) (xs := [a, b, c, d]) (Kd.own_of_R HR2.out) 0 (by omega) (by simp)).1; have z1 : w2.cell? ⟨g, 1, none⟩ = some (.int .i64 b) := (own_at (k := .i64) (xs := [a, b, c, d]) (Kd.own_of_R HR2.out) 1 (by omega) (by simp)).1; have z2 : w2.cell? ⟨g, 2, none⟩ = some (.int .i64 c) := (own_at (k := .i64) (xs := [a, b, c, d]) (Kd.own_of_R HR2.out) 2 (by omega) (by simp)).1; have z3 : w2.cell? ⟨g, 3, none⟩ = some (.int .i64 d) := (own_at (k := .i64) (xs := [a, b, c, d]) (Kd.own_of_R HR2.out) 3 (by omega) (by simp)).1; have j0 : w2.cell? ⟨q, 0, none⟩ = some (.slice A0 Out.length c0) := (blk_cell HB2.out 0).trans rfl; have j2 : w2.cell? ⟨q, 2, none⟩ = some (.int .i64 Esc) := (blk_cell HB2.out 2).trans rfl; have j3 : w2.cell? ⟨q, 3, none⟩ = some (.slice A2 3 c2) := (blk_cell HB2.out 3).trans rfl; have j4 : w2.cell? ⟨q, 4, none⟩ = some (.int .u16 0) := (blk_cell HB2.out 4).trans rfl; have g0 := blk_frozen HB2.out 0; have g2 := blk_frozen HB2.out 2; have g3 := blk_frozen HB2.out 3; have g4 := blk_frozen HB2.out 4; clear hr2 hk2 eg2 eg3))
  go_ret
  have fin : ∀ n, Keeps (fun _ => False) w (w2.drewN n) ∧ RefAt (w2.drewN n) base S q ⟨Out, B, Esc, [a, b, c], 0, Over⟩ := fun n => ⟨HK2.out.drewN n, H.out.keep (HK2.out.drewN n) id (fun _ _ => id)⟩
  exact ⟨rfl, (fin 0).1, (fin 0).2⟩
set_option maxHeartbeats 4000000 in
set_option maxRecDepth 100000 in
theorem rdig_2hy (base q : Nat) (S : Nat → Prop) (Out B : List Int) (Esc : Int) (Over : Bool) (x a b wt: Int) (w : World) (h : RefAt w base S q ⟨Out, B, Esc, [a], wt, Over⟩) (hx : 0 ≤ x ∧ x ≤ 255) (hv : hexV x = b) (hr : 0 ≤ a ∧ a ≤ 15 ∧ 0 ≤ b ∧ b ≤ 15) (ea : a = 13) (eb : 12 ≤ b) (hw : 0 < wt) :
    Calls Try.prog 46 #[.pointer (some ⟨q, 0, none⟩), .int .u8 x] w fun e w' => e = .returned (.int .i64 0) ∧ Keeps (MineR S q) w w' ∧ RefAt w' base (More S w w') q ⟨Out, B, Esc, [a, b], wt, Over⟩ := by
  obtain ⟨A0, c0, A1, c1, A2, c2, h1, h2, h3, h4⟩ := h.row
  simp only [RV.cells, List.length_cons, List.length_nil, Nat.zero_add, Nat.reduceAdd] at h1 h2 h3 h4
  have hh := hex_val x hx.1 hx.2
  rw [hv] at hh
  have k3 : w.cell? ⟨q, 3, none⟩ = some (.slice A2 1 c2) := (blk_cell h1 3).trans rfl
  have ta : (a == 13) = true := beq_iff_eq.mpr ea
  have ta' : (a != 13) = false := by rw [ea]; rfl
  have tb : decide (12 ≤ b) = true := decide_eq_true eb
  have tw : decide (0 < wt) = true := decide_eq_true hw
  have tw2 : (wt == 0) = false := beq_f (by omega)
  have HHx := Aside0.mk hh
  have hb := h.base_.1
  have H1 := Aside0.mk h1
  have H2 := Aside0.mk h2
  have H3 := Aside0.mk h3
  have H4 := Aside0.mk h4
  have H := Aside0.mk h
  have hlt := h.lt
  clear h h1 h2 h3 h4 hh hv ea eb hw
  go_enter Try.func46, Try.ntmps46
  go_wp2_with (first
    | (go_at_call 61; refine (orthoepyref12_hex.calls 12 x b _ HHx.out).mono ?_; rintro e w0 ⟨rfl, hd⟩; obtain ⟨na, hd⟩ := hd.out; subst hd; have k3' : ((w.drewN na).alloc (.cells #[] 3)).cell? ⟨q, 3, none⟩ = some (.slice A2 1 c2) := (World.cell?_alloc_past _ _ _ hlt).trans k3)
    | ((with_reducible refine gate_builtin (b := .append) (xs := #[.tmp 15, .tmp 19]) rfl ?_); at_builtin; refine app_row (Value.int .i64) (0 : Int) base rfl (.tmp 15) (.tmp 19) 29 3 (.int .i64 0) 8 rfl Try.underlying29 infoInt rfl (by decide) (.slice (some ⟨w.heap.size, 0, none⟩) 0 0) [] [a] [a] rfl A2 1 c2 (fun k => w.heap.size ≤ k) rfl rfl (Kd.R_of_own (own_lit (w.drewN na) base 3 .i64 [] hb (by simp)) (fun k hk => by simp [Value.ownBlock] at hk; omega)) (Kd.C_alloc (Kd.C_drewN (Kd.R_reads' H4.out).2.2 na) _) (by simp; omega) (by simp) ?_; intro B1 d1 w1 hr1 hk1; have HR1 := Aside0.mk hr1; have HK1 := Aside0.mk ((((Keeps.refl (fun _ => False) w).drewN na).alloc _).trans hk1 (fun k hk => .inr (by simp [Value.ownBlock] at hk; omega))); clear hr1 hk1)
    | ((with_reducible refine gate_builtin (b := .append) (xs := #[.tmp 20, .tmp 22]) rfl ?_); at_builtin; refine app_row (Value.int .i64) (0 : Int) base rfl (.tmp 20) (.tmp 22) 29 3 (.int .i64 0) 8 rfl Try.underlying29 infoInt rfl (by decide) (.slice B1 1 d1) [a] [b] [a, b] rfl (some ⟨w1.heap.size, 0, none⟩) 1 1 (fun k => w.heap.size ≤ k) rfl rfl (Kd.R_alloc (Kd.R_mono HR1.out (fun k hk => hk.elim id (fun hn => by have := hn.1; simp at this; omega))) _) (C_one (Value.int .i64) 0 w1 3 b) (by have := HK1.out.size; simp; omega) (by simp) ?_; intro B2 d2 w2 hr2 hk2; have HR2 := Aside0.mk (Kd.R_mono (Kd.R_bound hr2) (ok' := fun k => w.heap.size ≤ k ∧ k < w2.heap.size) (fun k hk => ⟨hk.1.elim id (fun hn => by have h1 := hn.1; have h2 := HK1.out.size; simp at h1; omega), hk.2.2.1⟩)); have HK2 := Aside0.mk ((HK1.out.alloc _).trans hk2 (fun k hk => .inr (HR1.out.1 k hk.symm |>.elim id (fun hn => by have := hn.1; simp at this; omega)))); have HB2 := Aside0.mk (HK2.out.blk H1.out id); obtain ⟨g, dg, eg, _, _⟩ := (Kd.own_of_R HR2.out).form (by simp); injection eg with eg1 eg2 eg3; subst eg1; have z0 : w2.cell? ⟨g, 0, none⟩ = some (.int .i64 a) := (own_at (k := .i64) (xs := [a, b]) (Kd.own_of_R HR2.out) 0 (by omega) (by simp)).1; have z1 : w2.cell? ⟨g, 1, none⟩ = some (.int .i64 b) := (own_at (k := .i64) (xs := [a, b]) (Kd.own_of_R HR2.out) 1 (by omega) (by simp)).1; have j0 : w2.cell? ⟨q, 0, none⟩ = some (.slice A0 Out.length c0) := (blk_cell HB2.out 0).trans rfl; have j2 : w2.cell? ⟨q, 2, none⟩ = some (.int .i64 Esc) := (blk_cell HB2.out 2).trans rfl; have j3 : w2.cell? ⟨q, 3, none⟩ = some (.slice A2 1 c2) := (blk_cell HB2.out 3).trans rfl; have j4 : w2.cell? ⟨q, 4, none⟩ = some (.int .u16 wt) := (blk_cell HB2.out 4).trans rfl; have g0 := blk_frozen HB2.out 0; have g2 := blk_frozen HB2.out 2; have g3 := blk_frozen HB2.out 3; have g4 := blk_frozen HB2.out 4; clear hr2 hk2 eg2 eg3))
  go_ret
  have hk0 := ((Keeps.refl (fun k => k = q) w2).at_ rfl 3 (.slice (some ⟨g, 0, none⟩) 2 d2))
  have hk : Keeps (fun k => k = q) w _ := (HK2.out.mono (fun _ h => h.elim)).trans hk0 (fun _ h => .inl h)
  have hq : ∀ k, S k → ¬ k = q := H.out.ne
  refine ⟨rfl, hk.mono (fun _ h => .inl h), ⟨⟨A0, c0, A1, c1, some ⟨g, 0, none⟩, d2, (blk_set HB2.out 3 _).trans rfl, Kd.R_mono (hk.R H2.out hq) (fun _ h => .inl h), Kd.R_mono (hk.R H3.out hq) (fun _ h => .inl h), Kd.R_mono (hk0.R HR2.out (fun k hh => by have := hh.1; omega)) (fun k hh => .inr ⟨hh.1, Nat.lt_of_lt_of_le hh.2 hk0.size⟩)⟩, more_ne1 H.out.ne hlt, ⟨Nat.le_trans hb hk.size, H.out.base_.2⟩, more_lt H.out.slt hk.size⟩⟩
set_option maxHeartbeats 4000000 in
set_option maxRecDepth 100000 in
theorem rdig_2zs (base q : Nat) (S : Nat → Prop) (Out B : List Int) (Esc : Int) (Over : Bool) (x a b wt: Int) (w : World) (h : RefAt w base S q ⟨Out, B, Esc, [a], 0, Over⟩) (hx : 0 ≤ x ∧ x ≤ 255) (hv : hexV x = b) (hr : 0 ≤ a ∧ a ≤ 15 ∧ 0 ≤ b ∧ b ≤ 15) (ea : a ≠ 13) :
    Calls Try.prog 46 #[.pointer (some ⟨q, 0, none⟩), .int .u8 x] w fun e w' => e = .returned (.int .i64 0) ∧ Keeps (MineR S q) w w' ∧ RefAt w' base (More S w w') q ⟨Out, B, Esc, [a, b], 0, Over⟩ := by
  obtain ⟨A0, c0, A1, c1, A2, c2, h1, h2, h3, h4⟩ := h.row
  simp only [RV.cells, List.length_cons, List.length_nil, Nat.zero_add, Nat.reduceAdd] at h1 h2 h3 h4
  have hh := hex_val x hx.1 hx.2
  rw [hv] at hh
  have k3 : w.cell? ⟨q, 3, none⟩ = some (.slice A2 1 c2) := (blk_cell h1 3).trans rfl
  have ta : (a == 13) = false := beq_f ea
  have ta' : (a != 13) = true := bne_t ea
  have HHx := Aside0.mk hh
  have hb := h.base_.1
  have H1 := Aside0.mk h1
  have H2 := Aside0.mk h2
  have H3 := Aside0.mk h3
  have H4 := Aside0.mk h4
  have H := Aside0.mk h
  have hlt := h.lt
  clear h h1 h2 h3 h4 hh hv ea
  go_enter Try.func46, Try.ntmps46
  go_wp2_with (first
    | (go_at_call 61; refine (orthoepyref12_hex.calls 12 x b _ HHx.out).mono ?_; rintro e w0 ⟨rfl, hd⟩; obtain ⟨na, hd⟩ := hd.out; subst hd; have k3' : ((w.drewN na).alloc (.cells #[] 3)).cell? ⟨q, 3, none⟩ = some (.slice A2 1 c2) := (World.cell?_alloc_past _ _ _ hlt).trans k3)
    | ((with_reducible refine gate_builtin (b := .append) (xs := #[.tmp 15, .tmp 19]) rfl ?_); at_builtin; refine app_row (Value.int .i64) (0 : Int) base rfl (.tmp 15) (.tmp 19) 29 3 (.int .i64 0) 8 rfl Try.underlying29 infoInt rfl (by decide) (.slice (some ⟨w.heap.size, 0, none⟩) 0 0) [] [a] [a] rfl A2 1 c2 (fun k => w.heap.size ≤ k) rfl rfl (Kd.R_of_own (own_lit (w.drewN na) base 3 .i64 [] hb (by simp)) (fun k hk => by simp [Value.ownBlock] at hk; omega)) (Kd.C_alloc (Kd.C_drewN (Kd.R_reads' H4.out).2.2 na) _) (by simp; omega) (by simp) ?_; intro B1 d1 w1 hr1 hk1; have HR1 := Aside0.mk hr1; have HK1 := Aside0.mk ((((Keeps.refl (fun _ => False) w).drewN na).alloc _).trans hk1 (fun k hk => .inr (by simp [Value.ownBlock] at hk; omega))); clear hr1 hk1)
    | ((with_reducible refine gate_builtin (b := .append) (xs := #[.tmp 20, .tmp 22]) rfl ?_); at_builtin; refine app_row (Value.int .i64) (0 : Int) base rfl (.tmp 20) (.tmp 22) 29 3 (.int .i64 0) 8 rfl Try.underlying29 infoInt rfl (by decide) (.slice B1 1 d1) [a] [b] [a, b] rfl (some ⟨w1.heap.size, 0, none⟩) 1 1 (fun k => w.heap.size ≤ k) rfl rfl (Kd.R_alloc (Kd.R_mono HR1.out (fun k hk => hk.elim id (fun hn => by have := hn.1; simp at this; omega))) _) (C_one (Value.int .i64) 0 w1 3 b) (by have := HK1.out.size; simp; omega) (by simp) ?_; intro B2 d2 w2 hr2 hk2; have HR2 := Aside0.mk (Kd.R_mono (Kd.R_bound hr2) (ok' := fun k => w.heap.size ≤ k ∧ k < w2.heap.size) (fun k hk => ⟨hk.1.elim id (fun hn => by have h1 := hn.1; have h2 := HK1.out.size; simp at h1; omega), hk.2.2.1⟩)); have HK2 := Aside0.mk ((HK1.out.alloc _).trans hk2 (fun k hk => .inr (HR1.out.1 k hk.symm |>.elim id (fun hn => by have := hn.1; simp at this; omega)))); have HB2 := Aside0.mk (HK2.out.blk H1.out id); obtain ⟨g, dg, eg, _, _⟩ := (Kd.own_of_R HR2.out).form (by simp); injection eg with eg1 eg2 eg3; subst eg1; have z0 : w2.cell? ⟨g, 0, none⟩ = some (.int .i64 a) := (own_at (k := .i64) (xs := [a, b]) (Kd.own_of_R HR2.out) 0 (by omega) (by simp)).1; have z1 : w2.cell? ⟨g, 1, none⟩ = some (.int .i64 b) := (own_at (k := .i64) (xs := [a, b]) (Kd.own_of_R HR2.out) 1 (by omega) (by simp)).1; have j0 : w2.cell? ⟨q, 0, none⟩ = some (.slice A0 Out.length c0) := (blk_cell HB2.out 0).trans rfl; have j2 : w2.cell? ⟨q, 2, none⟩ = some (.int .i64 Esc) := (blk_cell HB2.out 2).trans rfl; have j3 : w2.cell? ⟨q, 3, none⟩ = some (.slice A2 1 c2) := (blk_cell HB2.out 3).trans rfl; have j4 : w2.cell? ⟨q, 4, none⟩ = some (.int .u16 0) := (blk_cell HB2.out 4).trans rfl; have g0 := blk_frozen HB2.out 0; have g2 := blk_frozen HB2.out 2; have g3 := blk_frozen HB2.out 3; have g4 := blk_frozen HB2.out 4; clear hr2 hk2 eg2 eg3))
  go_ret
  have hk0 := ((Keeps.refl (fun k => k = q) w2).at_ rfl 3 (.slice (some ⟨g, 0, none⟩) 2 d2))
  have hk : Keeps (fun k => k = q) w _ := (HK2.out.mono (fun _ h => h.elim)).trans hk0 (fun _ h => .inl h)
  have hq : ∀ k, S k → ¬ k = q := H.out.ne
  refine ⟨rfl, hk.mono (fun _ h => .inl h), ⟨⟨A0, c0, A1, c1, some ⟨g, 0, none⟩, d2, (blk_set HB2.out 3 _).trans rfl, Kd.R_mono (hk.R H2.out hq) (fun _ h => .inl h), Kd.R_mono (hk.R H3.out hq) (fun _ h => .inl h), Kd.R_mono (hk0.R HR2.out (fun k hh => by have := hh.1; omega)) (fun k hh => .inr ⟨hh.1, Nat.lt_of_lt_of_le hh.2 hk0.size⟩)⟩, more_ne1 H.out.ne hlt, ⟨Nat.le_trans hb hk.size, H.out.base_.2⟩, more_lt H.out.slt hk.size⟩⟩
set_option maxHeartbeats 4000000 in
set_option maxRecDepth 100000 in
theorem rdig_2zt (base q : Nat) (S : Nat → Prop) (Out B : List Int) (Esc : Int) (Over : Bool) (x a b wt: Int) (w : World) (h : RefAt w base S q ⟨Out, B, Esc, [a], 0, Over⟩) (hx : 0 ≤ x ∧ x ≤ 255) (hv : hexV x = b) (hr : 0 ≤ a ∧ a ≤ 15 ∧ 0 ≤ b ∧ b ≤ 15) (ea : a = 13) (eb : b < 12) :
    Calls Try.prog 46 #[.pointer (some ⟨q, 0, none⟩), .int .u8 x] w fun e w' => e = .returned (.int .i64 0) ∧ Keeps (MineR S q) w w' ∧ RefAt w' base (More S w w') q ⟨Out, B, Esc, [a, b], 0, Over⟩ := by
  obtain ⟨A0, c0, A1, c1, A2, c2, h1, h2, h3, h4⟩ := h.row
  simp only [RV.cells, List.length_cons, List.length_nil, Nat.zero_add, Nat.reduceAdd] at h1 h2 h3 h4
  have hh := hex_val x hx.1 hx.2
  rw [hv] at hh
  have k3 : w.cell? ⟨q, 3, none⟩ = some (.slice A2 1 c2) := (blk_cell h1 3).trans rfl
  have ta : (a == 13) = true := beq_iff_eq.mpr ea
  have ta' : (a != 13) = false := by rw [ea]; rfl
  have tb : decide (12 ≤ b) = false := decide_eq_false (by omega)
  have HHx := Aside0.mk hh
  have hb := h.base_.1
  have H1 := Aside0.mk h1
  have H2 := Aside0.mk h2
  have H3 := Aside0.mk h3
  have H4 := Aside0.mk h4
  have H := Aside0.mk h
  have hlt := h.lt
  clear h h1 h2 h3 h4 hh hv ea eb
  go_enter Try.func46, Try.ntmps46
  go_wp2_with (first
    | (go_at_call 61; refine (orthoepyref12_hex.calls 12 x b _ HHx.out).mono ?_; rintro e w0 ⟨rfl, hd⟩; obtain ⟨na, hd⟩ := hd.out; subst hd; have k3' : ((w.drewN na).alloc (.cells #[] 3)).cell? ⟨q, 3, none⟩ = some (.slice A2 1 c2) := (World.cell?_alloc_past _ _ _ hlt).trans k3)
    | ((with_reducible refine gate_builtin (b := .append) (xs := #[.tmp 15, .tmp 19]) rfl ?_); at_builtin; refine app_row (Value.int .i64) (0 : Int) base rfl (.tmp 15) (.tmp 19) 29 3 (.int .i64 0) 8 rfl Try.underlying29 infoInt rfl (by decide) (.slice (some ⟨w.heap.size, 0, none⟩) 0 0) [] [a] [a] rfl A2 1 c2 (fun k => w.heap.size ≤ k) rfl rfl (Kd.R_of_own (own_lit (w.drewN na) base 3 .i64 [] hb (by simp)) (fun k hk => by simp [Value.ownBlock] at hk; omega)) (Kd.C_alloc (Kd.C_drewN (Kd.R_reads' H4.out).2.2 na) _) (by simp; omega) (by simp) ?_; intro B1 d1 w1 hr1 hk1; have HR1 := Aside0.mk hr1; have HK1 := Aside0.mk ((((Keeps.refl (fun _ => False) w).drewN na).alloc _).trans hk1 (fun k hk => .inr (by simp [Value.ownBlock] at hk; omega))); clear hr1 hk1)
    | ((with_reducible refine gate_builtin (b := .append) (xs := #[.tmp 20, .tmp 22]) rfl ?_); at_builtin; refine app_row (Value.int .i64) (0 : Int) base rfl (.tmp 20) (.tmp 22) 29 3 (.int .i64 0) 8 rfl Try.underlying29 infoInt rfl (by decide) (.slice B1 1 d1) [a] [b] [a, b] rfl (some ⟨w1.heap.size, 0, none⟩) 1 1 (fun k => w.heap.size ≤ k) rfl rfl (Kd.R_alloc (Kd.R_mono HR1.out (fun k hk => hk.elim id (fun hn => by have := hn.1; simp at this; omega))) _) (C_one (Value.int .i64) 0 w1 3 b) (by have := HK1.out.size; simp; omega) (by simp) ?_; intro B2 d2 w2 hr2 hk2; have HR2 := Aside0.mk (Kd.R_mono (Kd.R_bound hr2) (ok' := fun k => w.heap.size ≤ k ∧ k < w2.heap.size) (fun k hk => ⟨hk.1.elim id (fun hn => by have h1 := hn.1; have h2 := HK1.out.size; simp at h1; omega), hk.2.2.1⟩)); have HK2 := Aside0.mk ((HK1.out.alloc _).trans hk2 (fun k hk => .inr (HR1.out.1 k hk.symm |>.elim id (fun hn => by have := hn.1; simp at this; omega)))); have HB2 := Aside0.mk (HK2.out.blk H1.out id); obtain ⟨g, dg, eg, _, _⟩ := (Kd.own_of_R HR2.out).form (by simp); injection eg with eg1 eg2 eg3; subst eg1; have z0 : w2.cell? ⟨g, 0, none⟩ = some (.int .i64 a) := (own_at (k := .i64) (xs := [a, b]) (Kd.own_of_R HR2.out) 0 (by omega) (by simp)).1; have z1 : w2.cell? ⟨g, 1, none⟩ = some (.int .i64 b) := (own_at (k := .i64) (xs := [a, b]) (Kd.own_of_R HR2.out) 1 (by omega) (by simp)).1; have j0 : w2.cell? ⟨q, 0, none⟩ = some (.slice A0 Out.length c0) := (blk_cell HB2.out 0).trans rfl; have j2 : w2.cell? ⟨q, 2, none⟩ = some (.int .i64 Esc) := (blk_cell HB2.out 2).trans rfl; have j3 : w2.cell? ⟨q, 3, none⟩ = some (.slice A2 1 c2) := (blk_cell HB2.out 3).trans rfl; have j4 : w2.cell? ⟨q, 4, none⟩ = some (.int .u16 0) := (blk_cell HB2.out 4).trans rfl; have g0 := blk_frozen HB2.out 0; have g2 := blk_frozen HB2.out 2; have g3 := blk_frozen HB2.out 3; have g4 := blk_frozen HB2.out 4; clear hr2 hk2 eg2 eg3))
  go_ret
  have hk0 := ((Keeps.refl (fun k => k = q) w2).at_ rfl 3 (.slice (some ⟨g, 0, none⟩) 2 d2))
  have hk : Keeps (fun k => k = q) w _ := (HK2.out.mono (fun _ h => h.elim)).trans hk0 (fun _ h => .inl h)
  have hq : ∀ k, S k → ¬ k = q := H.out.ne
  refine ⟨rfl, hk.mono (fun _ h => .inl h), ⟨⟨A0, c0, A1, c1, some ⟨g, 0, none⟩, d2, (blk_set HB2.out 3 _).trans rfl, Kd.R_mono (hk.R H2.out hq) (fun _ h => .inl h), Kd.R_mono (hk.R H3.out hq) (fun _ h => .inl h), Kd.R_mono (hk0.R HR2.out (fun k hh => by have := hh.1; omega)) (fun k hh => .inr ⟨hh.1, Nat.lt_of_lt_of_le hh.2 hk0.size⟩)⟩, more_ne1 H.out.ne hlt, ⟨Nat.le_trans hb hk.size, H.out.base_.2⟩, more_lt H.out.slt hk.size⟩⟩
set_option maxHeartbeats 4000000 in
set_option maxRecDepth 100000 in
theorem rdig_3hy (base q : Nat) (S : Nat → Prop) (Out B : List Int) (Esc : Int) (Over : Bool) (x a b c wt: Int) (w : World) (h : RefAt w base S q ⟨Out, B, Esc, [a, b], wt, Over⟩) (hx : 0 ≤ x ∧ x ≤ 255) (hv : hexV x = c) (hr : 0 ≤ a ∧ a ≤ 15 ∧ 0 ≤ b ∧ b ≤ 15 ∧ 0 ≤ c ∧ c ≤ 15) (ea : a = 13) (eb : 12 ≤ b) (hw : 0 < wt) :
    Calls Try.prog 46 #[.pointer (some ⟨q, 0, none⟩), .int .u8 x] w fun e w' => e = .returned (.int .i64 0) ∧ Keeps (MineR S q) w w' ∧ RefAt w' base (More S w w') q ⟨Out, B, Esc, [a, b, c], wt, Over⟩ := by
  obtain ⟨A0, c0, A1, c1, A2, c2, h1, h2, h3, h4⟩ := h.row
  simp only [RV.cells, List.length_cons, List.length_nil, Nat.zero_add, Nat.reduceAdd] at h1 h2 h3 h4
  have hh := hex_val x hx.1 hx.2
  rw [hv] at hh
  have k3 : w.cell? ⟨q, 3, none⟩ = some (.slice A2 2 c2) := (blk_cell h1 3).trans rfl
  have ta : (a == 13) = true := beq_iff_eq.mpr ea
  have ta' : (a != 13) = false := by rw [ea]; rfl
  have tb : decide (12 ≤ b) = true := decide_eq_true eb
  have tw : decide (0 < wt) = true := decide_eq_true hw
  have tw2 : (wt == 0) = false := beq_f (by omega)
  have HHx := Aside0.mk hh
  have hb := h.base_.1
  have H1 := Aside0.mk h1
  have H2 := Aside0.mk h2
  have H3 := Aside0.mk h3
  have H4 := Aside0.mk h4
  have H := Aside0.mk h
  have hlt := h.lt
  clear h h1 h2 h3 h4 hh hv ea eb hw
  go_enter Try.func46, Try.ntmps46
  go_wp2_with (first
    | (go_at_call 61; refine (orthoepyref12_hex.calls 12 x c _ HHx.out).mono ?_; rintro e w0 ⟨rfl, hd⟩; obtain ⟨na, hd⟩ := hd.out; subst hd; have k3' : ((w.drewN na).alloc (.cells #[] 3)).cell? ⟨q, 3, none⟩ = some (.slice A2 2 c2) := (World.cell?_alloc_past _ _ _ hlt).trans k3)
    | ((with_reducible refine gate_builtin (b := .append) (xs := #[.tmp 15, .tmp 19]) rfl ?_); at_builtin; refine app_row (Value.int .i64) (0 : Int) base rfl (.tmp 15) (.tmp 19) 29 3 (.int .i64 0) 8 rfl Try.underlying29 infoInt rfl (by decide) (.slice (some ⟨w.heap.size, 0, none⟩) 0 0) [] [a, b] [a, b] rfl A2 2 c2 (fun k => w.heap.size ≤ k) rfl rfl (Kd.R_of_own (own_lit (w.drewN na) base 3 .i64 [] hb (by simp)) (fun k hk => by simp [Value.ownBlock] at hk; omega)) (Kd.C_alloc (Kd.C_drewN (Kd.R_reads' H4.out).2.2 na) _) (by simp; omega) (by simp) ?_; intro B1 d1 w1 hr1 hk1; have HR1 := Aside0.mk hr1; have HK1 := Aside0.mk ((((Keeps.refl (fun _ => False) w).drewN na).alloc _).trans hk1 (fun k hk => .inr (by simp [Value.ownBlock] at hk; omega))); clear hr1 hk1)
    | ((with_reducible refine gate_builtin (b := .append) (xs := #[.tmp 20, .tmp 22]) rfl ?_); at_builtin; refine app_row (Value.int .i64) (0 : Int) base rfl (.tmp 20) (.tmp 22) 29 3 (.int .i64 0) 8 rfl Try.underlying29 infoInt rfl (by decide) (.slice B1 2 d1) [a, b] [c] [a, b, c] rfl (some ⟨w1.heap.size, 0, none⟩) 1 1 (fun k => w.heap.size ≤ k) rfl rfl (Kd.R_alloc (Kd.R_mono HR1.out (fun k hk => hk.elim id (fun hn => by have := hn.1; simp at this; omega))) _) (C_one (Value.int .i64) 0 w1 3 c) (by have := HK1.out.size; simp; omega) (by simp) ?_; intro B2 d2 w2 hr2 hk2; have HR2 := Aside0.mk (Kd.R_mono (Kd.R_bound hr2) (ok' := fun k => w.heap.size ≤ k ∧ k < w2.heap.size) (fun k hk => ⟨hk.1.elim id (fun hn => by have h1 := hn.1; have h2 := HK1.out.size; simp at h1; omega), hk.2.2.1⟩)); have HK2 := Aside0.mk ((HK1.out.alloc _).trans hk2 (fun k hk => .inr (HR1.out.1 k hk.symm |>.elim id (fun hn => by have := hn.1; simp at this; omega)))); have HB2 := Aside0.mk (HK2.out.blk H1.out id); obtain ⟨g, dg, eg, _, _⟩ := (Kd.own_of_R HR2.out).form (by simp); injection eg with eg1 eg2 eg3; subst eg1; have z0 : w2.cell? ⟨g, 0, none⟩ = some (.int .i64 a) := (own_at (k := .i64) (xs := [a, b, c]) (Kd.own_of_R HR2.out) 0 (by omega) (by simp)).1; have z1 : w2.cell? ⟨g, 1, none⟩ = some (.int .i64 b) := (own_at (k := .i64) (xs := [a, b, c]) (Kd.own_of_R HR2.out) 1 (by omega) (by simp)).1; have z2 : w2.cell? ⟨g, 2, none⟩ = some (.int .i64 c) := (own_at (k := .i64) (xs := [a, b, c]) (Kd.own_of_R HR2.out) 2 (by omega) (by simp)).1; have j0 : w2.cell? ⟨q, 0, none⟩ = some (.slice A0 Out.length c0) := (blk_cell HB2.out 0).trans rfl; have j2 : w2.cell? ⟨q, 2, none⟩ = some (.int .i64 Esc) := (blk_cell HB2.out 2).trans rfl; have j3 : w2.cell? ⟨q, 3, none⟩ = some (.slice A2 2 c2) := (blk_cell HB2.out 3).trans rfl; have j4 : w2.cell? ⟨q, 4, none⟩ = some (.int .u16 wt) := (blk_cell HB2.out 4).trans rfl; have g0 := blk_frozen HB2.out 0; have g2 := blk_frozen HB2.out 2; have g3 := blk_frozen HB2.out 3; have g4 := blk_frozen HB2.out 4; clear hr2 hk2 eg2 eg3))
  go_ret
  have hk0 := ((Keeps.refl (fun k => k = q) w2).at_ rfl 3 (.slice (some ⟨g, 0, none⟩) 3 d2))
  have hk : Keeps (fun k => k = q) w _ := (HK2.out.mono (fun _ h => h.elim)).trans hk0 (fun _ h => .inl h)
  have hq : ∀ k, S k → ¬ k = q := H.out.ne
  refine ⟨rfl, hk.mono (fun _ h => .inl h), ⟨⟨A0, c0, A1, c1, some ⟨g, 0, none⟩, d2, (blk_set HB2.out 3 _).trans rfl, Kd.R_mono (hk.R H2.out hq) (fun _ h => .inl h), Kd.R_mono (hk.R H3.out hq) (fun _ h => .inl h), Kd.R_mono (hk0.R HR2.out (fun k hh => by have := hh.1; omega)) (fun k hh => .inr ⟨hh.1, Nat.lt_of_lt_of_le hh.2 hk0.size⟩)⟩, more_ne1 H.out.ne hlt, ⟨Nat.le_trans hb hk.size, H.out.base_.2⟩, more_lt H.out.slt hk.size⟩⟩
set_option maxHeartbeats 4000000 in
set_option maxRecDepth 100000 in
theorem rdig_3zt (base q : Nat) (S : Nat → Prop) (Out B : List Int) (Esc : Int) (Over : Bool) (x a b c wt: Int) (w : World) (h : RefAt w base S q ⟨Out, B, Esc, [a, b], 0, Over⟩) (hx : 0 ≤ x ∧ x ≤ 255) (hv : hexV x = c) (hr : 0 ≤ a ∧ a ≤ 15 ∧ 0 ≤ b ∧ b ≤ 15 ∧ 0 ≤ c ∧ c ≤ 15) (ea : a = 13) (eb : b < 12) (ep : a ≠ 15) :
    Calls Try.prog 46 #[.pointer (some ⟨q, 0, none⟩), .int .u8 x] w fun e w' => e = .returned (.int .i64 0) ∧ Keeps (MineR S q) w w' ∧ RefAt w' base (More S w w') q ⟨Out, B, Esc, [a, b, c], 0, Over⟩ := by
  obtain ⟨A0, c0, A1, c1, A2, c2, h1, h2, h3, h4⟩ := h.row
  simp only [RV.cells, List.length_cons, List.length_nil, Nat.zero_add, Nat.reduceAdd] at h1 h2 h3 h4
  have hh := hex_val x hx.1 hx.2
  rw [hv] at hh
  have k3 : w.cell? ⟨q, 3, none⟩ = some (.slice A2 2 c2) := (blk_cell h1 3).trans rfl
  have ta : (a == 13) = true := beq_iff_eq.mpr ea
  have ta' : (a != 13) = false := by rw [ea]; rfl
  have tb : decide (12 ≤ b) = false := decide_eq_false (by omega)
  have tp : (a == 15) = false := beq_f ep
  have tp' : (a != 15) = true := bne_t ep
  have HHx := Aside0.mk hh
  have hb := h.base_.1
  have H1 := Aside0.mk h1
  have H2 := Aside0.mk h2
  have H3 := Aside0.mk h3
  have H4 := Aside0.mk h4
  have H := Aside0.mk h
  have hlt := h.lt
  clear h h1 h2 h3 h4 hh hv ea eb ep
  go_enter Try.func46, Try.ntmps46
  go_wp2_with (first
    | (go_at_call 61; refine (orthoepyref12_hex.calls 12 x c _ HHx.out).mono ?_; rintro e w0 ⟨rfl, hd⟩; obtain ⟨na, hd⟩ := hd.out; subst hd; have k3' : ((w.drewN na).alloc (.cells #[] 3)).cell? ⟨q, 3, none⟩ = some (.slice A2 2 c2) := (World.cell?_alloc_past _ _ _ hlt).trans k3)
    | ((with_reducible refine gate_builtin (b := .append) (xs := #[.tmp 15, .tmp 19]) rfl ?_); at_builtin; refine app_row (Value.int .i64) (0 : Int) base rfl (.tmp 15) (.tmp 19) 29 3 (.int .i64 0) 8 rfl Try.underlying29 infoInt rfl (by decide) (.slice (some ⟨w.heap.size, 0, none⟩) 0 0) [] [a, b] [a, b] rfl A2 2 c2 (fun k => w.heap.size ≤ k) rfl rfl (Kd.R_of_own (own_lit (w.drewN na) base 3 .i64 [] hb (by simp)) (fun k hk => by simp [Value.ownBlock] at hk; omega)) (Kd.C_alloc (Kd.C_drewN (Kd.R_reads' H4.out).2.2 na) _) (by simp; omega) (by simp) ?_; intro B1 d1 w1 hr1 hk1; have HR1 := Aside0.mk hr1; have HK1 := Aside0.mk ((((Keeps.refl (fun _ => False) w).drewN na).alloc _).trans hk1 (fun k hk => .inr (by simp [Value.ownBlock] at hk; omega))); clear hr1 hk1)
    | ((with_reducible refine gate_builtin (b := .append) (xs := #[.tmp 20, .tmp 22]) rfl ?_); at_builtin; refine app_row (Value.int .i64) (0 : Int) base rfl (.tmp 20) (.tmp 22) 29 3 (.int .i64 0) 8 rfl Try.underlying29 infoInt rfl (by decide) (.slice B1 2 d1) [a, b] [c] [a, b, c] rfl (some ⟨w1.heap.size, 0, none⟩) 1 1 (fun k => w.heap.size ≤ k) rfl rfl (Kd.R_alloc (Kd.R_mono HR1.out (fun k hk => hk.elim id (fun hn => by have := hn.1; simp at this; omega))) _) (C_one (Value.int .i64) 0 w1 3 c) (by have := HK1.out.size; simp; omega) (by simp) ?_; intro B2 d2 w2 hr2 hk2; have HR2 := Aside0.mk (Kd.R_mono (Kd.R_bound hr2) (ok' := fun k => w.heap.size ≤ k ∧ k < w2.heap.size) (fun k hk => ⟨hk.1.elim id (fun hn => by have h1 := hn.1; have h2 := HK1.out.size; simp at h1; omega), hk.2.2.1⟩)); have HK2 := Aside0.mk ((HK1.out.alloc _).trans hk2 (fun k hk => .inr (HR1.out.1 k hk.symm |>.elim id (fun hn => by have := hn.1; simp at this; omega)))); have HB2 := Aside0.mk (HK2.out.blk H1.out id); obtain ⟨g, dg, eg, _, _⟩ := (Kd.own_of_R HR2.out).form (by simp); injection eg with eg1 eg2 eg3; subst eg1; have z0 : w2.cell? ⟨g, 0, none⟩ = some (.int .i64 a) := (own_at (k := .i64) (xs := [a, b, c]) (Kd.own_of_R HR2.out) 0 (by omega) (by simp)).1; have z1 : w2.cell? ⟨g, 1, none⟩ = some (.int .i64 b) := (own_at (k := .i64) (xs := [a, b, c]) (Kd.own_of_R HR2.out) 1 (by omega) (by simp)).1; have z2 : w2.cell? ⟨g, 2, none⟩ = some (.int .i64 c) := (own_at (k := .i64) (xs := [a, b, c]) (Kd.own_of_R HR2.out) 2 (by omega) (by simp)).1; have j0 : w2.cell? ⟨q, 0, none⟩ = some (.slice A0 Out.length c0) := (blk_cell HB2.out 0).trans rfl; have j2 : w2.cell? ⟨q, 2, none⟩ = some (.int .i64 Esc) := (blk_cell HB2.out 2).trans rfl; have j3 : w2.cell? ⟨q, 3, none⟩ = some (.slice A2 2 c2) := (blk_cell HB2.out 3).trans rfl; have j4 : w2.cell? ⟨q, 4, none⟩ = some (.int .u16 0) := (blk_cell HB2.out 4).trans rfl; have g0 := blk_frozen HB2.out 0; have g2 := blk_frozen HB2.out 2; have g3 := blk_frozen HB2.out 3; have g4 := blk_frozen HB2.out 4; clear hr2 hk2 eg2 eg3))
  go_ret
  have hk0 := ((Keeps.refl (fun k => k = q) w2).at_ rfl 3 (.slice (some ⟨g, 0, none⟩) 3 d2))
  have hk : Keeps (fun k => k = q) w _ := (HK2.out.mono (fun _ h => h.elim)).trans hk0 (fun _ h => .inl h)
  have hq : ∀ k, S k → ¬ k = q := H.out.ne
  refine ⟨rfl, hk.mono (fun _ h => .inl h), ⟨⟨A0, c0, A1, c1, some ⟨g, 0, none⟩, d2, (blk_set HB2.out 3 _).trans rfl, Kd.R_mono (hk.R H2.out hq) (fun _ h => .inl h), Kd.R_mono (hk.R H3.out hq) (fun _ h => .inl h), Kd.R_mono (hk0.R HR2.out (fun k hh => by have := hh.1; omega)) (fun k hh => .inr ⟨hh.1, Nat.lt_of_lt_of_le hh.2 hk0.size⟩)⟩, more_ne1 H.out.ne hlt, ⟨Nat.le_trans hb hk.size, H.out.base_.2⟩, more_lt H.out.slt hk.size⟩⟩
set_option maxHeartbeats 4000000 in
set_option maxRecDepth 100000 in
theorem rdig_3zs0 (base q : Nat) (S : Nat → Prop) (Out B : List Int) (Esc : Int) (Over : Bool) (x a b c wt: Int) (w : World) (h : RefAt w base S q ⟨Out, B, Esc, [a, b], 0, Over⟩) (hx : 0 ≤ x ∧ x ≤ 255) (hv : hexV x = c) (hr : 0 ≤ a ∧ a ≤ 15 ∧ 0 ≤ b ∧ b ≤ 15 ∧ 0 ≤ c ∧ c ≤ 15) (ea : a ≠ 13) (ep : a ≠ 15) :
    Calls Try.prog 46 #[.pointer (some ⟨q, 0, none⟩), .int .u8 x] w fun e w' => e = .returned (.int .i64 0) ∧ Keeps (MineR S q) w w' ∧ RefAt w' base (More S w w') q ⟨Out, B, Esc, [a, b, c], 0, Over⟩ := by
  obtain ⟨A0, c0, A1, c1, A2, c2, h1, h2, h3, h4⟩ := h.row
  simp only [RV.cells, List.length_cons, List.length_nil, Nat.zero_add, Nat.reduceAdd] at h1 h2 h3 h4
  have hh := hex_val x hx.1 hx.2
  rw [hv] at hh
  have k3 : w.cell? ⟨q, 3, none⟩ = some (.slice A2 2 c2) := (blk_cell h1 3).trans rfl
  have ta : (a == 13) = false := beq_f ea
  have ta' : (a != 13) = true := bne_t ea
  have tp : (a == 15) = false := beq_f ep
  have tp' : (a != 15) = true := bne_t ep
  have HHx := Aside0.mk hh
  have hb := h.base_.1
  have H1 := Aside0.mk h1
  have H2 := Aside0.mk h2
  have H3 := Aside0.mk h3
  have H4 := Aside0.mk h4
  have H := Aside0.mk h
  have hlt := h.lt
  clear h h1 h2 h3 h4 hh hv ea ep
  go_enter Try.func46, Try.ntmps46
  go_wp2_with (first
    | (go_at_call 61; refine (orthoepyref12_hex.calls 12 x c _ HHx.out).mono ?_; rintro e w0 ⟨rfl, hd⟩; obtain ⟨na, hd⟩ := hd.out; subst hd; have k3' : ((w.drewN na).alloc (.cells #[] 3)).cell? ⟨q, 3, none⟩ = some (.slice A2 2 c2) := (World.cell?_alloc_past _ _ _ hlt).trans k3)
    | ((with_reducible refine gate_builtin (b := .append) (xs := #[.tmp 15, .tmp 19]) rfl ?_); at_builtin; refine app_row (Value.int .i64) (0 : Int) base rfl (.tmp 15) (.tmp 19) 29 3 (.int .i64 0) 8 rfl Try.underlying29 infoInt rfl (by decide) (.slice (some ⟨w.heap.size, 0, none⟩) 0 0) [] [a, b] [a, b] rfl A2 2 c2 (fun k => w.heap.size ≤ k) rfl rfl (Kd.R_of_own (own_lit (w.drewN na) base 3 .i64 [] hb (by simp)) (fun k hk => by simp [Value.ownBlock] at hk; omega)) (Kd.C_alloc (Kd.C_drewN (Kd.R_reads' H4.out).2.2 na) _) (by simp; omega) (by simp) ?_; intro B1 d1 w1 hr1 hk1; have HR1 := Aside0.mk hr1; have HK1 := Aside0.mk ((((Keeps.refl (fun _ => False) w).drewN na).alloc _).trans hk1 (fun k hk => .inr (by simp [Value.ownBlock] at hk; omega))); clear hr1 hk1)
    | ((with_reducible refine gate_builtin (b := .append) (xs := #[.tmp 20, .tmp 22]) rfl ?_); at_builtin; refine app_row (Value.int .i64) (0 : Int) base rfl (.tmp 20) (.tmp 22) 29 3 (.int .i64 0) 8 rfl Try.underlying29 infoInt rfl (by decide) (.slice B1 2 d1) [a, b] [c] [a, b, c] rfl (some ⟨w1.heap.size, 0, none⟩) 1 1 (fun k => w.heap.size ≤ k) rfl rfl (Kd.R_alloc (Kd.R_mono HR1.out (fun k hk => hk.elim id (fun hn => by have := hn.1; simp at this; omega))) _) (C_one (Value.int .i64) 0 w1 3 c) (by have := HK1.out.size; simp; omega) (by simp) ?_; intro B2 d2 w2 hr2 hk2; have HR2 := Aside0.mk (Kd.R_mono (Kd.R_bound hr2) (ok' := fun k => w.heap.size ≤ k ∧ k < w2.heap.size) (fun k hk => ⟨hk.1.elim id (fun hn => by have h1 := hn.1; have h2 := HK1.out.size; simp at h1; omega), hk.2.2.1⟩)); have HK2 := Aside0.mk ((HK1.out.alloc _).trans hk2 (fun k hk => .inr (HR1.out.1 k hk.symm |>.elim id (fun hn => by have := hn.1; simp at this; omega)))); have HB2 := Aside0.mk (HK2.out.blk H1.out id); obtain ⟨g, dg, eg, _, _⟩ := (Kd.own_of_R HR2.out).form (by simp); injection eg with eg1 eg2 eg3; subst eg1; have z0 : w2.cell? ⟨g, 0, none⟩ = some (.int .i64 a) := (own_at (k := .i64) (xs := [a, b, c]) (Kd.own_of_R HR2.out) 0 (by omega) (by simp)).1; have z1 : w2.cell? ⟨g, 1, none⟩ = some (.int .i64 b) := (own_at (k := .i64) (xs := [a, b, c]) (Kd.own_of_R HR2.out) 1 (by omega) (by simp)).1; have z2 : w2.cell? ⟨g, 2, none⟩ = some (.int .i64 c) := (own_at (k := .i64) (xs := [a, b, c]) (Kd.own_of_R HR2.out) 2 (by omega) (by simp)).1; have j0 : w2.cell? ⟨q, 0, none⟩ = some (.slice A0 Out.length c0) := (blk_cell HB2.out 0).trans rfl; have j2 : w2.cell? ⟨q, 2, none⟩ = some (.int .i64 Esc) := (blk_cell HB2.out 2).trans rfl; have j3 : w2.cell? ⟨q, 3, none⟩ = some (.slice A2 2 c2) := (blk_cell HB2.out 3).trans rfl; have j4 : w2.cell? ⟨q, 4, none⟩ = some (.int .u16 0) := (blk_cell HB2.out 4).trans rfl; have g0 := blk_frozen HB2.out 0; have g2 := blk_frozen HB2.out 2; have g3 := blk_frozen HB2.out 3; have g4 := blk_frozen HB2.out 4; clear hr2 hk2 eg2 eg3))
  go_ret
  have hk0 := ((Keeps.refl (fun k => k = q) w2).at_ rfl 3 (.slice (some ⟨g, 0, none⟩) 3 d2))
  have hk : Keeps (fun k => k = q) w _ := (HK2.out.mono (fun _ h => h.elim)).trans hk0 (fun _ h => .inl h)
  have hq : ∀ k, S k → ¬ k = q := H.out.ne
  refine ⟨rfl, hk.mono (fun _ h => .inl h), ⟨⟨A0, c0, A1, c1, some ⟨g, 0, none⟩, d2, (blk_set HB2.out 3 _).trans rfl, Kd.R_mono (hk.R H2.out hq) (fun _ h => .inl h), Kd.R_mono (hk.R H3.out hq) (fun _ h => .inl h), Kd.R_mono (hk0.R HR2.out (fun k hh => by have := hh.1; omega)) (fun k hh => .inr ⟨hh.1, Nat.lt_of_lt_of_le hh.2 hk0.size⟩)⟩, more_ne1 H.out.ne hlt, ⟨Nat.le_trans hb hk.size, H.out.base_.2⟩, more_lt H.out.slt hk.size⟩⟩
set_option maxHeartbeats 4000000 in
set_option maxRecDepth 100000 in
theorem rdig_3zs1 (base q : Nat) (S : Nat → Prop) (Out B : List Int) (Esc : Int) (Over : Bool) (x a b c wt: Int) (w : World) (h : RefAt w base S q ⟨Out, B, Esc, [a, b], 0, Over⟩) (hx : 0 ≤ x ∧ x ≤ 255) (hv : hexV x = c) (hr : 0 ≤ a ∧ a ≤ 15 ∧ 0 ≤ b ∧ b ≤ 15 ∧ 0 ≤ c ∧ c ≤ 15) (ea : a ≠ 13) (ep : a = 15) (eq : b ≠ 13) :
    Calls Try.prog 46 #[.pointer (some ⟨q, 0, none⟩), .int .u8 x] w fun e w' => e = .returned (.int .i64 0) ∧ Keeps (MineR S q) w w' ∧ RefAt w' base (More S w w') q ⟨Out, B, Esc, [a, b, c], 0, Over⟩ := by
  obtain ⟨A0, c0, A1, c1, A2, c2, h1, h2, h3, h4⟩ := h.row
  simp only [RV.cells, List.length_cons, List.length_nil, Nat.zero_add, Nat.reduceAdd] at h1 h2 h3 h4
  have hh := hex_val x hx.1 hx.2
  rw [hv] at hh
  have k3 : w.cell? ⟨q, 3, none⟩ = some (.slice A2 2 c2) := (blk_cell h1 3).trans rfl
  have ta : (a == 13) = false := beq_f ea
  have ta' : (a != 13) = true := bne_t ea
  have tp : (a == 15) = true := beq_iff_eq.mpr ep
  have tp' : (a != 15) = false := by rw [ep]; rfl
  have tq : (b == 13) = false := beq_f eq
  have tq' : (b != 13) = true := bne_t eq
  have HHx := Aside0.mk hh
  have hb := h.base_.1
  have H1 := Aside0.mk h1
  have H2 := Aside0.mk h2
  have H3 := Aside0.mk h3
  have H4 := Aside0.mk h4
  have H := Aside0.mk h
  have hlt := h.lt
  clear h h1 h2 h3 h4 hh hv ea ep eq
  go_enter Try.func46, Try.ntmps46
  go_wp2_with (first
    | (go_at_call 61; refine (orthoepyref12_hex.calls 12 x c _ HHx.out).mono ?_; rintro e w0 ⟨rfl, hd⟩; obtain ⟨na, hd⟩ := hd.out; subst hd; have k3' : ((w.drewN na).alloc (.cells #[] 3)).cell? ⟨q, 3, none⟩ = some (.slice A2 2 c2) := (World.cell?_alloc_past _ _ _ hlt).trans k3)
    | ((with_reducible refine gate_builtin (b := .append) (xs := #[.tmp 15, .tmp 19]) rfl ?_); at_builtin; refine app_row (Value.int .i64) (0 : Int) base rfl (.tmp 15) (.tmp 19) 29 3 (.int .i64 0) 8 rfl Try.underlying29 infoInt rfl (by decide) (.slice (some ⟨w.heap.size, 0, none⟩) 0 0) [] [a, b] [a, b] rfl A2 2 c2 (fun k => w.heap.size ≤ k) rfl rfl (Kd.R_of_own (own_lit (w.drewN na) base 3 .i64 [] hb (by simp)) (fun k hk => by simp [Value.ownBlock] at hk; omega)) (Kd.C_alloc (Kd.C_drewN (Kd.R_reads' H4.out).2.2 na) _) (by simp; omega) (by simp) ?_; intro B1 d1 w1 hr1 hk1; have HR1 := Aside0.mk hr1; have HK1 := Aside0.mk ((((Keeps.refl (fun _ => False) w).drewN na).alloc _).trans hk1 (fun k hk => .inr (by simp [Value.ownBlock] at hk; omega))); clear hr1 hk1)
    | ((with_reducible refine gate_builtin (b := .append) (xs := #[.tmp 20, .tmp 22]) rfl ?_); at_builtin; refine app_row (Value.int .i64) (0 : Int) base rfl (.tmp 20) (.tmp 22) 29 3 (.int .i64 0) 8 rfl Try.underlying29 infoInt rfl (by decide) (.slice B1 2 d1) [a, b] [c] [a, b, c] rfl (some ⟨w1.heap.size, 0, none⟩) 1 1 (fun k => w.heap.size ≤ k) rfl rfl (Kd.R_alloc (Kd.R_mono HR1.out (fun k hk => hk.elim id (fun hn => by have := hn.1; simp at this; omega))) _) (C_one (Value.int .i64) 0 w1 3 c) (by have := HK1.out.size; simp; omega) (by simp) ?_; intro B2 d2 w2 hr2 hk2; have HR2 := Aside0.mk (Kd.R_mono (Kd.R_bound hr2) (ok' := fun k => w.heap.size ≤ k ∧ k < w2.heap.size) (fun k hk => ⟨hk.1.elim id (fun hn => by have h1 := hn.1; have h2 := HK1.out.size; simp at h1; omega), hk.2.2.1⟩)); have HK2 := Aside0.mk ((HK1.out.alloc _).trans hk2 (fun k hk => .inr (HR1.out.1 k hk.symm |>.elim id (fun hn => by have := hn.1; simp at this; omega)))); have HB2 := Aside0.mk (HK2.out.blk H1.out id); obtain ⟨g, dg, eg, _, _⟩ := (Kd.own_of_R HR2.out).form (by simp); injection eg with eg1 eg2 eg3; subst eg1; have z0 : w2.cell? ⟨g, 0, none⟩ = some (.int .i64 a) := (own_at (k := .i64) (xs := [a, b, c]) (Kd.own_of_R HR2.out) 0 (by omega) (by simp)).1; have z1 : w2.cell? ⟨g, 1, none⟩ = some (.int .i64 b) := (own_at (k := .i64) (xs := [a, b, c]) (Kd.own_of_R HR2.out) 1 (by omega) (by simp)).1; have z2 : w2.cell? ⟨g, 2, none⟩ = some (.int .i64 c) := (own_at (k := .i64) (xs := [a, b, c]) (Kd.own_of_R HR2.out) 2 (by omega) (by simp)).1; have j0 : w2.cell? ⟨q, 0, none⟩ = some (.slice A0 Out.length c0) := (blk_cell HB2.out 0).trans rfl; have j2 : w2.cell? ⟨q, 2, none⟩ = some (.int .i64 Esc) := (blk_cell HB2.out 2).trans rfl; have j3 : w2.cell? ⟨q, 3, none⟩ = some (.slice A2 2 c2) := (blk_cell HB2.out 3).trans rfl; have j4 : w2.cell? ⟨q, 4, none⟩ = some (.int .u16 0) := (blk_cell HB2.out 4).trans rfl; have g0 := blk_frozen HB2.out 0; have g2 := blk_frozen HB2.out 2; have g3 := blk_frozen HB2.out 3; have g4 := blk_frozen HB2.out 4; clear hr2 hk2 eg2 eg3))
  go_ret
  have hk0 := ((Keeps.refl (fun k => k = q) w2).at_ rfl 3 (.slice (some ⟨g, 0, none⟩) 3 d2))
  have hk : Keeps (fun k => k = q) w _ := (HK2.out.mono (fun _ h => h.elim)).trans hk0 (fun _ h => .inl h)
  have hq : ∀ k, S k → ¬ k = q := H.out.ne
  refine ⟨rfl, hk.mono (fun _ h => .inl h), ⟨⟨A0, c0, A1, c1, some ⟨g, 0, none⟩, d2, (blk_set HB2.out 3 _).trans rfl, Kd.R_mono (hk.R H2.out hq) (fun _ h => .inl h), Kd.R_mono (hk.R H3.out hq) (fun _ h => .inl h), Kd.R_mono (hk0.R HR2.out (fun k hh => by have := hh.1; omega)) (fun k hh => .inr ⟨hh.1, Nat.lt_of_lt_of_le hh.2 hk0.size⟩)⟩, more_ne1 H.out.ne hlt, ⟨Nat.le_trans hb hk.size, H.out.base_.2⟩, more_lt H.out.slt hk.size⟩⟩
set_option maxHeartbeats 4000000 in
set_option maxRecDepth 100000 in
theorem rdig_3zx1 (base q : Nat) (S : Nat → Prop) (Out B : List Int) (Esc : Int) (Over : Bool) (x a b c wt: Int) (w : World) (h : RefAt w base S q ⟨Out, B, Esc, [a, b], 0, Over⟩) (hx : 0 ≤ x ∧ x ≤ 255) (hv : hexV x = c) (hr : 0 ≤ a ∧ a ≤ 15 ∧ 0 ≤ b ∧ b ≤ 15 ∧ 0 ≤ c ∧ c ≤ 15) (ea : a ≠ 13) (ep : a = 15) (eq : b = 13) (er : c = 13) :
    Calls Try.prog 46 #[.pointer (some ⟨q, 0, none⟩), .int .u8 x] w fun e w' => e = .returned (.int .i64 6) ∧ Keeps (fun _ => False) w w' ∧ RefAt w' base S q ⟨Out, B, Esc, [a, b], 0, Over⟩ := by
  obtain ⟨A0, c0, A1, c1, A2, c2, h1, h2, h3, h4⟩ := h.row
  simp only [RV.cells, List.length_cons, List.length_nil, Nat.zero_add, Nat.reduceAdd] at h1 h2 h3 h4
  have hh := hex_val x hx.1 hx.2
  rw [hv] at hh
  have k3 : w.cell? ⟨q, 3, none⟩ = some (.slice A2 2 c2) := (blk_cell h1 3).trans rfl
  have ta : (a == 13) = false := beq_f ea
  have ta' : (a != 13) = true := bne_t ea
  have tp : (a == 15) = true := beq_iff_eq.mpr ep
  have tp' : (a != 15) = false := by rw [ep]; rfl
  have tq : (b == 13) = true := beq_iff_eq.mpr eq
  have tq' : (b != 13) = false := by rw [eq]; rfl
  have tr : (c == 13) = true := beq_iff_eq.mpr er
  have tr' : (c != 13) = false := by rw [er]; rfl
  have HHx := Aside0.mk hh
  have hb := h.base_.1
  have H1 := Aside0.mk h1
  have H2 := Aside0.mk h2
  have H3 := Aside0.mk h3
  have H4 := Aside0.mk h4
  have H := Aside0.mk h
  have hlt := h.lt
  clear h h1 h2 h3 h4 hh hv ea ep eq er
  go_enter Try.func46, Try.ntmps46
  go_wp2_with (first
    | (go_at_call 61; refine (orthoepyref12_hex.calls 12 x c _ HHx.out).mono ?_; rintro e w0 ⟨rfl, hd⟩; obtain ⟨na, hd⟩ := hd.out; subst hd; have k3' : ((w.drewN na).alloc (.cells #[] 3)).cell? ⟨q, 3, none⟩ = some (.slice A2 2 c2) := (World.cell?_alloc_past _ _ _ hlt).trans k3)
    | ((with_reducible refine gate_builtin (b := .append) (xs := #[.tmp 15, .tmp 19]) rfl ?_); at_builtin; refine app_row (Value.int .i64) (0 : Int) base rfl (.tmp 15) (.tmp 19) 29 3 (.int .i64 0) 8 rfl Try.underlying29 infoInt rfl (by decide) (.slice (some ⟨w.heap.size, 0, none⟩) 0 0) [] [a, b] [a, b] rfl A2 2 c2 (fun k => w.heap.size ≤ k) rfl rfl (Kd.R_of_own (own_lit (w.drewN na) base 3 .i64 [] hb (by simp)) (fun k hk => by simp [Value.ownBlock] at hk; omega)) (Kd.C_alloc (Kd.C_drewN (Kd.R_reads' H4.out).2.2 na) _) (by simp; omega) (by simp) ?_; intro B1 d1 w1 hr1 hk1; have HR1 := Aside0.mk hr1; have HK1 := Aside0.mk ((((Keeps.refl (fun _ => False) w).drewN na).alloc _).trans hk1 (fun k hk => .inr (by simp [Value.ownBlock] at hk; omega))); clear hr1 hk1)
    | ((with_reducible refine gate_builtin (b := .append) (xs := #[.tmp 20, .tmp 22]) rfl ?_); at_builtin; refine app_row (Value.int .i64) (0 : Int) base rfl (.tmp 20) (.tmp 22) 29 3 (.int .i64 0) 8 rfl Try.underlying29 infoInt rfl (by decide) (.slice B1 2 d1) [a, b] [c] [a, b, c] rfl (some ⟨w1.heap.size, 0, none⟩) 1 1 (fun k => w.heap.size ≤ k) rfl rfl (Kd.R_alloc (Kd.R_mono HR1.out (fun k hk => hk.elim id (fun hn => by have := hn.1; simp at this; omega))) _) (C_one (Value.int .i64) 0 w1 3 c) (by have := HK1.out.size; simp; omega) (by simp) ?_; intro B2 d2 w2 hr2 hk2; have HR2 := Aside0.mk (Kd.R_mono (Kd.R_bound hr2) (ok' := fun k => w.heap.size ≤ k ∧ k < w2.heap.size) (fun k hk => ⟨hk.1.elim id (fun hn => by have h1 := hn.1; have h2 := HK1.out.size; simp at h1; omega), hk.2.2.1⟩)); have HK2 := Aside0.mk ((HK1.out.alloc _).trans hk2 (fun k hk => .inr (HR1.out.1 k hk.symm |>.elim id (fun hn => by have := hn.1; simp at this; omega)))); have HB2 := Aside0.mk (HK2.out.blk H1.out id); obtain ⟨g, dg, eg, _, _⟩ := (Kd.own_of_R HR2.out).form (by simp); injection eg with eg1 eg2 eg3; subst eg1; have z0 : w2.cell? ⟨g, 0, none⟩ = some (.int .i64 a) := (own_at (k := .i64) (xs := [a, b, c]) (Kd.own_of_R HR2.out) 0 (by omega) (by simp)).1; have z1 : w2.cell? ⟨g, 1, none⟩ = some (.int .i64 b) := (own_at (k := .i64) (xs := [a, b, c]) (Kd.own_of_R HR2.out) 1 (by omega) (by simp)).1; have z2 : w2.cell? ⟨g, 2, none⟩ = some (.int .i64 c) := (own_at (k := .i64) (xs := [a, b, c]) (Kd.own_of_R HR2.out) 2 (by omega) (by simp)).1; have j0 : w2.cell? ⟨q, 0, none⟩ = some (.slice A0 Out.length c0) := (blk_cell HB2.out 0).trans rfl; have j2 : w2.cell? ⟨q, 2, none⟩ = some (.int .i64 Esc) := (blk_cell HB2.out 2).trans rfl; have j3 : w2.cell? ⟨q, 3, none⟩ = some (.slice A2 2 c2) := (blk_cell HB2.out 3).trans rfl; have j4 : w2.cell? ⟨q, 4, none⟩ = some (.int .u16 0) := (blk_cell HB2.out 4).trans rfl; have g0 := blk_frozen HB2.out 0; have g2 := blk_frozen HB2.out 2; have g3 := blk_frozen HB2.out 3; have g4 := blk_frozen HB2.out 4; clear hr2 hk2 eg2 eg3))
  go_ret
  have fin : ∀ n, Keeps (fun _ => False) w (w2.drewN n) ∧ RefAt (w2.drewN n) base S q ⟨Out, B, Esc, [a, b], 0, Over⟩ := fun n => ⟨HK2.out.drewN n, H.out.keep (HK2.out.drewN n) id (fun _ _ => id)⟩
  exact ⟨rfl, (fin 0).1, (fin 0).2⟩
set_option maxHeartbeats 4000000 in
set_option maxRecDepth 100000 in
theorem rdig_3zx2 (base q : Nat) (S : Nat → Prop) (Out B : List Int) (Esc : Int) (Over : Bool) (x a b c wt: Int) (w : World) (h : RefAt w base S q ⟨Out, B, Esc, [a, b], 0, Over⟩) (hx : 0 ≤ x ∧ x ≤ 255) (hv : hexV x = c) (hr : 0 ≤ a ∧ a ≤ 15 ∧ 0 ≤ b ∧ b ≤ 15 ∧ 0 ≤ c ∧ c ≤ 15) (ea : a ≠ 13) (ep : a = 15) (eq : b = 13) (er : c ≠ 13) (es : c = 14) :
    Calls Try.prog 46 #[.pointer (some ⟨q, 0, none⟩), .int .u8 x] w fun e w' => e = .returned (.int .i64 6) ∧ Keeps (fun _ => False) w w' ∧ RefAt w' base S q ⟨Out, B, Esc, [a, b], 0, Over⟩ := by
  obtain ⟨A0, c0, A1, c1, A2, c2, h1, h2, h3, h4⟩ := h.row
  simp only [RV.cells, List.length_cons, List.length_nil, Nat.zero_add, Nat.reduceAdd] at h1 h2 h3 h4
  have hh := hex_val x hx.1 hx.2
  rw [hv] at hh
  have k3 : w.cell? ⟨q, 3, none⟩ = some (.slice A2 2 c2) := (blk_cell h1 3).trans rfl
  have ta : (a == 13) = false := beq_f ea
  have ta' : (a != 13) = true := bne_t ea
  have tp : (a == 15) = true := beq_iff_eq.mpr ep
  have tp' : (a != 15) = false := by rw [ep]; rfl
  have tq : (b == 13) = true := beq_iff_eq.mpr eq
  have tq' : (b != 13) = false := by rw [eq]; rfl
  have tr : (c == 13) = false := beq_f er
  have tr' : (c != 13) = true := bne_t er
  have ts : (c == 14) = true := beq_iff_eq.mpr es
  have ts' : (c != 14) = false := by rw [es]; rfl
  have HHx := Aside0.mk hh
  have hb := h.base_.1
  have H1 := Aside0.mk h1
  have H2 := Aside0.mk h2
  have H3 := Aside0.mk h3
  have H4 := Aside0.mk h4
  have H := Aside0.mk h
  have hlt := h.lt
  clear h h1 h2 h3 h4 hh hv ea ep eq er es
  go_enter Try.func46, Try.ntmps46
  go_wp2_with (first
    | (go_at_call 61; refine (orthoepyref12_hex.calls 12 x c _ HHx.out).mono ?_; rintro e w0 ⟨rfl, hd⟩; obtain ⟨na, hd⟩ := hd.out; subst hd; have k3' : ((w.drewN na).alloc (.cells #[] 3)).cell? ⟨q, 3, none⟩ = some (.slice A2 2 c2) := (World.cell?_alloc_past _ _ _ hlt).trans k3)
    | ((with_reducible refine gate_builtin (b := .append) (xs := #[.tmp 15, .tmp 19]) rfl ?_); at_builtin; refine app_row (Value.int .i64) (0 : Int) base rfl (.tmp 15) (.tmp 19) 29 3 (.int .i64 0) 8 rfl Try.underlying29 infoInt rfl (by decide) (.slice (some ⟨w.heap.size, 0, none⟩) 0 0) [] [a, b] [a, b] rfl A2 2 c2 (fun k => w.heap.size ≤ k) rfl rfl (Kd.R_of_own (own_lit (w.drewN na) base 3 .i64 [] hb (by simp)) (fun k hk => by simp [Value.ownBlock] at hk; omega)) (Kd.C_alloc (Kd.C_drewN (Kd.R_reads' H4.out).2.2 na) _) (by simp; omega) (by simp) ?_; intro B1 d1 w1 hr1 hk1; have HR1 := Aside0.mk hr1; have HK1 := Aside0.mk ((((Keeps.refl (fun _ => False) w).drewN na).alloc _).trans hk1 (fun k hk => .inr (by simp [Value.ownBlock] at hk; omega))); clear hr1 hk1)
    | ((with_reducible refine gate_builtin (b := .append) (xs := #[.tmp 20, .tmp 22]) rfl ?_); at_builtin; refine app_row (Value.int .i64) (0 : Int) base rfl (.tmp 20) (.tmp 22) 29 3 (.int .i64 0) 8 rfl Try.underlying29 infoInt rfl (by decide) (.slice B1 2 d1) [a, b] [c] [a, b, c] rfl (some ⟨w1.heap.size, 0, none⟩) 1 1 (fun k => w.heap.size ≤ k) rfl rfl (Kd.R_alloc (Kd.R_mono HR1.out (fun k hk => hk.elim id (fun hn => by have := hn.1; simp at this; omega))) _) (C_one (Value.int .i64) 0 w1 3 c) (by have := HK1.out.size; simp; omega) (by simp) ?_; intro B2 d2 w2 hr2 hk2; have HR2 := Aside0.mk (Kd.R_mono (Kd.R_bound hr2) (ok' := fun k => w.heap.size ≤ k ∧ k < w2.heap.size) (fun k hk => ⟨hk.1.elim id (fun hn => by have h1 := hn.1; have h2 := HK1.out.size; simp at h1; omega), hk.2.2.1⟩)); have HK2 := Aside0.mk ((HK1.out.alloc _).trans hk2 (fun k hk => .inr (HR1.out.1 k hk.symm |>.elim id (fun hn => by have := hn.1; simp at this; omega)))); have HB2 := Aside0.mk (HK2.out.blk H1.out id); obtain ⟨g, dg, eg, _, _⟩ := (Kd.own_of_R HR2.out).form (by simp); injection eg with eg1 eg2 eg3; subst eg1; have z0 : w2.cell? ⟨g, 0, none⟩ = some (.int .i64 a) := (own_at (k := .i64) (xs := [a, b, c]) (Kd.own_of_R HR2.out) 0 (by omega) (by simp)).1; have z1 : w2.cell? ⟨g, 1, none⟩ = some (.int .i64 b) := (own_at (k := .i64) (xs := [a, b, c]) (Kd.own_of_R HR2.out) 1 (by omega) (by simp)).1; have z2 : w2.cell? ⟨g, 2, none⟩ = some (.int .i64 c) := (own_at (k := .i64) (xs := [a, b, c]) (Kd.own_of_R HR2.out) 2 (by omega) (by simp)).1; have j0 : w2.cell? ⟨q, 0, none⟩ = some (.slice A0 Out.length c0) := (blk_cell HB2.out 0).trans rfl; have j2 : w2.cell? ⟨q, 2, none⟩ = some (.int .i64 Esc) := (blk_cell HB2.out 2).trans rfl; have j3 : w2.cell? ⟨q, 3, none⟩ = some (.slice A2 2 c2) := (blk_cell HB2.out 3).trans rfl; have j4 : w2.cell? ⟨q, 4, none⟩ = some (.int .u16 0) := (blk_cell HB2.out 4).trans rfl; have g0 := blk_frozen HB2.out 0; have g2 := blk_frozen HB2.out 2; have g3 := blk_frozen HB2.out 3; have g4 := blk_frozen HB2.out 4; clear hr2 hk2 eg2 eg3))
  go_ret
  have fin : ∀ n, Keeps (fun _ => False) w (w2.drewN n) ∧ RefAt (w2.drewN n) base S q ⟨Out, B, Esc, [a, b], 0, Over⟩ := fun n => ⟨HK2.out.drewN n, H.out.keep (HK2.out.drewN n) id (fun _ _ => id)⟩
  exact ⟨rfl, (fin 0).1, (fin 0).2⟩
set_option maxHeartbeats 4000000 in
set_option maxRecDepth 100000 in
theorem rdig_3zs2 (base q : Nat) (S : Nat → Prop) (Out B : List Int) (Esc : Int) (Over : Bool) (x a b c wt: Int) (w : World) (h : RefAt w base S q ⟨Out, B, Esc, [a, b], 0, Over⟩) (hx : 0 ≤ x ∧ x ≤ 255) (hv : hexV x = c) (hr : 0 ≤ a ∧ a ≤ 15 ∧ 0 ≤ b ∧ b ≤ 15 ∧ 0 ≤ c ∧ c ≤ 15) (ea : a ≠ 13) (ep : a = 15) (eq : b = 13) (er : c ≠ 13) (es : c ≠ 14) :
    Calls Try.prog 46 #[.pointer (some ⟨q, 0, none⟩), .int .u8 x] w fun e w' => e = .returned (.int .i64 0) ∧ Keeps (MineR S q) w w' ∧ RefAt w' base (More S w w') q ⟨Out, B, Esc, [a, b, c], 0, Over⟩ := by
  obtain ⟨A0, c0, A1, c1, A2, c2, h1, h2, h3, h4⟩ := h.row
  simp only [RV.cells, List.length_cons, List.length_nil, Nat.zero_add, Nat.reduceAdd] at h1 h2 h3 h4
  have hh := hex_val x hx.1 hx.2
  rw [hv] at hh
  have k3 : w.cell? ⟨q, 3, none⟩ = some (.slice A2 2 c2) := (blk_cell h1 3).trans rfl
  have ta : (a == 13) = false := beq_f ea
  have ta' : (a != 13) = true := bne_t ea
  have tp : (a == 15) = true := beq_iff_eq.mpr ep
  have tp' : (a != 15) = false := by rw [ep]; rfl
  have tq : (b == 13) = true := beq_iff_eq.mpr eq
  have tq' : (b != 13) = false := by rw [eq]; rfl
  have tr : (c == 13) = false := beq_f er
  have tr' : (c != 13) = true := bne_t er
  have ts : (c == 14) = false := beq_f es
  have ts' : (c != 14) = true := bne_t es
  have HHx := Aside0.mk hh
  have hb := h.base_.1
  have H1 := Aside0.mk h1
  have H2 := Aside0.mk h2
  have H3 := Aside0.mk h3
  have H4 := Aside0.mk h4
  have H := Aside0.mk h
  have hlt := h.lt
  clear h h1 h2 h3 h4 hh hv ea ep eq er es
  go_enter Try.func46, Try.ntmps46
  go_wp2_with (first
    | (go_at_call 61; refine (orthoepyref12_hex.calls 12 x c _ HHx.out).mono ?_; rintro e w0 ⟨rfl, hd⟩; obtain ⟨na, hd⟩ := hd.out; subst hd; have k3' : ((w.drewN na).alloc (.cells #[] 3)).cell? ⟨q, 3, none⟩ = some (.slice A2 2 c2) := (World.cell?_alloc_past _ _ _ hlt).trans k3)
    | ((with_reducible refine gate_builtin (b := .append) (xs := #[.tmp 15, .tmp 19]) rfl ?_); at_builtin; refine app_row (Value.int .i64) (0 : Int) base rfl (.tmp 15) (.tmp 19) 29 3 (.int .i64 0) 8 rfl Try.underlying29 infoInt rfl (by decide) (.slice (some ⟨w.heap.size, 0, none⟩) 0 0) [] [a, b] [a, b] rfl A2 2 c2 (fun k => w.heap.size ≤ k) rfl rfl (Kd.R_of_own (own_lit (w.drewN na) base 3 .i64 [] hb (by simp)) (fun k hk => by simp [Value.ownBlock] at hk; omega)) (Kd.C_alloc (Kd.C_drewN (Kd.R_reads' H4.out).2.2 na) _) (by simp; omega) (by simp) ?_; intro B1 d1 w1 hr1 hk1; have HR1 := Aside0.mk hr1; have HK1 := Aside0.mk ((((Keeps.refl (fun _ => False) w).drewN na).alloc _).trans hk1 (fun k hk => .inr (by simp [Value.ownBlock] at hk; omega))); clear hr1 hk1)
    | ((with_reducible refine gate_builtin (b := .append) (xs := #[.tmp 20, .tmp 22]) rfl ?_); at_builtin; refine app_row (Value.int .i64) (0 : Int) base rfl (.tmp 20) (.tmp 22) 29 3 (.int .i64 0) 8 rfl Try.underlying29 infoInt rfl (by decide) (.slice B1 2 d1) [a, b] [c] [a, b, c] rfl (some ⟨w1.heap.size, 0, none⟩) 1 1 (fun k => w.heap.size ≤ k) rfl rfl (Kd.R_alloc (Kd.R_mono HR1.out (fun k hk => hk.elim id (fun hn => by have := hn.1; simp at this; omega))) _) (C_one (Value.int .i64) 0 w1 3 c) (by have := HK1.out.size; simp; omega) (by simp) ?_; intro B2 d2 w2 hr2 hk2; have HR2 := Aside0.mk (Kd.R_mono (Kd.R_bound hr2) (ok' := fun k => w.heap.size ≤ k ∧ k < w2.heap.size) (fun k hk => ⟨hk.1.elim id (fun hn => by have h1 := hn.1; have h2 := HK1.out.size; simp at h1; omega), hk.2.2.1⟩)); have HK2 := Aside0.mk ((HK1.out.alloc _).trans hk2 (fun k hk => .inr (HR1.out.1 k hk.symm |>.elim id (fun hn => by have := hn.1; simp at this; omega)))); have HB2 := Aside0.mk (HK2.out.blk H1.out id); obtain ⟨g, dg, eg, _, _⟩ := (Kd.own_of_R HR2.out).form (by simp); injection eg with eg1 eg2 eg3; subst eg1; have z0 : w2.cell? ⟨g, 0, none⟩ = some (.int .i64 a) := (own_at (k := .i64) (xs := [a, b, c]) (Kd.own_of_R HR2.out) 0 (by omega) (by simp)).1; have z1 : w2.cell? ⟨g, 1, none⟩ = some (.int .i64 b) := (own_at (k := .i64) (xs := [a, b, c]) (Kd.own_of_R HR2.out) 1 (by omega) (by simp)).1; have z2 : w2.cell? ⟨g, 2, none⟩ = some (.int .i64 c) := (own_at (k := .i64) (xs := [a, b, c]) (Kd.own_of_R HR2.out) 2 (by omega) (by simp)).1; have j0 : w2.cell? ⟨q, 0, none⟩ = some (.slice A0 Out.length c0) := (blk_cell HB2.out 0).trans rfl; have j2 : w2.cell? ⟨q, 2, none⟩ = some (.int .i64 Esc) := (blk_cell HB2.out 2).trans rfl; have j3 : w2.cell? ⟨q, 3, none⟩ = some (.slice A2 2 c2) := (blk_cell HB2.out 3).trans rfl; have j4 : w2.cell? ⟨q, 4, none⟩ = some (.int .u16 0) := (blk_cell HB2.out 4).trans rfl; have g0 := blk_frozen HB2.out 0; have g2 := blk_frozen HB2.out 2; have g3 := blk_frozen HB2.out 3; have g4 := blk_frozen HB2.out 4; clear hr2 hk2 eg2 eg3))
  go_ret
  have hk0 := ((Keeps.refl (fun k => k = q) w2).at_ rfl 3 (.slice (some ⟨g, 0, none⟩) 3 d2))
  have hk : Keeps (fun k => k = q) w _ := (HK2.out.mono (fun _ h => h.elim)).trans hk0 (fun _ h => .inl h)
  have hq : ∀ k, S k → ¬ k = q := H.out.ne
  refine ⟨rfl, hk.mono (fun _ h => .inl h), ⟨⟨A0, c0, A1, c1, some ⟨g, 0, none⟩, d2, (blk_set HB2.out 3 _).trans rfl, Kd.R_mono (hk.R H2.out hq) (fun _ h => .inl h), Kd.R_mono (hk.R H3.out hq) (fun _ h => .inl h), Kd.R_mono (hk0.R HR2.out (fun k hh => by have := hh.1; omega)) (fun k hh => .inr ⟨hh.1, Nat.lt_of_lt_of_le hh.2 hk0.size⟩)⟩, more_ne1 H.out.ne hlt, ⟨Nat.le_trans hb hk.size, H.out.base_.2⟩, more_lt H.out.slt hk.size⟩⟩
set_option maxHeartbeats 4000000 in
set_option maxRecDepth 100000 in
theorem rdig_4zhalfs (base q : Nat) (S : Nat → Prop) (Out B : List Int) (Esc : Int) (Over : Bool) (x a b c d wt: Int) (U jc : Int) (w : World) (h : RefAt w base S q ⟨Out, B, Esc, [a, b, c], 0, Over⟩) (hx : 0 ≤ x ∧ x ≤ 255) (hv : hexV x = d) (hr : 0 ≤ a ∧ a ≤ 15 ∧ 0 ≤ b ∧ b ≤ 15 ∧ 0 ≤ c ∧ c ≤ 15 ∧ 0 ≤ d ∧ d ≤ 15) (ea : a ≠ 13) (hU : a * 4096 + b * 256 + c * 16 + d = U) (hhi : orthoepyref01_High.f U = some true) :
    Calls Try.prog 46 #[.pointer (some ⟨q, 0, none⟩), .int .u8 x] w fun e w' => e = .returned (.int .i64 0) ∧ Keeps (MineR S q) w w' ∧ RefAt w' base (More S w w') q ⟨Out, B, 0, [], U, Over⟩ := by
  obtain ⟨A0, c0, A1, c1, A2, c2, h1, h2, h3, h4⟩ := h.row
  simp only [RV.cells, List.length_cons, List.length_nil, Nat.zero_add, Nat.reduceAdd] at h1 h2 h3 h4
  have hh := hex_val x hx.1 hx.2
  rw [hv] at hh
  have k3 : w.cell? ⟨q, 3, none⟩ = some (.slice A2 3 c2) := (blk_cell h1 3).trans rfl
  have ta : (a == 13) = false := beq_f ea
  have ta' : (a != 13) = true := bne_t ea
  have hub : 0 ≤ U ∧ U < 65536 := by omega
  have HHI := Aside0.mk hhi
  have HHx := Aside0.mk hh
  have hb := h.base_.1
  have H1 := Aside0.mk h1
  have H2 := Aside0.mk h2
  have H3 := Aside0.mk h3
  have H4 := Aside0.mk h4
  have H := Aside0.mk h
  have hlt := h.lt
  clear h h1 h2 h3 h4 hh hv ea hhi
  go_enter Try.func46, Try.ntmps46
  go_wp2_with (first
    | (go_at_call 61; refine (orthoepyref12_hex.calls 12 x d _ HHx.out).mono ?_; rintro e w0 ⟨rfl, hd⟩; obtain ⟨na, hd⟩ := hd.out; subst hd; have k3' : ((w.drewN na).alloc (.cells #[] 3)).cell? ⟨q, 3, none⟩ = some (.slice A2 3 c2) := (World.cell?_alloc_past _ _ _ hlt).trans k3)
    | ((with_reducible refine gate_builtin (b := .append) (xs := #[.tmp 15, .tmp 19]) rfl ?_); at_builtin; refine app_row (Value.int .i64) (0 : Int) base rfl (.tmp 15) (.tmp 19) 29 3 (.int .i64 0) 8 rfl Try.underlying29 infoInt rfl (by decide) (.slice (some ⟨w.heap.size, 0, none⟩) 0 0) [] [a, b, c] [a, b, c] rfl A2 3 c2 (fun k => w.heap.size ≤ k) rfl rfl (Kd.R_of_own (own_lit (w.drewN na) base 3 .i64 [] hb (by simp)) (fun k hk => by simp [Value.ownBlock] at hk; omega)) (Kd.C_alloc (Kd.C_drewN (Kd.R_reads' H4.out).2.2 na) _) (by simp; omega) (by simp) ?_; intro B1 d1 w1 hr1 hk1; have HR1 := Aside0.mk hr1; have HK1 := Aside0.mk ((((Keeps.refl (fun _ => False) w).drewN na).alloc _).trans hk1 (fun k hk => .inr (by simp [Value.ownBlock] at hk; omega))); clear hr1 hk1)
    | ((with_reducible refine gate_builtin (b := .append) (xs := #[.tmp 20, .tmp 22]) rfl ?_); at_builtin; refine app_row (Value.int .i64) (0 : Int) base rfl (.tmp 20) (.tmp 22) 29 3 (.int .i64 0) 8 rfl Try.underlying29 infoInt rfl (by decide) (.slice B1 3 d1) [a, b, c] [d] [a, b, c, d] rfl (some ⟨w1.heap.size, 0, none⟩) 1 1 (fun k => w.heap.size ≤ k) rfl rfl (Kd.R_alloc (Kd.R_mono HR1.out (fun k hk => hk.elim id (fun hn => by have := hn.1; simp at this; omega))) _) (C_one (Value.int .i64) 0 w1 3 d) (by have := HK1.out.size; simp; omega) (by simp) ?_; intro B2 d2 w2 hr2 hk2; have HR2 := Aside0.mk (Kd.R_mono (Kd.R_bound hr2) (ok' := fun k => w.heap.size ≤ k ∧ k < w2.heap.size) (fun k hk => ⟨hk.1.elim id (fun hn => by have h1 := hn.1; have h2 := HK1.out.size; simp at h1; omega), hk.2.2.1⟩)); have HK2 := Aside0.mk ((HK1.out.alloc _).trans hk2 (fun k hk => .inr (HR1.out.1 k hk.symm |>.elim id (fun hn => by have := hn.1; simp at this; omega)))); have HB2 := Aside0.mk (HK2.out.blk H1.out id); obtain ⟨g, dg, eg, _, _⟩ := (Kd.own_of_R HR2.out).form (by simp); injection eg with eg1 eg2 eg3; subst eg1; have z0 : w2.cell? ⟨g, 0, none⟩ = some (.int .i64 a) := (own_at (k := .i64) (xs := [a, b, c, d]) (Kd.own_of_R HR2.out) 0 (by omega) (by simp)).1; have z1 : w2.cell? ⟨g, 1, none⟩ = some (.int .i64 b) := (own_at (k := .i64) (xs := [a, b, c, d]) (Kd.own_of_R HR2.out) 1 (by omega) (by simp)).1; have z2 : w2.cell? ⟨g, 2, none⟩ = some (.int .i64 c) := (own_at (k := .i64) (xs := [a, b, c, d]) (Kd.own_of_R HR2.out) 2 (by omega) (by simp)).1; have z3 : w2.cell? ⟨g, 3, none⟩ = some (.int .i64 d) := (own_at (k := .i64) (xs := [a, b, c, d]) (Kd.own_of_R HR2.out) 3 (by omega) (by simp)).1; have j0 : w2.cell? ⟨q, 0, none⟩ = some (.slice A0 Out.length c0) := (blk_cell HB2.out 0).trans rfl; have j2 : w2.cell? ⟨q, 2, none⟩ = some (.int .i64 Esc) := (blk_cell HB2.out 2).trans rfl; have j3 : w2.cell? ⟨q, 3, none⟩ = some (.slice A2 3 c2) := (blk_cell HB2.out 3).trans rfl; have j4 : w2.cell? ⟨q, 4, none⟩ = some (.int .u16 0) := (blk_cell HB2.out 4).trans rfl; have g0 := blk_frozen HB2.out 0; have g2 := blk_frozen HB2.out 2; have g3 := blk_frozen HB2.out 3; have g4 := blk_frozen HB2.out 4; clear hr2 hk2 eg2 eg3))
  go_quiet (fail)
  go_wp2_with (first
    | (go_at_call 62; refine (orthoepyref01_High.calls U true _ HHI.out).mono ?_; rintro e w3 ⟨rfl, hd⟩; obtain ⟨n3, hd⟩ := hd.out; subst hd))
  go_ret
  have fin : ∀ n, Keeps (MineR S q) w ((((w2.drewN n).setCell ⟨q, 3, none⟩ (.slice none 0 0)).setCell ⟨q, 2, none⟩ (.int .i64 0)).setCell ⟨q, 4, none⟩ (.int .u16 U)) ∧ RefAt ((((w2.drewN n).setCell ⟨q, 3, none⟩ (.slice none 0 0)).setCell ⟨q, 2, none⟩ (.int .i64 0)).setCell ⟨q, 4, none⟩ (.int .u16 U)) base (More S w ((((w2.drewN n).setCell ⟨q, 3, none⟩ (.slice none 0 0)).setCell ⟨q, 2, none⟩ (.int .i64 0)).setCell ⟨q, 4, none⟩ (.int .u16 U))) q ⟨Out, B, 0, [], U, Over⟩ := fun n => by
    have hk0 := ((((Keeps.refl (fun k => k = q) w2).drewN n).at_ rfl 3 (.slice none 0 0)).at_ rfl 2 (.int .i64 0)).at_ rfl 4 (.int .u16 U)
    have hk : Keeps (fun k => k = q) w _ := (HK2.out.mono (fun _ h => h.elim)).trans hk0 (fun _ h => .inl h)
    have hq : ∀ k, S k → ¬ k = q := H.out.ne
    exact ⟨hk.mono (fun _ h => .inl h), ⟨⟨A0, c0, A1, c1, none, 0, (blk_set (blk_set (blk_set (blk_drewN HB2.out n) 3 _) 2 _) 4 _).trans rfl, Kd.R_mono (hk.R H2.out hq) (fun _ h => .inl h), Kd.R_mono (hk.R H3.out hq) (fun _ h => .inl h), Kd.R_nil _ _ _ _ _⟩, more_ne1 H.out.ne hlt, ⟨Nat.le_trans hb hk.size, H.out.base_.2⟩, more_lt H.out.slt hk.size⟩⟩
  exact ⟨rfl, (fin _).1, (fin _).2⟩
set_option maxHeartbeats 4000000 in
set_option maxRecDepth 100000 in
theorem rdig_4zhalft (base q : Nat) (S : Nat → Prop) (Out B : List Int) (Esc : Int) (Over : Bool) (x a b c d wt: Int) (U jc : Int) (w : World) (h : RefAt w base S q ⟨Out, B, Esc, [a, b, c], 0, Over⟩) (hx : 0 ≤ x ∧ x ≤ 255) (hv : hexV x = d) (hr : 0 ≤ a ∧ a ≤ 15 ∧ 0 ≤ b ∧ b ≤ 15 ∧ 0 ≤ c ∧ c ≤ 15 ∧ 0 ≤ d ∧ d ≤ 15) (ea : a = 13) (eb : b < 12) (hU : a * 4096 + b * 256 + c * 16 + d = U) (hhi : orthoepyref01_High.f U = some true) :
    Calls Try.prog 46 #[.pointer (some ⟨q, 0, none⟩), .int .u8 x] w fun e w' => e = .returned (.int .i64 0) ∧ Keeps (MineR S q) w w' ∧ RefAt w' base (More S w w') q ⟨Out, B, 0, [], U, Over⟩ := by
  obtain ⟨A0, c0, A1, c1, A2, c2, h1, h2, h3, h4⟩ := h.row
  simp only [RV.cells, List.length_cons, List.length_nil, Nat.zero_add, Nat.reduceAdd] at h1 h2 h3 h4
  have hh := hex_val x hx.1 hx.2
  rw [hv] at hh
  have k3 : w.cell? ⟨q, 3, none⟩ = some (.slice A2 3 c2) := (blk_cell h1 3).trans rfl
  have ta : (a == 13) = true := beq_iff_eq.mpr ea
  have ta' : (a != 13) = false := by rw [ea]; rfl
  have tb : decide (12 ≤ b) = false := decide_eq_false (by omega)
  have hub : 0 ≤ U ∧ U < 65536 := by omega
  have HHI := Aside0.mk hhi
  have HHx := Aside0.mk hh
  have hb := h.base_.1
  have H1 := Aside0.mk h1
  have H2 := Aside0.mk h2
  have H3 := Aside0.mk h3
  have H4 := Aside0.mk h4
  have H := Aside0.mk h
  have hlt := h.lt
  clear h h1 h2 h3 h4 hh hv ea eb hhi
  go_enter Try.func46, Try.ntmps46
  go_wp2_with (first
    | (go_at_call 61; refine (orthoepyref12_hex.calls 12 x d _ HHx.out).mono ?_; rintro e w0 ⟨rfl, hd⟩; obtain ⟨na, hd⟩ := hd.out; subst hd; have k3' : ((w.drewN na).alloc (.cells #[] 3)).cell? ⟨q, 3, none⟩ = some (.slice A2 3 c2) := (World.cell?_alloc_past _ _ _ hlt).trans k3)
    | ((with_reducible refine gate_builtin (b := .append) (xs := #[.tmp 15, .tmp 19]) rfl ?_); at_builtin; refine app_row (Value.int .i64) (0 : Int) base rfl (.tmp 15) (.tmp 19) 29 3 (.int .i64 0) 8 rfl Try.underlying29 infoInt rfl (by decide) (.slice (some ⟨w.heap.size, 0, none⟩) 0 0) [] [a, b, c] [a, b, c] rfl A2 3 c2 (fun k => w.heap.size ≤ k) rfl rfl (Kd.R_of_own (own_lit (w.drewN na) base 3 .i64 [] hb (by simp)) (fun k hk => by simp [Value.ownBlock] at hk; omega)) (Kd.C_alloc (Kd.C_drewN (Kd.R_reads' H4.out).2.2 na) _) (by simp; omega) (by simp) ?_; intro B1 d1 w1 hr1 hk1; have HR1 := Aside0.mk hr1; have HK1 := Aside0.mk ((((Keeps.refl (fun _ => False) w).drewN na).alloc _).trans hk1 (fun k hk => .inr (by simp [Value.ownBlock] at hk; omega))); clear hr1 hk1)
    | ((with_reducible refine gate_builtin (b := .append) (xs := #[.tmp 20, .tmp 22]) rfl ?_); at_builtin; refine app_row (Value.int .i64) (0 : Int) base rfl (.tmp 20) (.tmp 22) 29 3 (.int .i64 0) 8 rfl Try.underlying29 infoInt rfl (by decide) (.slice B1 3 d1) [a, b, c] [d] [a, b, c, d] rfl (some ⟨w1.heap.size, 0, none⟩) 1 1 (fun k => w.heap.size ≤ k) rfl rfl (Kd.R_alloc (Kd.R_mono HR1.out (fun k hk => hk.elim id (fun hn => by have := hn.1; simp at this; omega))) _) (C_one (Value.int .i64) 0 w1 3 d) (by have := HK1.out.size; simp; omega) (by simp) ?_; intro B2 d2 w2 hr2 hk2; have HR2 := Aside0.mk (Kd.R_mono (Kd.R_bound hr2) (ok' := fun k => w.heap.size ≤ k ∧ k < w2.heap.size) (fun k hk => ⟨hk.1.elim id (fun hn => by have h1 := hn.1; have h2 := HK1.out.size; simp at h1; omega), hk.2.2.1⟩)); have HK2 := Aside0.mk ((HK1.out.alloc _).trans hk2 (fun k hk => .inr (HR1.out.1 k hk.symm |>.elim id (fun hn => by have := hn.1; simp at this; omega)))); have HB2 := Aside0.mk (HK2.out.blk H1.out id); obtain ⟨g, dg, eg, _, _⟩ := (Kd.own_of_R HR2.out).form (by simp); injection eg with eg1 eg2 eg3; subst eg1; have z0 : w2.cell? ⟨g, 0, none⟩ = some (.int .i64 a) := (own_at (k := .i64) (xs := [a, b, c, d]) (Kd.own_of_R HR2.out) 0 (by omega) (by simp)).1; have z1 : w2.cell? ⟨g, 1, none⟩ = some (.int .i64 b) := (own_at (k := .i64) (xs := [a, b, c, d]) (Kd.own_of_R HR2.out) 1 (by omega) (by simp)).1; have z2 : w2.cell? ⟨g, 2, none⟩ = some (.int .i64 c) := (own_at (k := .i64) (xs := [a, b, c, d]) (Kd.own_of_R HR2.out) 2 (by omega) (by simp)).1; have z3 : w2.cell? ⟨g, 3, none⟩ = some (.int .i64 d) := (own_at (k := .i64) (xs := [a, b, c, d]) (Kd.own_of_R HR2.out) 3 (by omega) (by simp)).1; have j0 : w2.cell? ⟨q, 0, none⟩ = some (.slice A0 Out.length c0) := (blk_cell HB2.out 0).trans rfl; have j2 : w2.cell? ⟨q, 2, none⟩ = some (.int .i64 Esc) := (blk_cell HB2.out 2).trans rfl; have j3 : w2.cell? ⟨q, 3, none⟩ = some (.slice A2 3 c2) := (blk_cell HB2.out 3).trans rfl; have j4 : w2.cell? ⟨q, 4, none⟩ = some (.int .u16 0) := (blk_cell HB2.out 4).trans rfl; have g0 := blk_frozen HB2.out 0; have g2 := blk_frozen HB2.out 2; have g3 := blk_frozen HB2.out 3; have g4 := blk_frozen HB2.out 4; clear hr2 hk2 eg2 eg3))
  go_quiet (fail)
  go_wp2_with (first
    | (go_at_call 62; refine (orthoepyref01_High.calls U true _ HHI.out).mono ?_; rintro e w3 ⟨rfl, hd⟩; obtain ⟨n3, hd⟩ := hd.out; subst hd))
  go_ret
  have fin : ∀ n, Keeps (MineR S q) w ((((w2.drewN n).setCell ⟨q, 3, none⟩ (.slice none 0 0)).setCell ⟨q, 2, none⟩ (.int .i64 0)).setCell ⟨q, 4, none⟩ (.int .u16 U)) ∧ RefAt ((((w2.drewN n).setCell ⟨q, 3, none⟩ (.slice none 0 0)).setCell ⟨q, 2, none⟩ (.int .i64 0)).setCell ⟨q, 4, none⟩ (.int .u16 U)) base (More S w ((((w2.drewN n).setCell ⟨q, 3, none⟩ (.slice none 0 0)).setCell ⟨q, 2, none⟩ (.int .i64 0)).setCell ⟨q, 4, none⟩ (.int .u16 U))) q ⟨Out, B, 0, [], U, Over⟩ := fun n => by
    have hk0 := ((((Keeps.refl (fun k => k = q) w2).drewN n).at_ rfl 3 (.slice none 0 0)).at_ rfl 2 (.int .i64 0)).at_ rfl 4 (.int .u16 U)
    have hk : Keeps (fun k => k = q) w _ := (HK2.out.mono (fun _ h => h.elim)).trans hk0 (fun _ h => .inl h)
    have hq : ∀ k, S k → ¬ k = q := H.out.ne
    exact ⟨hk.mono (fun _ h => .inl h), ⟨⟨A0, c0, A1, c1, none, 0, (blk_set (blk_set (blk_set (blk_drewN HB2.out n) 3 _) 2 _) 4 _).trans rfl, Kd.R_mono (hk.R H2.out hq) (fun _ h => .inl h), Kd.R_mono (hk.R H3.out hq) (fun _ h => .inl h), Kd.R_nil _ _ _ _ _⟩, more_ne1 H.out.ne hlt, ⟨Nat.le_trans hb hk.size, H.out.base_.2⟩, more_lt H.out.slt hk.size⟩⟩
  exact ⟨rfl, (fin _).1, (fin _).2⟩
set_option maxHeartbeats 4000000 in
set_option maxRecDepth 100000 in
theorem rdig_4znons (base q : Nat) (S : Nat → Prop) (Out B : List Int) (Esc : Int) (Over : Bool) (x a b c d wt: Int) (U jc : Int) (w : World) (h : RefAt w base S q ⟨Out, B, Esc, [a, b, c], 0, Over⟩) (hx : 0 ≤ x ∧ x ≤ 255) (hv : hexV x = d) (hr : 0 ≤ a ∧ a ≤ 15 ∧ 0 ≤ b ∧ b ≤ 15 ∧ 0 ≤ c ∧ c ≤ 15 ∧ 0 ≤ d ∧ d ≤ 15) (ea : a ≠ 13) (hU : a * 4096 + b * 256 + c * 16 + d = U) (hhi : orthoepyref01_High.f U = some false) (hn : orthoepyref01_Nonchar.f U = some true) :
    Calls Try.prog 46 #[.pointer (some ⟨q, 0, none⟩), .int .u8 x] w fun e w' => e = .returned (.int .i64 6) ∧ Keeps (fun _ => False) w w' ∧ RefAt w' base S q ⟨Out, B, Esc, [a, b, c], 0, Over⟩ := by
  obtain ⟨A0, c0, A1, c1, A2, c2, h1, h2, h3, h4⟩ := h.row
  simp only [RV.cells, List.length_cons, List.length_nil, Nat.zero_add, Nat.reduceAdd] at h1 h2 h3 h4
  have hh := hex_val x hx.1 hx.2
  rw [hv] at hh
  have k3 : w.cell? ⟨q, 3, none⟩ = some (.slice A2 3 c2) := (blk_cell h1 3).trans rfl
  have ta : (a == 13) = false := beq_f ea
  have ta' : (a != 13) = true := bne_t ea
  have hub : 0 ≤ U ∧ U < 65536 := by omega
  have HHI := Aside0.mk hhi
  have HN := Aside0.mk hn
  have HHx := Aside0.mk hh
  have hb := h.base_.1
  have H1 := Aside0.mk h1
  have H2 := Aside0.mk h2
  have H3 := Aside0.mk h3
  have H4 := Aside0.mk h4
  have H := Aside0.mk h
  have hlt := h.lt
  clear h h1 h2 h3 h4 hh hv ea hhi hn
  go_enter Try.func46, Try.ntmps46
  go_wp2_with (first
    | (go_at_call 61; refine (orthoepyref12_hex.calls 12 x d _ HHx.out).mono ?_; rintro e w0 ⟨rfl, hd⟩; obtain ⟨na, hd⟩ := hd.out; subst hd; have k3' : ((w.drewN na).alloc (.cells #[] 3)).cell? ⟨q, 3, none⟩ = some (.slice A2 3 c2) := (World.cell?_alloc_past _ _ _ hlt).trans k3)
    | ((with_reducible refine gate_builtin (b := .append) (xs := #[.tmp 15, .tmp 19]) rfl ?_); at_builtin; refine app_row (Value.int .i64) (0 : Int) base rfl (.tmp 15) (.tmp 19) 29 3 (.int .i64 0) 8 rfl Try.underlying29 infoInt rfl (by decide) (.slice (some ⟨w.heap.size, 0, none⟩) 0 0) [] [a, b, c] [a, b, c] rfl A2 3 c2 (fun k => w.heap.size ≤ k) rfl rfl (Kd.R_of_own (own_lit (w.drewN na) base 3 .i64 [] hb (by simp)) (fun k hk => by simp [Value.ownBlock] at hk; omega)) (Kd.C_alloc (Kd.C_drewN (Kd.R_reads' H4.out).2.2 na) _) (by simp; omega) (by simp) ?_; intro B1 d1 w1 hr1 hk1; have HR1 := Aside0.mk hr1; have HK1 := Aside0.mk ((((Keeps.refl (fun _ => False) w).drewN na).alloc _).trans hk1 (fun k hk => .inr (by simp [Value.ownBlock] at hk; omega))); clear hr1 hk1)
    | ((with_reducible refine gate_builtin (b := .append) (xs := #[.tmp 20, .tmp 22]) rfl ?_); at_builtin; refine app_row (Value.int .i64) (0 : Int) base rfl (.tmp 20) (.tmp 22) 29 3 (.int .i64 0) 8 rfl Try.underlying29 infoInt rfl (by decide) (.slice B1 3 d1) [a, b, c] [d] [a, b, c, d] rfl (some ⟨w1.heap.size, 0, none⟩) 1 1 (fun k => w.heap.size ≤ k) rfl rfl (Kd.R_alloc (Kd.R_mono HR1.out (fun k hk => hk.elim id (fun hn => by have := hn.1; simp at this; omega))) _) (C_one (Value.int .i64) 0 w1 3 d) (by have := HK1.out.size; simp; omega) (by simp) ?_; intro B2 d2 w2 hr2 hk2; have HR2 := Aside0.mk (Kd.R_mono (Kd.R_bound hr2) (ok' := fun k => w.heap.size ≤ k ∧ k < w2.heap.size) (fun k hk => ⟨hk.1.elim id (fun hn => by have h1 := hn.1; have h2 := HK1.out.size; simp at h1; omega), hk.2.2.1⟩)); have HK2 := Aside0.mk ((HK1.out.alloc _).trans hk2 (fun k hk => .inr (HR1.out.1 k hk.symm |>.elim id (fun hn => by have := hn.1; simp at this; omega)))); have HB2 := Aside0.mk (HK2.out.blk H1.out id); obtain ⟨g, dg, eg, _, _⟩ := (Kd.own_of_R HR2.out).form (by simp); injection eg with eg1 eg2 eg3; subst eg1; have z0 : w2.cell? ⟨g, 0, none⟩ = some (.int .i64 a) := (own_at (k := .i64) (xs := [a, b, c, d]) (Kd.own_of_R HR2.out) 0 (by omega) (by simp)).1; have z1 : w2.cell? ⟨g, 1, none⟩ = some (.int .i64 b) := (own_at (k := .i64) (xs := [a, b, c, d]) (Kd.own_of_R HR2.out) 1 (by omega) (by simp)).1; have z2 : w2.cell? ⟨g, 2, none⟩ = some (.int .i64 c) := (own_at (k := .i64) (xs := [a, b, c, d]) (Kd.own_of_R HR2.out) 2 (by omega) (by simp)).1; have z3 : w2.cell? ⟨g, 3, none⟩ = some (.int .i64 d) := (own_at (k := .i64) (xs := [a, b, c, d]) (Kd.own_of_R HR2.out) 3 (by omega) (by simp)).1; have j0 : w2.cell? ⟨q, 0, none⟩ = some (.slice A0 Out.length c0) := (blk_cell HB2.out 0).trans rfl; have j2 : w2.cell? ⟨q, 2, none⟩ = some (.int .i64 Esc) := (blk_cell HB2.out 2).trans rfl; have j3 : w2.cell? ⟨q, 3, none⟩ = some (.slice A2 3 c2) := (blk_cell HB2.out 3).trans rfl; have j4 : w2.cell? ⟨q, 4, none⟩ = some (.int .u16 0) := (blk_cell HB2.out 4).trans rfl; have g0 := blk_frozen HB2.out 0; have g2 := blk_frozen HB2.out 2; have g3 := blk_frozen HB2.out 3; have g4 := blk_frozen HB2.out 4; clear hr2 hk2 eg2 eg3))
  go_quiet (fail)
  go_wp2_with (first
    | (go_at_call 62; refine (orthoepyref01_High.calls U false _ HHI.out).mono ?_; rintro e w3 ⟨rfl, hd⟩; obtain ⟨n3, hd⟩ := hd.out; subst hd)
    | (go_at_call 19; refine (orthoepyref01_Nonchar.calls U true _ HN.out).mono ?_; rintro e w4 ⟨rfl, hd⟩; obtain ⟨n4, hd⟩ := hd.out; subst hd))
  go_ret
  have fin : ∀ n, Keeps (fun _ => False) w (w2.drewN n) ∧ RefAt (w2.drewN n) base S q ⟨Out, B, Esc, [a, b, c], 0, Over⟩ := fun n => ⟨HK2.out.drewN n, H.out.keep (HK2.out.drewN n) id (fun _ _ => id)⟩
  exact ⟨rfl, (fin _).1, (fin _).2⟩
set_option maxHeartbeats 4000000 in
set_option maxRecDepth 100000 in
theorem rdig_4znont (base q : Nat) (S : Nat → Prop) (Out B : List Int) (Esc : Int) (Over : Bool) (x a b c d wt: Int) (U jc : Int) (w : World) (h : RefAt w base S q ⟨Out, B, Esc, [a, b, c], 0, Over⟩) (hx : 0 ≤ x ∧ x ≤ 255) (hv : hexV x = d) (hr : 0 ≤ a ∧ a ≤ 15 ∧ 0 ≤ b ∧ b ≤ 15 ∧ 0 ≤ c ∧ c ≤ 15 ∧ 0 ≤ d ∧ d ≤ 15) (ea : a = 13) (eb : b < 12) (hU : a * 4096 + b * 256 + c * 16 + d = U) (hhi : orthoepyref01_High.f U = some false) (hn : orthoepyref01_Nonchar.f U = some true) :
    Calls Try.prog 46 #[.pointer (some ⟨q, 0, none⟩), .int .u8 x] w fun e w' => e = .returned (.int .i64 6) ∧ Keeps (fun _ => False) w w' ∧ RefAt w' base S q ⟨Out, B, Esc, [a, b, c], 0, Over⟩ := by
  obtain ⟨A0, c0, A1, c1, A2, c2, h1, h2, h3, h4⟩ := h.row
  simp only [RV.cells, List.length_cons, List.length_nil, Nat.zero_add, Nat.reduceAdd] at h1 h2 h3 h4
  have hh := hex_val x hx.1 hx.2
  rw [hv] at hh
  have k3 : w.cell? ⟨q, 3, none⟩ = some (.slice A2 3 c2) := (blk_cell h1 3).trans rfl
  have ta : (a == 13) = true := beq_iff_eq.mpr ea
  have ta' : (a != 13) = false := by rw [ea]; rfl
  have tb : decide (12 ≤ b) = false := decide_eq_false (by omega)
  have hub : 0 ≤ U ∧ U < 65536 := by omega
  have HHI := Aside0.mk hhi
  have HN := Aside0.mk hn
  have HHx := Aside0.mk hh
  have hb := h.base_.1
  have H1 := Aside0.mk h1
  have H2 := Aside0.mk h2
  have H3 := Aside0.mk h3
  have H4 := Aside0.mk h4
  have H := Aside0.mk h
  have hlt := h.lt
  clear h h1 h2 h3 h4 hh hv ea eb hhi hn
  go_enter Try.func46, Try.ntmps46
  go_wp2_with (first
    | (go_at_call 61; refine (orthoepyref12_hex.calls 12 x d _ HHx.out).mono ?_; rintro e w0 ⟨rfl, hd⟩; obtain ⟨na, hd⟩ := hd.out; subst hd; have k3' : ((w.drewN na).alloc (.cells #[] 3)).cell? ⟨q, 3, none⟩ = some (.slice A2 3 c2) := (World.cell?_alloc_past _ _ _ hlt).trans k3)
    | ((with_reducible refine gate_builtin (b := .append) (xs := #[.tmp 15, .tmp 19]) rfl ?_); at_builtin; refine app_row (Value.int .i64) (0 : Int) base rfl (.tmp 15) (.tmp 19) 29 3 (.int .i64 0) 8 rfl Try.underlying29 infoInt rfl (by decide) (.slice (some ⟨w.heap.size, 0, none⟩) 0 0) [] [a, b, c] [a, b, c] rfl A2 3 c2 (fun k => w.heap.size ≤ k) rfl rfl (Kd.R_of_own (own_lit (w.drewN na) base 3 .i64 [] hb (by simp)) (fun k hk => by simp [Value.ownBlock] at hk; omega)) (Kd.C_alloc (Kd.C_drewN (Kd.R_reads' H4.out).2.2 na) _) (by simp; omega) (by simp) ?_; intro B1 d1 w1 hr1 hk1; have HR1 := Aside0.mk hr1; have HK1 := Aside0.mk ((((Keeps.refl (fun _ => False) w).drewN na).alloc _).trans hk1 (fun k hk => .inr (by simp [Value.ownBlock] at hk; omega))); clear hr1 hk1)
    | ((with_reducible refine gate_builtin (b := .append) (xs := #[.tmp 20, .tmp 22]) rfl ?_); at_builtin; refine app_row (Value.int .i64) (0 : Int) base rfl (.tmp 20) (.tmp 22) 29 3 (.int .i64 0) 8 rfl Try.underlying29 infoInt rfl (by decide) (.slice B1 3 d1) [a, b, c] [d] [a, b, c, d] rfl (some ⟨w1.heap.size, 0, none⟩) 1 1 (fun k => w.heap.size ≤ k) rfl rfl (Kd.R_alloc (Kd.R_mono HR1.out (fun k hk => hk.elim id (fun hn => by have := hn.1; simp at this; omega))) _) (C_one (Value.int .i64) 0 w1 3 d) (by have := HK1.out.size; simp; omega) (by simp) ?_; intro B2 d2 w2 hr2 hk2; have HR2 := Aside0.mk (Kd.R_mono (Kd.R_bound hr2) (ok' := fun k => w.heap.size ≤ k ∧ k < w2.heap.size) (fun k hk => ⟨hk.1.elim id (fun hn => by have h1 := hn.1; have h2 := HK1.out.size; simp at h1; omega), hk.2.2.1⟩)); have HK2 := Aside0.mk ((HK1.out.alloc _).trans hk2 (fun k hk => .inr (HR1.out.1 k hk.symm |>.elim id (fun hn => by have := hn.1; simp at this; omega)))); have HB2 := Aside0.mk (HK2.out.blk H1.out id); obtain ⟨g, dg, eg, _, _⟩ := (Kd.own_of_R HR2.out).form (by simp); injection eg with eg1 eg2 eg3; subst eg1; have z0 : w2.cell? ⟨g, 0, none⟩ = some (.int .i64 a) := (own_at (k := .i64) (xs := [a, b, c, d]) (Kd.own_of_R HR2.out) 0 (by omega) (by simp)).1; have z1 : w2.cell? ⟨g, 1, none⟩ = some (.int .i64 b) := (own_at (k := .i64) (xs := [a, b, c, d]) (Kd.own_of_R HR2.out) 1 (by omega) (by simp)).1; have z2 : w2.cell? ⟨g, 2, none⟩ = some (.int .i64 c) := (own_at (k := .i64) (xs := [a, b, c, d]) (Kd.own_of_R HR2.out) 2 (by omega) (by simp)).1; have z3 : w2.cell? ⟨g, 3, none⟩ = some (.int .i64 d) := (own_at (k := .i64) (xs := [a, b, c, d]) (Kd.own_of_R HR2.out) 3 (by omega) (by simp)).1; have j0 : w2.cell? ⟨q, 0, none⟩ = some (.slice A0 Out.length c0) := (blk_cell HB2.out 0).trans rfl; have j2 : w2.cell? ⟨q, 2, none⟩ = some (.int .i64 Esc) := (blk_cell HB2.out 2).trans rfl; have j3 : w2.cell? ⟨q, 3, none⟩ = some (.slice A2 3 c2) := (blk_cell HB2.out 3).trans rfl; have j4 : w2.cell? ⟨q, 4, none⟩ = some (.int .u16 0) := (blk_cell HB2.out 4).trans rfl; have g0 := blk_frozen HB2.out 0; have g2 := blk_frozen HB2.out 2; have g3 := blk_frozen HB2.out 3; have g4 := blk_frozen HB2.out 4; clear hr2 hk2 eg2 eg3))
  go_quiet (fail)
  go_wp2_with (first
    | (go_at_call 62; refine (orthoepyref01_High.calls U false _ HHI.out).mono ?_; rintro e w3 ⟨rfl, hd⟩; obtain ⟨n3, hd⟩ := hd.out; subst hd)
    | (go_at_call 19; refine (orthoepyref01_Nonchar.calls U true _ HN.out).mono ?_; rintro e w4 ⟨rfl, hd⟩; obtain ⟨n4, hd⟩ := hd.out; subst hd))
  go_ret
  have fin : ∀ n, Keeps (fun _ => False) w (w2.drewN n) ∧ RefAt (w2.drewN n) base S q ⟨Out, B, Esc, [a, b, c], 0, Over⟩ := fun n => ⟨HK2.out.drewN n, H.out.keep (HK2.out.drewN n) id (fun _ _ => id)⟩
  exact ⟨rfl, (fin _).1, (fin _).2⟩
set_option maxHeartbeats 4000000 in
set_option maxRecDepth 100000 in
theorem rdig_4hnon (base q : Nat) (S : Nat → Prop) (Out B : List Int) (Esc : Int) (Over : Bool) (x a b c d wt: Int) (U jc : Int) (w : World) (h : RefAt w base S q ⟨Out, B, Esc, [a, b, c], wt, Over⟩) (hx : 0 ≤ x ∧ x ≤ 255) (hv : hexV x = d) (hr : 0 ≤ a ∧ a ≤ 15 ∧ 0 ≤ b ∧ b ≤ 15 ∧ 0 ≤ c ∧ c ≤ 15 ∧ 0 ≤ d ∧ d ≤ 15) (ea : a = 13) (eb : 12 ≤ b) (hU : a * 4096 + b * 256 + c * 16 + d = U) (hw : 0 < wt) (hj : orthoepyref01_Join.f wt U = some (jc, true)) (hn : orthoepyref01_Nonchar.f jc = some true) :
    Calls Try.prog 46 #[.pointer (some ⟨q, 0, none⟩), .int .u8 x] w fun e w' => e = .returned (.int .i64 6) ∧ Keeps (fun _ => False) w w' ∧ RefAt w' base S q ⟨Out, B, Esc, [a, b, c], wt, Over⟩ := by
  obtain ⟨A0, c0, A1, c1, A2, c2, h1, h2, h3, h4⟩ := h.row
  simp only [RV.cells, List.length_cons, List.length_nil, Nat.zero_add, Nat.reduceAdd] at h1 h2 h3 h4
  have hh := hex_val x hx.1 hx.2
  rw [hv] at hh
  have k3 : w.cell? ⟨q, 3, none⟩ = some (.slice A2 3 c2) := (blk_cell h1 3).trans rfl
  have ta : (a == 13) = true := beq_iff_eq.mpr ea
  have ta' : (a != 13) = false := by rw [ea]; rfl
  have tb : decide (12 ≤ b) = true := decide_eq_true eb
  have hub : 0 ≤ U ∧ U < 65536 := by omega
  have tw : decide (0 < wt) = true := decide_eq_true hw
  have tw2 : (wt == 0) = false := beq_f (by omega)
  have HJ := Aside0.mk hj
  have HN := Aside0.mk hn
  have HHx := Aside0.mk hh
  have hb := h.base_.1
  have H1 := Aside0.mk h1
  have H2 := Aside0.mk h2
  have H3 := Aside0.mk h3
  have H4 := Aside0.mk h4
  have H := Aside0.mk h
  have hlt := h.lt
  clear h h1 h2 h3 h4 hh hv ea eb hw hj hn
  go_enter Try.func46, Try.ntmps46
  go_wp2_with (first
    | (go_at_call 61; refine (orthoepyref12_hex.calls 12 x d _ HHx.out).mono ?_; rintro e w0 ⟨rfl, hd⟩; obtain ⟨na, hd⟩ := hd.out; subst hd; have k3' : ((w.drewN na).alloc (.cells #[] 3)).cell? ⟨q, 3, none⟩ = some (.slice A2 3 c2) := (World.cell?_alloc_past _ _ _ hlt).trans k3)
    | ((with_reducible refine gate_builtin (b := .append) (xs := #[.tmp 15, .tmp 19]) rfl ?_); at_builtin; refine app_row (Value.int .i64) (0 : Int) base rfl (.tmp 15) (.tmp 19) 29 3 (.int .i64 0) 8 rfl Try.underlying29 infoInt rfl (by decide) (.slice (some ⟨w.heap.size, 0, none⟩) 0 0) [] [a, b, c] [a, b, c] rfl A2 3 c2 (fun k => w.heap.size ≤ k) rfl rfl (Kd.R_of_own (own_lit (w.drewN na) base 3 .i64 [] hb (by simp)) (fun k hk => by simp [Value.ownBlock] at hk; omega)) (Kd.C_alloc (Kd.C_drewN (Kd.R_reads' H4.out).2.2 na) _) (by simp; omega) (by simp) ?_; intro B1 d1 w1 hr1 hk1; have HR1 := Aside0.mk hr1; have HK1 := Aside0.mk ((((Keeps.refl (fun _ => False) w).drewN na).alloc _).trans hk1 (fun k hk => .inr (by simp [Value.ownBlock] at hk; omega))); clear hr1 hk1)
    | ((with_reducible refine gate_builtin (b := .append) (xs := #[.tmp 20, .tmp 22]) rfl ?_); at_builtin; refine app_row (Value.int .i64) (0 : Int) base rfl (.tmp 20) (.tmp 22) 29 3 (.int .i64 0) 8 rfl Try.underlying29 infoInt rfl (by decide) (.slice B1 3 d1) [a, b, c] [d] [a, b, c, d] rfl (some ⟨w1.heap.size, 0, none⟩) 1 1 (fun k => w.heap.size ≤ k) rfl rfl (Kd.R_alloc (Kd.R_mono HR1.out (fun k hk => hk.elim id (fun hn => by have := hn.1; simp at this; omega))) _) (C_one (Value.int .i64) 0 w1 3 d) (by have := HK1.out.size; simp; omega) (by simp) ?_; intro B2 d2 w2 hr2 hk2; have HR2 := Aside0.mk (Kd.R_mono (Kd.R_bound hr2) (ok' := fun k => w.heap.size ≤ k ∧ k < w2.heap.size) (fun k hk => ⟨hk.1.elim id (fun hn => by have h1 := hn.1; have h2 := HK1.out.size; simp at h1; omega), hk.2.2.1⟩)); have HK2 := Aside0.mk ((HK1.out.alloc _).trans hk2 (fun k hk => .inr (HR1.out.1 k hk.symm |>.elim id (fun hn => by have := hn.1; simp at this; omega)))); have HB2 := Aside0.mk (HK2.out.blk H1.out id); obtain ⟨g, dg, eg, _, _⟩ := (Kd.own_of_R HR2.out).form (by simp); injection eg with eg1 eg2 eg3; subst eg1; have z0 : w2.cell? ⟨g, 0, none⟩ = some (.int .i64 a) := (own_at (k := .i64) (xs := [a, b, c, d]) (Kd.own_of_R HR2.out) 0 (by omega) (by simp)).1; have z1 : w2.cell? ⟨g, 1, none⟩ = some (.int .i64 b) := (own_at (k := .i64) (xs := [a, b, c, d]) (Kd.own_of_R HR2.out) 1 (by omega) (by simp)).1; have z2 : w2.cell? ⟨g, 2, none⟩ = some (.int .i64 c) := (own_at (k := .i64) (xs := [a, b, c, d]) (Kd.own_of_R HR2.out) 2 (by omega) (by simp)).1; have z3 : w2.cell? ⟨g, 3, none⟩ = some (.int .i64 d) := (own_at (k := .i64) (xs := [a, b, c, d]) (Kd.own_of_R HR2.out) 3 (by omega) (by simp)).1; have j0 : w2.cell? ⟨q, 0, none⟩ = some (.slice A0 Out.length c0) := (blk_cell HB2.out 0).trans rfl; have j2 : w2.cell? ⟨q, 2, none⟩ = some (.int .i64 Esc) := (blk_cell HB2.out 2).trans rfl; have j3 : w2.cell? ⟨q, 3, none⟩ = some (.slice A2 3 c2) := (blk_cell HB2.out 3).trans rfl; have j4 : w2.cell? ⟨q, 4, none⟩ = some (.int .u16 wt) := (blk_cell HB2.out 4).trans rfl; have g0 := blk_frozen HB2.out 0; have g2 := blk_frozen HB2.out 2; have g3 := blk_frozen HB2.out 3; have g4 := blk_frozen HB2.out 4; clear hr2 hk2 eg2 eg3))
  go_quiet (fail)
  go_wp2_with (first
    | (go_at_call 63; refine (orthoepyref01_Join.calls wt U jc true _ HJ.out).mono ?_; rintro e w3 ⟨rfl, hd⟩; obtain ⟨n3, hd⟩ := hd.out; subst hd)
    | (go_at_call 19; refine (orthoepyref01_Nonchar.calls jc true _ HN.out).mono ?_; rintro e w4 ⟨rfl, hd⟩; obtain ⟨n4, hd⟩ := hd.out; subst hd))
  go_ret
  have fin : ∀ n, Keeps (fun _ => False) w (w2.drewN n) ∧ RefAt (w2.drewN n) base S q ⟨Out, B, Esc, [a, b, c], wt, Over⟩ := fun n => ⟨HK2.out.drewN n, H.out.keep (HK2.out.drewN n) id (fun _ _ => id)⟩
  exact ⟨rfl, (fin _).1, (fin _).2⟩
set_option maxHeartbeats 4000000 in
set_option maxRecDepth 100000 in
theorem rdig_4zsays (base q : Nat) (S : Nat → Prop) (Out B : List Int) (Esc : Int) (Over : Bool) (x a b c d wt: Int) (U jc : Int) (w : World) (h : RefAt w base S q ⟨Out, B, Esc, [a, b, c], 0, Over⟩) (hx : 0 ≤ x ∧ x ≤ 255) (hv : hexV x = d) (hr : 0 ≤ a ∧ a ≤ 15 ∧ 0 ≤ b ∧ b ≤ 15 ∧ 0 ≤ c ∧ c ≤ 15 ∧ 0 ≤ d ∧ d ≤ 15) (ea : a ≠ 13) (hU : a * 4096 + b * 256 + c * 16 + d = U) (hhi : orthoepyref01_High.f U = some false) (hn : orthoepyref01_Nonchar.f U = some false) (hl : Out.length ≤ 1000000) :
    Calls Try.prog 46 #[.pointer (some ⟨q, 0, none⟩), .int .u8 x] w fun e w' => e = .returned (.int .i64 0) ∧ Keeps (MineR S q) w w' ∧ RefAt w' base (More S w w') q ⟨Out ++ [U], B, 0, [], 0, Over⟩ := by
  obtain ⟨A0, c0, A1, c1, A2, c2, h1, h2, h3, h4⟩ := h.row
  simp only [RV.cells, List.length_cons, List.length_nil, Nat.zero_add, Nat.reduceAdd] at h1 h2 h3 h4
  have hh := hex_val x hx.1 hx.2
  rw [hv] at hh
  have k3 : w.cell? ⟨q, 3, none⟩ = some (.slice A2 3 c2) := (blk_cell h1 3).trans rfl
  have ta : (a == 13) = false := beq_f ea
  have ta' : (a != 13) = true := bne_t ea
  have hub : 0 ≤ U ∧ U < 65536 := by omega
  have HHI := Aside0.mk hhi
  have HN := Aside0.mk hn
  obtain ⟨Y, hY⟩ : ∃ Y, Out ++ [U] = Y := ⟨_, rfl⟩
  have HY := Aside0.mk hY
  have HHx := Aside0.mk hh
  have hb := h.base_.1
  have H1 := Aside0.mk h1
  have H2 := Aside0.mk h2
  have H3 := Aside0.mk h3
  have H4 := Aside0.mk h4
  have H := Aside0.mk h
  have hlt := h.lt
  clear h h1 h2 h3 h4 hh hv ea hhi hn hY
  go_enter Try.func46, Try.ntmps46
  go_wp2_with (first
    | (go_at_call 61; refine (orthoepyref12_hex.calls 12 x d _ HHx.out).mono ?_; rintro e w0 ⟨rfl, hd⟩; obtain ⟨na, hd⟩ := hd.out; subst hd; have k3' : ((w.drewN na).alloc (.cells #[] 3)).cell? ⟨q, 3, none⟩ = some (.slice A2 3 c2) := (World.cell?_alloc_past _ _ _ hlt).trans k3)
    | ((with_reducible refine gate_builtin (b := .append) (xs := #[.tmp 15, .tmp 19]) rfl ?_); at_builtin; refine app_row (Value.int .i64) (0 : Int) base rfl (.tmp 15) (.tmp 19) 29 3 (.int .i64 0) 8 rfl Try.underlying29 infoInt rfl (by decide) (.slice (some ⟨w.heap.size, 0, none⟩) 0 0) [] [a, b, c] [a, b, c] rfl A2 3 c2 (fun k => w.heap.size ≤ k) rfl rfl (Kd.R_of_own (own_lit (w.drewN na) base 3 .i64 [] hb (by simp)) (fun k hk => by simp [Value.ownBlock] at hk; omega)) (Kd.C_alloc (Kd.C_drewN (Kd.R_reads' H4.out).2.2 na) _) (by simp; omega) (by simp) ?_; intro B1 d1 w1 hr1 hk1; have HR1 := Aside0.mk hr1; have HK1 := Aside0.mk ((((Keeps.refl (fun _ => False) w).drewN na).alloc _).trans hk1 (fun k hk => .inr (by simp [Value.ownBlock] at hk; omega))); clear hr1 hk1)
    | ((with_reducible refine gate_builtin (b := .append) (xs := #[.tmp 20, .tmp 22]) rfl ?_); at_builtin; refine app_row (Value.int .i64) (0 : Int) base rfl (.tmp 20) (.tmp 22) 29 3 (.int .i64 0) 8 rfl Try.underlying29 infoInt rfl (by decide) (.slice B1 3 d1) [a, b, c] [d] [a, b, c, d] rfl (some ⟨w1.heap.size, 0, none⟩) 1 1 (fun k => w.heap.size ≤ k) rfl rfl (Kd.R_alloc (Kd.R_mono HR1.out (fun k hk => hk.elim id (fun hn => by have := hn.1; simp at this; omega))) _) (C_one (Value.int .i64) 0 w1 3 d) (by have := HK1.out.size; simp; omega) (by simp) ?_; intro B2 d2 w2 hr2 hk2; have HR2 := Aside0.mk (Kd.R_mono (Kd.R_bound hr2) (ok' := fun k => w.heap.size ≤ k ∧ k < w2.heap.size) (fun k hk => ⟨hk.1.elim id (fun hn => by have h1 := hn.1; have h2 := HK1.out.size; simp at h1; omega), hk.2.2.1⟩)); have HK2 := Aside0.mk ((HK1.out.alloc _).trans hk2 (fun k hk => .inr (HR1.out.1 k hk.symm |>.elim id (fun hn => by have := hn.1; simp at this; omega)))); have HB2 := Aside0.mk (HK2.out.blk H1.out id); obtain ⟨g, dg, eg, _, _⟩ := (Kd.own_of_R HR2.out).form (by simp); injection eg with eg1 eg2 eg3; subst eg1; have z0 : w2.cell? ⟨g, 0, none⟩ = some (.int .i64 a) := (own_at (k := .i64) (xs := [a, b, c, d]) (Kd.own_of_R HR2.out) 0 (by omega) (by simp)).1; have z1 : w2.cell? ⟨g, 1, none⟩ = some (.int .i64 b) := (own_at (k := .i64) (xs := [a, b, c, d]) (Kd.own_of_R HR2.out) 1 (by omega) (by simp)).1; have z2 : w2.cell? ⟨g, 2, none⟩ = some (.int .i64 c) := (own_at (k := .i64) (xs := [a, b, c, d]) (Kd.own_of_R HR2.out) 2 (by omega) (by simp)).1; have z3 : w2.cell? ⟨g, 3, none⟩ = some (.int .i64 d) := (own_at (k := .i64) (xs := [a, b, c, d]) (Kd.own_of_R HR2.out) 3 (by omega) (by simp)).1; have j0 : w2.cell? ⟨q, 0, none⟩ = some (.slice A0 Out.length c0) := (blk_cell HB2.out 0).trans rfl; have j2 : w2.cell? ⟨q, 2, none⟩ = some (.int .i64 Esc) := (blk_cell HB2.out 2).trans rfl; have j3 : w2.cell? ⟨q, 3, none⟩ = some (.slice A2 3 c2) := (blk_cell HB2.out 3).trans rfl; have j4 : w2.cell? ⟨q, 4, none⟩ = some (.int .u16 0) := (blk_cell HB2.out 4).trans rfl; have g0 := blk_frozen HB2.out 0; have g2 := blk_frozen HB2.out 2; have g3 := blk_frozen HB2.out 3; have g4 := blk_frozen HB2.out 4; clear hr2 hk2 eg2 eg3))
  go_quiet (fail)
  go_wp2_with (first
    | (go_at_call 62; refine (orthoepyref01_High.calls U false _ HHI.out).mono ?_; rintro e w3 ⟨rfl, hd⟩; obtain ⟨n3, hd⟩ := hd.out; subst hd)
    | (go_at_call 19; refine (orthoepyref01_Nonchar.calls U false _ HN.out).mono ?_; rintro e w4 ⟨rfl, hd⟩; obtain ⟨n4, hd⟩ := hd.out; subst hd)
    | ((with_reducible refine gate_builtin (b := .append) (xs := #[.tmp 168, .tmp 170]) rfl ?_); at_builtin; refine app_row (Value.int .i32) (0 : Int) base rfl (.tmp 168) (.tmp 170) 30 21 (.int .i32 0) 4 rfl Try.underlying30 info21 rfl (by decide) (.slice A0 Out.length c0) Out [U] Y HY.out (some ⟨w2.heap.size, 0, none⟩) 1 1 S rfl rfl (Kd.R_alloc (Kd.R_drewN (HK2.out.R H2.out (fun _ _ => id)) _) _) (C_one (Value.int .i32) 0 (w2.drewN _) 21 U) (by have := HK2.out.size; simp; omega) (by omega) ?_; intro A3 c3 w6 hr6 hk6; have hsd := said_at H.out H1.out H2.out H3.out H4.out ((HK2.out.drewN _).alloc _) hr6 hk6; have p0 := blk_frozen hsd.2.1 0; have p2 := blk_frozen hsd.2.1 2; have p3 := blk_frozen hsd.2.1 3; have p4 := blk_frozen hsd.2.1 4; have e0 : w6.cell? ⟨q, 0, none⟩ = some (.slice A0 Out.length c0) := (blk_cell hsd.2.1 0).trans rfl; have e2 : w6.cell? ⟨q, 2, none⟩ = some (.int .i64 Esc) := (blk_cell hsd.2.1 2).trans rfl; have e3 : w6.cell? ⟨q, 3, none⟩ = some (.slice A2 3 c2) := (blk_cell hsd.2.1 3).trans rfl; have e4 : w6.cell? ⟨q, 4, none⟩ = some (.int .u16 0) := (blk_cell hsd.2.1 4).trans rfl; have HS := Aside0.mk hsd; clear hsd hr6 hk6))
  go_ret
  have hk := ((((Keeps.refl (fun k => k = q) w6).at_ rfl 0 (.slice A3 Y.length c3)).at_ rfl 3 (.slice none 0 0)).at_ rfl 2 (.int .i64 0)).at_ rfl 4 (.int .u16 0)
  have hK : Keeps (MineR S q) w _ := HS.out.1.trans hk (fun k h => .inl (.inl h))
  have hm : ∀ k, More S w w6 k → More S w ((((w6.setCell ⟨q, 0, none⟩ (.slice A3 Y.length c3)).setCell ⟨q, 3, none⟩ (.slice none 0 0)).setCell ⟨q, 2, none⟩ (.int .i64 0)).setCell ⟨q, 4, none⟩ (.int .u16 0)) k := by
    rintro k (h | h)
    · exact .inl h
    · exact .inr ⟨h.1, Nat.lt_of_lt_of_le h.2 hk.size⟩
  have hq := more_ne1 (W := w6) H.out.ne hlt
  refine ⟨rfl, hK, ⟨⟨A3, c3, A1, c1, none, 0, ?_, ?_, Kd.R_mono (hk.R HS.out.2.2.2.1 hq) hm, Kd.R_nil _ _ _ _ _⟩, more_ne1 H.out.ne hlt, ⟨Nat.le_trans hb hK.size, H.out.base_.2⟩, more_lt H.out.slt hK.size⟩⟩
  · simp only [RV.cells, HY.out]
    exact (blk_set (blk_set (blk_set (blk_set HS.out.2.1 0 _) 3 _) 2 _) 4 _).trans rfl
  · simp only [HY.out]
    exact Kd.R_mono (hk.R HS.out.2.2.1 hq) hm
set_option maxHeartbeats 4000000 in
set_option maxRecDepth 100000 in
theorem rdig_4zsayt (base q : Nat) (S : Nat → Prop) (Out B : List Int) (Esc : Int) (Over : Bool) (x a b c d wt: Int) (U jc : Int) (w : World) (h : RefAt w base S q ⟨Out, B, Esc, [a, b, c], 0, Over⟩) (hx : 0 ≤ x ∧ x ≤ 255) (hv : hexV x = d) (hr : 0 ≤ a ∧ a ≤ 15 ∧ 0 ≤ b ∧ b ≤ 15 ∧ 0 ≤ c ∧ c ≤ 15 ∧ 0 ≤ d ∧ d ≤ 15) (ea : a = 13) (eb : b < 12) (hU : a * 4096 + b * 256 + c * 16 + d = U) (hhi : orthoepyref01_High.f U = some false) (hn : orthoepyref01_Nonchar.f U = some false) (hl : Out.length ≤ 1000000) :
    Calls Try.prog 46 #[.pointer (some ⟨q, 0, none⟩), .int .u8 x] w fun e w' => e = .returned (.int .i64 0) ∧ Keeps (MineR S q) w w' ∧ RefAt w' base (More S w w') q ⟨Out ++ [U], B, 0, [], 0, Over⟩ := by
  obtain ⟨A0, c0, A1, c1, A2, c2, h1, h2, h3, h4⟩ := h.row
  simp only [RV.cells, List.length_cons, List.length_nil, Nat.zero_add, Nat.reduceAdd] at h1 h2 h3 h4
  have hh := hex_val x hx.1 hx.2
  rw [hv] at hh
  have k3 : w.cell? ⟨q, 3, none⟩ = some (.slice A2 3 c2) := (blk_cell h1 3).trans rfl
  have ta : (a == 13) = true := beq_iff_eq.mpr ea
  have ta' : (a != 13) = false := by rw [ea]; rfl
  have tb : decide (12 ≤ b) = false := decide_eq_false (by omega)
  have hub : 0 ≤ U ∧ U < 65536 := by omega
  have HHI := Aside0.mk hhi
  have HN := Aside0.mk hn
  obtain ⟨Y, hY⟩ : ∃ Y, Out ++ [U] = Y := ⟨_, rfl⟩
  have HY := Aside0.mk hY
  have HHx := Aside0.mk hh
  have hb := h.base_.1
  have H1 := Aside0.mk h1
  have H2 := Aside0.mk h2
  have H3 := Aside0.mk h3
  have H4 := Aside0.mk h4
  have H := Aside0.mk h
  have hlt := h.lt
  clear h h1 h2 h3 h4 hh hv ea eb hhi hn hY
  go_enter Try.func46, Try.ntmps46
  go_wp2_with (first
    | (go_at_call 61; refine (orthoepyref12_hex.calls 12 x d _ HHx.out).mono ?_; rintro e w0 ⟨rfl, hd⟩; obtain ⟨na, hd⟩ := hd.out; subst hd; have k3' : ((w.drewN na).alloc (.cells #[] 3)).cell? ⟨q, 3, none⟩ = some (.slice A2 3 c2) := (World.cell?_alloc_past _ _ _ hlt).trans k3)
    | ((with_reducible refine gate_builtin (b := .append) (xs := #[.tmp 15, .tmp 19]) rfl ?_); at_builtin; refine app_row (Value.int .i64) (0 : Int) base rfl (.tmp 15) (.tmp 19) 29 3 (.int .i64 0) 8 rfl Try.underlying29 infoInt rfl (by decide) (.slice (some ⟨w.heap.size, 0, none⟩) 0 0) [] [a, b, c] [a, b, c] rfl A2 3 c2 (fun k => w.heap.size ≤ k) rfl rfl (Kd.R_of_own (own_lit (w.drewN na) base 3 .i64 [] hb (by simp)) (fun k hk => by simp [Value.ownBlock] at hk; omega)) (Kd.C_alloc (Kd.C_drewN (Kd.R_reads' H4.out).2.2 na) _) (by simp; omega) (by simp) ?_; intro B1 d1 w1 hr1 hk1; have HR1 := Aside0.mk hr1; have HK1 := Aside0.mk ((((Keeps.refl (fun _ => False) w).drewN na).alloc _).trans hk1 (fun k hk => .inr (by simp [Value.ownBlock] at hk; omega))); clear hr1 hk1)
    | ((with_reducible refine gate_builtin (b := .append) (xs := #[.tmp 20, .tmp 22]) rfl ?_); at_builtin; refine app_row (Value.int .i64) (0 : Int) base rfl (.tmp 20) (.tmp 22) 29 3 (.int .i64 0) 8 rfl Try.underlying29 infoInt rfl (by decide) (.slice B1 3 d1) [a, b, c] [d] [a, b, c, d] rfl (some ⟨w1.heap.size, 0, none⟩) 1 1 (fun k => w.heap.size ≤ k) rfl rfl (Kd.R_alloc (Kd.R_mono HR1.out (fun k hk => hk.elim id (fun hn => by have := hn.1; simp at this; omega))) _) (C_one (Value.int .i64) 0 w1 3 d) (by have := HK1.out.size; simp; omega) (by simp) ?_; intro B2 d2 w2 hr2 hk2; have HR2 := Aside0.mk (Kd.R_mono (Kd.R_bound hr2) (ok' := fun k => w.heap.size ≤ k ∧ k < w2.heap.size) (fun k hk => ⟨hk.1.elim id (fun hn => by have h1 := hn.1; have h2 := HK1.out.size; simp at h1; omega), hk.2.2.1⟩)); have HK2 := Aside0.mk ((HK1.out.alloc _).trans hk2 (fun k hk => .inr (HR1.out.1 k hk.symm |>.elim id (fun hn => by have := hn.1; simp at this; omega)))); have HB2 := Aside0.mk (HK2.out.blk H1.out id); obtain ⟨g, dg, eg, _, _⟩ := (Kd.own_of_R HR2.out).form (by simp); injection eg with eg1 eg2 eg3; subst eg1; have z0 : w2.cell? ⟨g, 0, none⟩ = some (.int .i64 a) := (own_at (k := .i64) (xs := [a, b, c, d]) (Kd.own_of_R HR2.out) 0 (by omega) (by simp)).1; have z1 : w2.cell? ⟨g, 1, none⟩ = some (.int .i64 b) := (own_at (k := .i64) (xs := [a, b, c, d]) (Kd.own_of_R HR2.out) 1 (by omega) (by simp)).1; have z2 : w2.cell? ⟨g, 2, none⟩ = some (.int .i64 c) := (own_at (k := .i64) (xs := [a, b, c, d]) (Kd.own_of_R HR2.out) 2 (by omega) (by simp)).1; have z3 : w2.cell? ⟨g, 3, none⟩ = some (.int .i64 d) := (own_at (k := .i64) (xs := [a, b, c, d]) (Kd.own_of_R HR2.out) 3 (by omega) (by simp)).1; have j0 : w2.cell? ⟨q, 0, none⟩ = some (.slice A0 Out.length c0) := (blk_cell HB2.out 0).trans rfl; have j2 : w2.cell? ⟨q, 2, none⟩ = some (.int .i64 Esc) := (blk_cell HB2.out 2).trans rfl; have j3 : w2.cell? ⟨q, 3, none⟩ = some (.slice A2 3 c2) := (blk_cell HB2.out 3).trans rfl; have j4 : w2.cell? ⟨q, 4, none⟩ = some (.int .u16 0) := (blk_cell HB2.out 4).trans rfl; have g0 := blk_frozen HB2.out 0; have g2 := blk_frozen HB2.out 2; have g3 := blk_frozen HB2.out 3; have g4 := blk_frozen HB2.out 4; clear hr2 hk2 eg2 eg3))
  go_quiet (fail)
  go_wp2_with (first
    | (go_at_call 62; refine (orthoepyref01_High.calls U false _ HHI.out).mono ?_; rintro e w3 ⟨rfl, hd⟩; obtain ⟨n3, hd⟩ := hd.out; subst hd)
    | (go_at_call 19; refine (orthoepyref01_Nonchar.calls U false _ HN.out).mono ?_; rintro e w4 ⟨rfl, hd⟩; obtain ⟨n4, hd⟩ := hd.out; subst hd)
    | ((with_reducible refine gate_builtin (b := .append) (xs := #[.tmp 168, .tmp 170]) rfl ?_); at_builtin; refine app_row (Value.int .i32) (0 : Int) base rfl (.tmp 168) (.tmp 170) 30 21 (.int .i32 0) 4 rfl Try.underlying30 info21 rfl (by decide) (.slice A0 Out.length c0) Out [U] Y HY.out (some ⟨w2.heap.size, 0, none⟩) 1 1 S rfl rfl (Kd.R_alloc (Kd.R_drewN (HK2.out.R H2.out (fun _ _ => id)) _) _) (C_one (Value.int .i32) 0 (w2.drewN _) 21 U) (by have := HK2.out.size; simp; omega) (by omega) ?_; intro A3 c3 w6 hr6 hk6; have hsd := said_at H.out H1.out H2.out H3.out H4.out ((HK2.out.drewN _).alloc _) hr6 hk6; have p0 := blk_frozen hsd.2.1 0; have p2 := blk_frozen hsd.2.1 2; have p3 := blk_frozen hsd.2.1 3; have p4 := blk_frozen hsd.2.1 4; have e0 : w6.cell? ⟨q, 0, none⟩ = some (.slice A0 Out.length c0) := (blk_cell hsd.2.1 0).trans rfl; have e2 : w6.cell? ⟨q, 2, none⟩ = some (.int .i64 Esc) := (blk_cell hsd.2.1 2).trans rfl; have e3 : w6.cell? ⟨q, 3, none⟩ = some (.slice A2 3 c2) := (blk_cell hsd.2.1 3).trans rfl; have e4 : w6.cell? ⟨q, 4, none⟩ = some (.int .u16 0) := (blk_cell hsd.2.1 4).trans rfl; have HS := Aside0.mk hsd; clear hsd hr6 hk6))
  go_ret
  have hk := ((((Keeps.refl (fun k => k = q) w6).at_ rfl 0 (.slice A3 Y.length c3)).at_ rfl 3 (.slice none 0 0)).at_ rfl 2 (.int .i64 0)).at_ rfl 4 (.int .u16 0)
  have hK : Keeps (MineR S q) w _ := HS.out.1.trans hk (fun k h => .inl (.inl h))
  have hm : ∀ k, More S w w6 k → More S w ((((w6.setCell ⟨q, 0, none⟩ (.slice A3 Y.length c3)).setCell ⟨q, 3, none⟩ (.slice none 0 0)).setCell ⟨q, 2, none⟩ (.int .i64 0)).setCell ⟨q, 4, none⟩ (.int .u16 0)) k := by
    rintro k (h | h)
    · exact .inl h
    · exact .inr ⟨h.1, Nat.lt_of_lt_of_le h.2 hk.size⟩
  have hq := more_ne1 (W := w6) H.out.ne hlt
  refine ⟨rfl, hK, ⟨⟨A3, c3, A1, c1, none, 0, ?_, ?_, Kd.R_mono (hk.R HS.out.2.2.2.1 hq) hm, Kd.R_nil _ _ _ _ _⟩, more_ne1 H.out.ne hlt, ⟨Nat.le_trans hb hK.size, H.out.base_.2⟩, more_lt H.out.slt hK.size⟩⟩
  · simp only [RV.cells, HY.out]
    exact (blk_set (blk_set (blk_set (blk_set HS.out.2.1 0 _) 3 _) 2 _) 4 _).trans rfl
  · simp only [HY.out]
    exact Kd.R_mono (hk.R HS.out.2.2.1 hq) hm
set_option maxHeartbeats 4000000 in
set_option maxRecDepth 100000 in
theorem rdig_4hsay (base q : Nat) (S : Nat → Prop) (Out B : List Int) (Esc : Int) (Over : Bool) (x a b c d wt: Int) (U jc : Int) (w : World) (h : RefAt w base S q ⟨Out, B, Esc, [a, b, c], wt, Over⟩) (hx : 0 ≤ x ∧ x ≤ 255) (hv : hexV x = d) (hr : 0 ≤ a ∧ a ≤ 15 ∧ 0 ≤ b ∧ b ≤ 15 ∧ 0 ≤ c ∧ c ≤ 15 ∧ 0 ≤ d ∧ d ≤ 15) (ea : a = 13) (eb : 12 ≤ b) (hU : a * 4096 + b * 256 + c * 16 + d = U) (hw : 0 < wt) (hj : orthoepyref01_Join.f wt U = some (jc, true)) (hn : orthoepyref01_Nonchar.f jc = some false) (hl : Out.length ≤ 1000000) :
    Calls Try.prog 46 #[.pointer (some ⟨q, 0, none⟩), .int .u8 x] w fun e w' => e = .returned (.int .i64 0) ∧ Keeps (MineR S q) w w' ∧ RefAt w' base (More S w w') q ⟨Out ++ [jc], B, 0, [], 0, Over⟩ := by
  obtain ⟨A0, c0, A1, c1, A2, c2, h1, h2, h3, h4⟩ := h.row
  simp only [RV.cells, List.length_cons, List.length_nil, Nat.zero_add, Nat.reduceAdd] at h1 h2 h3 h4
  have hh := hex_val x hx.1 hx.2
  rw [hv] at hh
  have k3 : w.cell? ⟨q, 3, none⟩ = some (.slice A2 3 c2) := (blk_cell h1 3).trans rfl
  have ta : (a == 13) = true := beq_iff_eq.mpr ea
  have ta' : (a != 13) = false := by rw [ea]; rfl
  have tb : decide (12 ≤ b) = true := decide_eq_true eb
  have hub : 0 ≤ U ∧ U < 65536 := by omega
  have tw : decide (0 < wt) = true := decide_eq_true hw
  have tw2 : (wt == 0) = false := beq_f (by omega)
  have HJ := Aside0.mk hj
  have HN := Aside0.mk hn
  obtain ⟨Y, hY⟩ : ∃ Y, Out ++ [jc] = Y := ⟨_, rfl⟩
  have HY := Aside0.mk hY
  have HHx := Aside0.mk hh
  have hb := h.base_.1
  have H1 := Aside0.mk h1
  have H2 := Aside0.mk h2
  have H3 := Aside0.mk h3
  have H4 := Aside0.mk h4
  have H := Aside0.mk h
  have hlt := h.lt
  clear h h1 h2 h3 h4 hh hv ea eb hw hj hn hY
  go_enter Try.func46, Try.ntmps46
  go_wp2_with (first
    | (go_at_call 61; refine (orthoepyref12_hex.calls 12 x d _ HHx.out).mono ?_; rintro e w0 ⟨rfl, hd⟩; obtain ⟨na, hd⟩ := hd.out; subst hd; have k3' : ((w.drewN na).alloc (.cells #[] 3)).cell? ⟨q, 3, none⟩ = some (.slice A2 3 c2) := (World.cell?_alloc_past _ _ _ hlt).trans k3)
    | ((with_reducible refine gate_builtin (b := .append) (xs := #[.tmp 15, .tmp 19]) rfl ?_); at_builtin; refine app_row (Value.int .i64) (0 : Int) base rfl (.tmp 15) (.tmp 19) 29 3 (.int .i64 0) 8 rfl Try.underlying29 infoInt rfl (by decide) (.slice (some ⟨w.heap.size, 0, none⟩) 0 0) [] [a, b, c] [a, b, c] rfl A2 3 c2 (fun k => w.heap.size ≤ k) rfl rfl (Kd.R_of_own (own_lit (w.drewN na) base 3 .i64 [] hb (by simp)) (fun k hk => by simp [Value.ownBlock] at hk; omega)) (Kd.C_alloc (Kd.C_drewN (Kd.R_reads' H4.out).2.2 na) _) (by simp; omega) (by simp) ?_; intro B1 d1 w1 hr1 hk1; have HR1 := Aside0.mk hr1; have HK1 := Aside0.mk ((((Keeps.refl (fun _ => False) w).drewN na).alloc _).trans hk1 (fun k hk => .inr (by simp [Value.ownBlock] at hk; omega))); clear hr1 hk1)
    | ((with_reducible refine gate_builtin (b := .append) (xs := #[.tmp 20, .tmp 22]) rfl ?_); at_builtin; refine app_row (Value.int .i64) (0 : Int) base rfl (.tmp 20) (.tmp 22) 29 3 (.int .i64 0) 8 rfl Try.underlying29 infoInt rfl (by decide) (.slice B1 3 d1) [a, b, c] [d] [a, b, c, d] rfl (some ⟨w1.heap.size, 0, none⟩) 1 1 (fun k => w.heap.size ≤ k) rfl rfl (Kd.R_alloc (Kd.R_mono HR1.out (fun k hk => hk.elim id (fun hn => by have := hn.1; simp at this; omega))) _) (C_one (Value.int .i64) 0 w1 3 d) (by have := HK1.out.size; simp; omega) (by simp) ?_; intro B2 d2 w2 hr2 hk2; have HR2 := Aside0.mk (Kd.R_mono (Kd.R_bound hr2) (ok' := fun k => w.heap.size ≤ k ∧ k < w2.heap.size) (fun k hk => ⟨hk.1.elim id (fun hn => by have h1 := hn.1; have h2 := HK1.out.size; simp at h1; omega), hk.2.2.1⟩)); have HK2 := Aside0.mk ((HK1.out.alloc _).trans hk2 (fun k hk => .inr (HR1.out.1 k hk.symm |>.elim id (fun hn => by have := hn.1; simp at this; omega)))); have HB2 := Aside0.mk (HK2.out.blk H1.out id); obtain ⟨g, dg, eg, _, _⟩ := (Kd.own_of_R HR2.out).form (by simp); injection eg with eg1 eg2 eg3; subst eg1; have z0 : w2.cell? ⟨g, 0, none⟩ = some (.int .i64 a) := (own_at (k := .i64) (xs := [a, b, c, d]) (Kd.own_of_R HR2.out) 0 (by omega) (by simp)).1; have z1 : w2.cell? ⟨g, 1, none⟩ = some (.int .i64 b) := (own_at (k := .i64) (xs := [a, b, c, d]) (Kd.own_of_R HR2.out) 1 (by omega) (by simp)).1; have z2 : w2.cell? ⟨g, 2, none⟩ = some (.int .i64 c) := (own_at (k := .i64) (xs := [a, b, c, d]) (Kd.own_of_R HR2.out) 2 (by omega) (by simp)).1; have z3 : w2.cell? ⟨g, 3, none⟩ = some (.int .i64 d) := (own_at (k := .i64) (xs := [a, b, c, d]) (Kd.own_of_R HR2.out) 3 (by omega) (by simp)).1; have j0 : w2.cell? ⟨q, 0, none⟩ = some (.slice A0 Out.length c0) := (blk_cell HB2.out 0).trans rfl; have j2 : w2.cell? ⟨q, 2, none⟩ = some (.int .i64 Esc) := (blk_cell HB2.out 2).trans rfl; have j3 : w2.cell? ⟨q, 3, none⟩ = some (.slice A2 3 c2) := (blk_cell HB2.out 3).trans rfl; have j4 : w2.cell? ⟨q, 4, none⟩ = some (.int .u16 wt) := (blk_cell HB2.out 4).trans rfl; have g0 := blk_frozen HB2.out 0; have g2 := blk_frozen HB2.out 2; have g3 := blk_frozen HB2.out 3; have g4 := blk_frozen HB2.out 4; clear hr2 hk2 eg2 eg3))
  go_quiet (fail)
  go_wp2_with (first
    | (go_at_call 63; refine (orthoepyref01_Join.calls wt U jc true _ HJ.out).mono ?_; rintro e w3 ⟨rfl, hd⟩; obtain ⟨n3, hd⟩ := hd.out; subst hd)
    | (go_at_call 19; refine (orthoepyref01_Nonchar.calls jc false _ HN.out).mono ?_; rintro e w4 ⟨rfl, hd⟩; obtain ⟨n4, hd⟩ := hd.out; subst hd)
    | ((with_reducible refine gate_builtin (b := .append) (xs := #[.tmp 168, .tmp 170]) rfl ?_); at_builtin; refine app_row (Value.int .i32) (0 : Int) base rfl (.tmp 168) (.tmp 170) 30 21 (.int .i32 0) 4 rfl Try.underlying30 info21 rfl (by decide) (.slice A0 Out.length c0) Out [jc] Y HY.out (some ⟨w2.heap.size, 0, none⟩) 1 1 S rfl rfl (Kd.R_alloc (Kd.R_drewN (HK2.out.R H2.out (fun _ _ => id)) _) _) (C_one (Value.int .i32) 0 (w2.drewN _) 21 jc) (by have := HK2.out.size; simp; omega) (by omega) ?_; intro A3 c3 w6 hr6 hk6; have hsd := said_at H.out H1.out H2.out H3.out H4.out ((HK2.out.drewN _).alloc _) hr6 hk6; have p0 := blk_frozen hsd.2.1 0; have p2 := blk_frozen hsd.2.1 2; have p3 := blk_frozen hsd.2.1 3; have p4 := blk_frozen hsd.2.1 4; have e0 : w6.cell? ⟨q, 0, none⟩ = some (.slice A0 Out.length c0) := (blk_cell hsd.2.1 0).trans rfl; have e2 : w6.cell? ⟨q, 2, none⟩ = some (.int .i64 Esc) := (blk_cell hsd.2.1 2).trans rfl; have e3 : w6.cell? ⟨q, 3, none⟩ = some (.slice A2 3 c2) := (blk_cell hsd.2.1 3).trans rfl; have e4 : w6.cell? ⟨q, 4, none⟩ = some (.int .u16 wt) := (blk_cell hsd.2.1 4).trans rfl; have HS := Aside0.mk hsd; clear hsd hr6 hk6))
  go_ret
  have hk := ((((Keeps.refl (fun k => k = q) w6).at_ rfl 0 (.slice A3 Y.length c3)).at_ rfl 3 (.slice none 0 0)).at_ rfl 2 (.int .i64 0)).at_ rfl 4 (.int .u16 0)
  have hK : Keeps (MineR S q) w _ := HS.out.1.trans hk (fun k h => .inl (.inl h))
  have hm : ∀ k, More S w w6 k → More S w ((((w6.setCell ⟨q, 0, none⟩ (.slice A3 Y.length c3)).setCell ⟨q, 3, none⟩ (.slice none 0 0)).setCell ⟨q, 2, none⟩ (.int .i64 0)).setCell ⟨q, 4, none⟩ (.int .u16 0)) k := by
    rintro k (h | h)
    · exact .inl h
    · exact .inr ⟨h.1, Nat.lt_of_lt_of_le h.2 hk.size⟩
  have hq := more_ne1 (W := w6) H.out.ne hlt
  refine ⟨rfl, hK, ⟨⟨A3, c3, A1, c1, none, 0, ?_, ?_, Kd.R_mono (hk.R HS.out.2.2.2.1 hq) hm, Kd.R_nil _ _ _ _ _⟩, more_ne1 H.out.ne hlt, ⟨Nat.le_trans hb hK.size, H.out.base_.2⟩, more_lt H.out.slt hK.size⟩⟩
  · simp only [RV.cells, HY.out]
    exact (blk_set (blk_set (blk_set (blk_set HS.out.2.1 0 _) 3 _) 2 _) 4 _).trans rfl
  · simp only [HY.out]
    exact Kd.R_mono (hk.R HS.out.2.2.1 hq) hm

end Go.Proofs.Ytkpeblpgfngjcaa.Pure
