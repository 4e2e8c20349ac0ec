/- quote.Quote and quote.Len. -/
import Derived.Test.YtkpeblpgfngjcaaPAllx1
import Derived.Test.YtkpeblpgfngjcaaPAllx2
import Derived.Test.YtkpeblpgfngjcaaPAllx3
import Derived.Test.YtkpeblpgfngjcaaPAllx4
import Derived.Test.YtkpeblpgfngjcaaPAllx5
import Derived.Test.YtkpeblpgfngjcaaHKit
import Derived.Test.YtkpeblpgfngjcaaLUtf
import Derived.Test.YtkpeblpgfngjcaaShelf
import Derived.Test.YtkpeblpgfngjcaaH12U
import Derived.Test.YtkpeblpgfngjcaaHQuote
import Derived.Test.YtkpeblpgfngjcaaHForms
import Derived.Outline
import Derived.OwnWalk
import Derived.Lib.OthersKept
import Derived.Lib.Builder
import Derived.Lib.Strings
namespace Go.Proofs.Ytkpeblpgfngjcaa.Pure
open Go.RowKit Go.Proofs.Ytkpeblpgfngjcaa.PAll Go.Proofs.YtkpeblpgfngjcaaW.PrintWords Go.Proofs.YtkpeblpgfngjcaaW.PrintLast Go.Proofs.YtkpeblpgfngjcaaW.PrintMore
set_option linter.unusedVariables false
set_option linter.unusedSimpArgs false

/-! ### strings.Builder -/
def BldAt (w : World) (B b : Nat) (p : Value) (xs : List Int) : Prop := B ≤ b ∧ ∃ v, w.heap[b]? = some (.cells #[p, v] 61 (0, 0)) ∧ w.ownsRow B 5 1 v xs.length (nums .u8 xs)
def Bld (w : World) (B b : Nat) (xs : List Int) : Prop := BldAt w B b (.pointer none) xs ∨ BldAt w B b (.pointer (some ⟨b, 0, none⟩)) xs
theorem bld_size : (Try.prog.info? 61).map (·.size) = some 2 := by kernel_rfl
theorem bld_lies : liesAt Try.prog Try.prog.depth 61 (2 / Try.prog.cellsOf 61) 0 61 1 = true := by kernel_rfl
theorem others_keep {e : TypeId} {b : Option Nat} {w W : World} {v : Value} (hk : Keeps (fun k => some k = v.ownBlock) w W) (ht : ∀ g, v.ownBlock = some g → ∃ cells, w.heap[g]? = some (.cells cells e (0, 0))) : Lib.OthersKept e b w W := by
  intro k o ho _ hne
  refine hk.blk ho (fun q => ?_)
  obtain ⟨cs, hc⟩ := ht k q.symm
  rw [ho] at hc
  exact hne cs (0, 0) (Option.some.inj hc)
set_option maxHeartbeats 1000000 in
set_option maxRecDepth 100000 in
theorem copy_check (B b : Nat) (xs : List Int) (w : World) (h : Bld w B b xs) :
    Calls Try.prog 51 #[.pointer (some ⟨b, 0, none⟩)] w fun e w' => e = .returned (.tuple #[]) ∧ BldAt w' B b (.pointer (some ⟨b, 0, none⟩)) xs ∧ Below B w w' ∧ Lib.OthersKept 5 (some b) w w' := by
  obtain ⟨j, hj, hjs⟩ := Option.map_eq_some_iff.1 bld_size
  rcases h with ⟨hB, v, hb, ho⟩ | ⟨hB, v, hb, ho⟩
  · have c0 : w.cell? ⟨b, 0, none⟩ = some (.pointer none) := (blk_cell hb 0).trans rfl
    have f0 := blk_frozen hb 0
    have hsh : w.shape? b = some (61, 2) := by
      unfold World.shape?
      rw [hb]
      rfl
    have HB := Aside0.mk hb
    have HO := Aside0.mk ho
    clear hb ho
    go_enter Try.func51, Try.ntmps51
    go_wp2
    rw [Lib.run_to_unsafe w ⟨b, 0, none⟩ Try.underlying59 Try.underlying105 hj (by rw [hjs]; decide) hsh (Nat.zero_lt_succ 1)]
    simp only [Result.andThen]
    rw [Oper.upon_value]
    go_wp2
    rw [run_callFunc_extern Try.func67 (by kernel_rfl) (by kernel_rfl) (by kernel_rfl) (e := Extern.AbiNoEscape.same) (by kernel_rfl)]
    rw [Lib.run_noEscape]
    simp only [Result.andThen]
    rw [Oper.upon_value]
    go_wp2
    rw [Lib.run_from_unsafe w ⟨b, 0, none⟩ Try.underlying105 Try.underlying59 hj hsh bld_lies]
    simp only [Result.andThen]
    rw [Oper.upon_value]
    go_wp2
    go_end0
    have hb2 : (w.setCell ⟨b, 0, none⟩ (.pointer (some ⟨b, 0, none⟩))).heap[b]? = some (.cells #[.pointer (some ⟨b, 0, none⟩), v] 61 (0, 0)) := (blk_set HB.out 0 _).trans rfl
    have hk : Keeps (fun k => k = b) w (w.setCell ⟨b, 0, none⟩ (.pointer (some ⟨b, 0, none⟩))) := (Keeps.refl (fun k => k = b) w).at_ rfl 0 _
    have hR : Kd.R (Kd.int .u8) 5 w B (fun k => k ≠ b) v xs := Kd.R_of_own HO.out (fun k hk e => by
      obtain ⟨cs, hc⟩ := own_typed HO.out k hk
      rw [e, HB.out] at hc
      injection hc with hc
      injection hc with _ hc
      exact absurd hc (by decide))
    exact ⟨rfl, ⟨hB, v, hb2, Kd.own_of_R (hk.R hR (fun _ q => q))⟩, (Below.refl B w).setCell (p := ⟨b, 0, none⟩) hB _, (Lib.OthersKept.refl _ _ w).setCell ⟨b, 0, none⟩ rfl _⟩
  · have c0 : w.cell? ⟨b, 0, none⟩ = some (.pointer (some ⟨b, 0, none⟩)) := (blk_cell hb 0).trans rfl
    have HB := Aside0.mk hb
    have HO := Aside0.mk ho
    clear hb ho
    go_enter Try.func51, Try.ntmps51
    go_wp2
    rw [Lib.run_neq_ptr_same w _ Try.underlying59 hj]
    go_wp2
    go_end0
    exact ⟨rfl, ⟨hB, v, HB.out, HO.out⟩, Below.refl B _, Lib.OthersKept.refl _ _ _⟩
set_option maxHeartbeats 2000000 in
set_option maxRecDepth 100000 in
theorem write_byte (B b : Nat) (xs : List Int) (x : Int) (w : World) (h : Bld w B b xs) (hl : xs.length ≤ 100000000) (hB : B ≤ w.heap.size) :
    Calls Try.prog 34 #[.pointer (some ⟨b, 0, none⟩), .int .u8 x] w fun e w' => e = .returned .nilIface ∧ Bld w' B b (xs ++ [x]) ∧ Below B w w' ∧ Lib.OthersKept 5 (some b) w w' := by
  have HC := Aside0.mk (copy_check B b xs w h)
  clear h
  obtain ⟨Z, hZ⟩ : ∃ Z, xs ++ [x] = Z := ⟨_, rfl⟩
  rw [hZ]
  have HZ := Aside0.mk hZ
  clear hZ
  go_enter Try.func34, Try.ntmps34
  go_wp2_with (go_at_call 51; refine HC.out.mono ?_)
  rintro e w1 ⟨rfl, ⟨hb, v, hbk, ho⟩, hb1, hk1⟩
  have c1 : w1.cell? ⟨b, 1, none⟩ = some v := (blk_cell hbk 1).trans rfl
  have f1 := blk_frozen hbk 1
  have hR : Kd.R (Kd.int .u8) 5 w1 B (fun k => k ≠ b) v xs := Kd.R_of_own ho (fun k hk e => by
    obtain ⟨cs, hc⟩ := own_typed ho k hk
    rw [e, hbk] at hc
    injection hc with hc
    injection hc with _ hc
    exact absurd hc (by decide))
  have HBK := Aside0.mk hbk
  have HO := Aside0.mk ho
  have HR := Aside0.mk hR
  have HB1 := Aside0.mk hb1
  have HK1 := Aside0.mk hk1
  have hlt := blk_lt hbk
  have hne : some b ≠ v.ownBlock := fun q => hR.1 b q.symm rfl
  clear hbk ho hR hb1 hk1
  obtain ⟨A, c, rfl⟩ := Kd.R_slice HR.out
  go_wp2_with ((with_reducible refine gate_builtin (b := .append) (xs := #[.tmp 11, .tmp 13]) rfl ?_); at_builtin; refine app_row (Value.int .u8) (0 : Int) B rfl (.tmp 11) (.tmp 13) 32 5 (.int .u8 0) 1 rfl Try.underlying32 info5 rfl (by decide) (.slice A xs.length c) xs [x] Z HZ.out (some ⟨w1.heap.size, 0, none⟩) 1 1 (fun k => k ≠ b) rfl rfl (Kd.R_alloc HR.out _) (C_one (Value.int .u8) 0 w1 5 x) (by have := HB1.out.size; simp; omega) (by simp; omega) ?_; intro A2 c2 w2 hr2 hk2; have HR2 := Aside0.mk (Kd.R_mono hr2 (ok' := fun k => k ≠ b) (fun k hk => hk.elim id (fun hn => by have q := hn.1; simp at q; omega))); have HK2 := Aside0.mk hk2; have hbk2 := hk2.blk (blk_alloc HBK.out _) hne; have f2 := blk_frozen hbk2 1; have c2' : w2.cell? ⟨b, 1, none⟩ = some (.slice A xs.length c) := (blk_cell hbk2 1).trans rfl; have HBK2 := Aside0.mk hbk2; clear hr2 hk2 hbk2)
  go_ret
  have hs : Keeps (fun k => k = b) w2 (w2.setCell ⟨b, 1, none⟩ (.slice A2 Z.length c2)) := (Keeps.refl (fun k => k = b) w2).at_ rfl 1 _
  have hty : ∀ g, (Value.slice A xs.length c).ownBlock = some g → ∃ cells, (w1.alloc (.cells #[.int .u8 x] 5)).heap[g]? = some (.cells cells 5 (0, 0)) := fun g hg => by
    obtain ⟨cs, hc⟩ := own_typed HO.out g hg
    exact ⟨cs, blk_alloc hc _⟩
  refine ⟨rfl, .inr ⟨hb, _, (blk_set HBK2.out 1 _).trans rfl, Kd.own_of_R (hs.R HR2.out (fun _ q => q))⟩, ?_, ?_⟩
  · refine HB1.out.trans ((((Keeps.refl (fun k => some k = (Value.slice A xs.length c).ownBlock ∨ k = b) w1).alloc _).trans (HK2.out.mono (fun k q => .inl q)) (fun _ q => .inl q)).trans (hs.mono (fun k q => .inr q)) (fun _ q => .inl q) |>.below (fun k q => ?_) (Nat.le_trans hB HB1.out.size))
    rcases q with q | q
    · exact own_base HO.out k q.symm
    · rw [q]; exact hb
  · exact HK1.out.trans (((Lib.OthersKept.refl _ _ w1).alloc _).trans (others_keep HK2.out hty) |>.setCell ⟨b, 1, none⟩ rfl _)
theorem bytes_nums (y : ByteArray) : bytesOf y = bnums y := rfl
set_option maxHeartbeats 2000000 in
set_option maxRecDepth 100000 in
theorem write_string (B b : Nat) (xs : List Int) (y : ByteArray) (w : World) (h : Bld w B b xs) (hl : xs.length ≤ 100000000) (hy : y.size ≤ 100000000) (hB : B ≤ w.heap.size) :
    Calls Try.prog 35 #[.pointer (some ⟨b, 0, none⟩), .string y] w fun e w' => (∃ r, e = .returned r) ∧ Bld w' B b (xs ++ bnums y) ∧ Below B w w' ∧ Lib.OthersKept 5 (some b) w w' := by
  have HC := Aside0.mk (copy_check B b xs w h)
  clear h
  obtain ⟨Z, hZ⟩ : ∃ Z, xs ++ bytesOf y = Z := ⟨_, rfl⟩
  rw [show xs ++ bnums y = Z from hZ]
  have HZ := Aside0.mk hZ
  clear hZ
  go_enter Try.func35, Try.ntmps35
  go_wp2_with (go_at_call 51; refine HC.out.mono ?_)
  rintro e w1 ⟨rfl, ⟨hb, v, hbk, ho⟩, hb1, hk1⟩
  have c1 : w1.cell? ⟨b, 1, none⟩ = some v := (blk_cell hbk 1).trans rfl
  have hne : v.ownBlock ≠ some b := fun q => by
    obtain ⟨cs, hc⟩ := own_typed ho b q
    rw [hbk] at hc
    injection hc with hc
    injection hc with _ hc
    exact absurd hc (by decide)
  obtain ⟨A, c, rfl⟩ := Kd.R_slice (Kd.R_of_own (h1 := fun _ => rfl) ho (fun _ _ => trivial) : Kd.R (Kd.int .u8) 5 w1 B (fun _ => True) v xs)
  have HBK := Aside0.mk hbk
  have HO := Aside0.mk ho
  have HB1 := Aside0.mk hb1
  have HK1 := Aside0.mk hk1
  have hlt := blk_lt hbk
  have HNE := Aside0.mk hne
  have hsz := hb1.size
  clear hbk ho hb1 hk1 hne
  go_wp2_with ((with_reducible refine gate_builtin (b := .append) (xs := #[.tmp 12, .tmp 13]) rfl ?_); at_builtin; refine print_append_str (w0 := w1) B rfl (.tmp 12) (.tmp 13) 32 9 5 rfl Try.underlying32 Try.underlying9 info5 (.slice A xs.length c) xs y rfl rfl HO.out (Below.refl _ _) (Nat.le_trans hB HB1.out.size) (by omega) ?_; intro v2 w2 ho2 hb2 hg2; rw [HZ.out] at ho2; obtain ⟨A2, c2, rfl⟩ := Kd.R_slice (Kd.R_of_own (h1 := fun _ => rfl) ho2 (fun _ _ => trivial) : Kd.R (Kd.int .u8) 5 w2 B (fun _ => True) v2 Z); have HO2 := Aside0.mk ho2; have HB2 := Aside0.mk hb2; have HG2 := Aside0.mk hg2; have hbk2 := (hg2.block b hlt (fun q => HNE.out q.symm)).trans HBK.out; have f2 := blk_frozen hbk2 1; have c2' : w2.cell? ⟨b, 1, none⟩ = some (.slice A xs.length c) := (blk_cell hbk2 1).trans rfl; have HBK2 := Aside0.mk hbk2; clear ho2 hb2 hg2 hbk2)
  go_ret2
  have hs : Keeps (fun k => k = b) w2 (w2.setCell ⟨b, 1, none⟩ (.slice A2 Z.length c2)) := (Keeps.refl (fun k => k = b) w2).at_ rfl 1 _
  have hR : Kd.R (Kd.int .u8) 5 w2 B (fun k => k ≠ b) (.slice A2 Z.length c2) Z := Kd.R_of_own HO2.out (fun k hk e => by
    obtain ⟨cs, hc⟩ := own_typed HO2.out k hk
    rw [e, HBK2.out] at hc
    injection hc with hc
    injection hc with _ hc
    exact absurd hc (by decide))
  refine ⟨⟨_, rfl⟩, .inr ⟨hb, .slice A2 Z.length c2, (blk_set HBK2.out 1 _).trans rfl, Kd.own_of_R (hs.R hR (fun _ q => q))⟩, (HB1.out.trans HB2.out).setCell (p := ⟨b, 1, none⟩) hb _, ?_⟩
  exact ((HK1.out.grown HG2.out (fun g hg => by obtain ⟨cs, hc⟩ := own_typed HO.out g hg; exact ⟨cs, _, hc⟩)).setCell ⟨b, 1, none⟩ rfl _)
theorem u8_nums {xs : List Int} (h : Byt xs) : Lib.byteCells (xs.map fun n => UInt8.ofNat n.toNat) = nums .u8 xs := by
  unfold Lib.byteCells nums
  rw [List.map_map]
  apply List.map_congr_left
  intro x hx
  have := h x hx
  simp
  omega
theorem bld_string (B b : Nat) (xs : List Int) (w : World) (h : Bld w B b xs) (hy : Byt xs) (hB : B ≤ w.heap.size) :
    Calls Try.prog 36 #[.pointer (some ⟨b, 0, none⟩)] w fun e w' => e = .returned (.string (strOfNums xs)) ∧ Below B w w' := by
  have hl : (xs.map fun n => UInt8.ofNat n.toNat).length = xs.length := List.length_map _
  have at_ : ∀ p, BldAt w B b p xs → Lib.BuilderAtF 61 5 B b p (Lib.byteCells (xs.map fun n => UInt8.ofNat n.toNat)) w := fun p ⟨hb, v, hbk, ho⟩ => by
    refine ⟨hb, v, hbk, ?_, fun q => ?_⟩
    · rw [u8_nums hy]
      rw [show (nums .u8 xs).length = xs.length by simp [nums]]
      exact World.ownsRowF_of ho
    · obtain ⟨cs, hc⟩ := own_typed ho b q
      rw [hbk] at hc
      injection hc with hc
      injection hc with _ hc
      exact absurd hc (by decide)
  refine (Try.Builder_String_any_k B b (xs.map fun n => UInt8.ofNat n.toNat) w (h.elim (fun q => .inl (at_ _ q)) (fun q => .inr (at_ _ q))) hB).mono ?_
  rintro e w' ⟨rfl, _, hb, _⟩
  exact ⟨rfl, hb⟩

/-! ### quote.asked: how a byte is written -/
def marksS : ByteArray := ⟨#[46, 46, 46, 46, 46, 46, 46, 46, 98, 116, 110, 46, 102, 114, 46, 46, 46, 46, 46, 46, 46, 46, 46, 46, 46, 46, 46, 46, 46, 46, 46, 46]⟩
def Table (w : World) (g : Nat) : Prop := w.heap[g]? = some (.cells #[.string marksS] 9 (0, 0))
theorem asked_any (w : World) : Calls Try.prog 33 #[] w fun e w' => ∃ g, e = .returned (.func (.func 50) #[] #[.pointer (some ⟨g, 0, none⟩)]) ∧ Table w' g ∧ w.heap.size ≤ g ∧ g < w'.heap.size ∧ Keeps (fun _ => False) w w' := by
  go_enter Try.func33, Try.ntmps33
  go_wp2
  go_ret
  exact ⟨w.heap.size, rfl, heap_alloc_new w _, Nat.le_refl _, by simp, (Keeps.refl _ w).alloc _⟩
/-- What is written of a byte that is not written as it is; else nothing. -/
def wrL (x : Int) : List Int := if x = 34 ∨ x = 92 then [92, x] else if x < 32 then oneL x else []
theorem wrL_qB (x : Int) : (wrL x = [] ∧ qB x = [x]) ∨ (wrL x ≠ [] ∧ qB x = wrL x) := by
  unfold wrL qB
  by_cases h1 : x = 34 ∨ x = 92
  · rw [if_pos h1, if_pos h1]
    exact .inr ⟨by simp, rfl⟩
  · rw [if_neg h1, if_neg h1]
    by_cases h2 : x < 32
    · rw [if_pos h2, if_pos h2]
      refine .inr ⟨?_, rfl⟩
      unfold oneL
      (repeat' split) <;> simp
    · rw [if_neg h2, if_neg h2]
      exact .inl ⟨rfl, rfl⟩
theorem wrL_len (x : Int) : (wrL x).length ≤ 6 := by
  unfold wrL
  (repeat' split)
  · simp
  · exact oneL_len x
  · simp
set_option maxHeartbeats 8000000 in
set_option maxRecDepth 100000 in
theorem written_any (x : Int) (h0 : 0 ≤ x) (h1 : x ≤ 255) (g : Nat) (w : World) (ht : Table w g) :
    Calls Try.prog 50 #[.int .u8 x, .pointer (some ⟨g, 0, none⟩)] w fun e w' => e = .returned (.string (strOfNums (wrL x))) ∧ ∃ n, w' = w.drewN n := by
  have k0 : w.cell? ⟨g, 0, none⟩ = some (.string marksS) := (blk_cell ht 0).trans rfl
  clear ht
  unfold marksS at k0
  by_cases h32 : x < 32
  · have key : (x = 8 ∨ x = 9 ∨ x = 10 ∨ x = 12 ∨ x = 13) ∨ (x = 0 ∨ x = 1 ∨ x = 2 ∨ x = 3 ∨ x = 4 ∨ x = 5 ∨ x = 6 ∨ x = 7 ∨ x = 11 ∨ x = 14 ∨ x = 15 ∨ x = 16 ∨ x = 17 ∨ x = 18 ∨ x = 19 ∨ x = 20 ∨ x = 21 ∨ x = 22 ∨ x = 23 ∨ x = 24 ∨ x = 25 ∨ x = 26 ∨ x = 27 ∨ x = 28 ∨ x = 29 ∨ x = 30 ∨ x = 31) := by omega
    rcases key with key | key
    · rcases key with e | e | e | e | e
      all_goals
        subst e
        go_enter Try.func50, Try.ntmps50
        go_wp2
        go_ret
        exact ⟨rfl, 0, rfl⟩
    · rcases key with e | e | e | e | e | e | e | e | e | e | e | e | e | e | e | e | e | e | e | e | e | e | e | e | e | e | e
      all_goals
        subst e
        go_enter Try.func50, Try.ntmps50
        go_wp2
        go_quiet (fail)
        go_wp2
        go_ret
        exact ⟨rfl, _, rfl⟩
  · by_cases h34 : x = 34
    · subst h34
      go_enter Try.func50, Try.ntmps50
      go_wp2
      go_ret
      exact ⟨rfl, 0, rfl⟩
    · by_cases h92 : x = 92
      · subst h92
        go_enter Try.func50, Try.ntmps50
        go_wp2
        go_ret
        exact ⟨rfl, 0, rfl⟩
      · have t34 : (x == 34) = false := beq_f h34
        have t92 : (x == 92) = false := beq_f h92
        have t32 : decide (32 ≤ x) = true := decide_eq_true (by omega)
        have e : wrL x = [] := by unfold wrL; rw [if_neg (by omega), if_neg h32]
        rw [e]
        have hw : wrap64 x = x := by unfold wrap64; omega
        clear h34 h92 e
        go_enter Try.func50, Try.ntmps50
        go_wp2
        go_ret
        exact ⟨rfl, 0, rfl⟩

/-! ### quote.Quote and quote.Len, walked -/
theorem Table.kept {w W : World} {g b : Nat} (h : Table w g) (hk : Lib.OthersKept 5 (some b) w W) (hne : g ≠ b) : Table W g :=
  hk g _ h (fun e => hne (Option.some.inj e)) (fun c fz e => by injection e with _ e; exact absurd e (by decide))
theorem Table.keep {w W : World} {g : Nat} (h : Table w g) (hk : Keeps (fun _ => False) w W) : Table W g := hk.blk h id
theorem bld_new (w : World) (B : Nat) (hB : B ≤ w.heap.size) : Bld (w.alloc (.cells #[.pointer none, .slice none 0 0] 61)) B w.heap.size [] :=
  .inl ⟨hB, _, heap_alloc_new w _, Kd.own_of_R (Kd.R_nil (Kd.int .u8) 5 _ B (fun _ => True))⟩
theorem nums_flat (s : ByteArray) (k : Nat) (hk : k < s.size) : ((bnums s).take (k + 1)).flatMap qB = ((bnums s).take k).flatMap qB ++ qB ((s[k]'hk).toNat : Int) := by
  rw [nums_take s k hk]
  simp
set_option maxHeartbeats 4000000 in
set_option maxRecDepth 100000 in
theorem quote_any (s : ByteArray) (w : World) (hs : s.size ≤ 1000000) :
    Calls Try.prog 15 #[.string s] w fun e w' => e = .returned (.string (strOfNums (quoteL (bnums s)))) ∧ Keeps (fun _ => False) w w' := by
  go_enter Try.func15, Try.ntmps15
  go_wp2_with (go_at_call 33; refine (asked_any _).mono ?_; rintro e w1 ⟨g, rfl, h1, h2, h3, h4⟩; have HT1 := Aside0.mk h1; have HK1 := Aside0.mk h4; clear h1 h4)
  have hz1 := HK1.out.size
  have HBL := Aside0.mk (bld_new w1 w.heap.size hz1)
  have hwb := write_byte w.heap.size w1.heap.size [] 34 _ HBL.out (by simp) (by simp; omega)
  refine hwb.mono ?_
  rintro e w3 ⟨rfl, q1, q2, q3⟩
  have HB3 := Aside0.mk q1
  have HW3 := Aside0.mk (((HK1.out.alloc _).below (fun _ q => q.elim) (Nat.le_refl _)).trans q2)
  have HT3 := Aside0.mk ((HT1.out.keep ((Keeps.refl _ w1).alloc _)).kept q3 (by omega))
  clear q1 q2 q3 hwb HBL
  go_wp2
  go_loopw [11] (fun i wr => ∃ k : Nat, k ≤ s.size ∧ i = .int .i64 k ∧ Aside0 (Bld wr w.heap.size w1.heap.size ([34] ++ ((bnums s).take k).flatMap qB)) ∧ Aside0 (Table wr g) ∧ Aside0 (Below w.heap.size w wr)) (fun i _ => s.size - (intOf i).toNat)
  case atStart => exact ⟨0, Nat.zero_le _, rfl, ⟨by simpa using HB3.out⟩, ⟨HT3.out⟩, ⟨HW3.out⟩⟩
  case round =>
    obtain ⟨k, hk, rfl, HBL, HT, HW⟩ := hrel
    have hf := flat_len ((bnums s).take k)
    have htl : ((bnums s).take k).length ≤ s.size := by rw [List.length_take, bnums_len]; omega
    have hzr := HW.out.size
    obtain ⟨X, hX⟩ : ∃ X, [34] ++ ((bnums s).take k).flatMap qB = X := ⟨_, rfl⟩
    have hXl : X.length ≤ 100000000 := by rw [← hX]; simp at hf htl ⊢; omega
    rw [hX] at HBL
    have HX := Aside0.mk hX
    clear hf htl hX
    by_cases hlt : k < s.size
    · have hlt1 : (k : Int) < (s.size : Int) := by omega
      have hlt2 : decide (k < s.size) = true := decide_eq_true hlt
      have hfl := nums_flat s k hlt
      obtain ⟨x, hx0⟩ : ∃ x : Int, ((s[k]'hlt).toNat : Int) = x := ⟨_, rfl⟩
      have hx : 0 ≤ x ∧ x ≤ 255 := by
        have := (s[k]'hlt).toNat_lt
        omega
      rw [hx0] at hfl
      have hidx : (Instr.index 9 (.string s) (.int .i64 (k : Int))).run Try.prog = fun w => .ok (.int .u8 x) w := by
        funext w
        rw [run_index_string w _ _ _ _ Try.underlying9, dif_pos ⟨by omega, hlt1⟩]
        simp only [Int.toNat_natCast, hx0]
      have hfin : [34] ++ ((bnums s).take (k + 1)).flatMap qB = X ++ qB x := by rw [hfl, ← HX.out, List.append_assoc]
      have HF := Aside0.mk hfin
      have hwr := fun W (hT : Table W g) => written_any x hx.1 hx.2 g W hT
      have hwl := wrL_len x
      have hyb : wrL x ≠ [] → bnums (strOfNums (wrL x)) = wrL x := fun hne => bnums_nums _ (by
        rcases wrL_qB x with ⟨e, _⟩ | ⟨_, e⟩
        · exact absurd e hne
        · rw [← e]; exact qB_byt x hx.1 hx.2)
      have hcase := wrL_qB x
      have HX0 := Aside0.mk hx0
      clear hfl hfin hx0
      rcases hcase with ⟨c1, c2⟩ | ⟨c1, c2⟩
      · rw [c1] at hwr
        have hwr2 : ∀ W, Table W g → Calls Try.prog 50 #[.int .u8 x, .pointer (some ⟨g, 0, none⟩)] W fun e w' => e = .returned (.string ⟨#[]⟩) ∧ ∃ n, w' = W.drewN n := hwr
        have HWR := Aside0.mk hwr2
        have C2 := Aside0.mk c2
        clear hwr hwr2 c1 c2 hwl hyb
        go_wp2_with (first
          | (go_at_call 50; refine (HWR.out _ HT.out).mono ?_; rintro e w4 ⟨rfl, n4, rfl⟩)
          | (go_at_call 34; refine (write_byte w.heap.size w1.heap.size X x _ (show Bld (wr.drewN n4) _ _ _ from HBL.out) hXl hzr).mono ?_; rintro e w5 ⟨rfl, q1, q2, q3⟩; have Q1 := Aside0.mk q1; have Q2 := Aside0.mk q2; have Q3 := Aside0.mk (HT.out.kept (show Lib.OthersKept _ _ wr w5 from q3) (by omega)); clear q1 q2 q3))
        go_roundw
        case rel => exact ⟨k + 1, by omega, by go_num, ⟨by rw [HF.out, C2.out]; exact Q1.out⟩, ⟨Q3.out⟩, ⟨HW.out.trans (show Below _ wr w5 from ⟨Q2.out.os, Q2.out.tape, Q2.out.output, Q2.out.size, Q2.out.block⟩)⟩⟩
        case measure => simp [intOf]; omega
      · have hyb2 := hyb c1
        obtain ⟨Y, hY⟩ : ∃ Y, strOfNums (wrL x) = Y := ⟨_, rfl⟩
        have hYs : Y.size = (wrL x).length := by rw [← hY, str_size]
        have hY1 : 0 < Y.size := by rw [hYs]; exact List.length_pos_iff.mpr c1
        have hY2 : Y.size ≤ 6 := by omega
        simp only [hY] at hwr
        rw [hY] at hyb2
        have HWR := Aside0.mk hwr
        have C2 := Aside0.mk (c2.trans hyb2.symm)
        clear hwr c1 c2 hwl hyb hyb2 hY hYs
        have hne : Y.toList ≠ [] := fun q => by
          rw [Lib.toList_data] at q
          have h0 : Y.data.size = 0 := by
            have := congrArg List.length q
            simpa using this
          exact absurd h0 (Nat.pos_iff_ne_zero.mp hY1)
        have t1 : (!Y.toList.isEmpty) = true := by
          cases e : Y.toList with
          | nil => exact absurd e hne
          | cons a l => rfl
        have t2 : Y.toList.isEmpty = false := by
          cases e : Y.toList with
          | nil => exact absurd e hne
          | cons a l => rfl
        go_wp2_with (first
          | (go_at_call 50; refine (HWR.out _ HT.out).mono ?_; rintro e w4 ⟨rfl, n4, rfl⟩)
          | (go_at_call 35; refine (write_string w.heap.size w1.heap.size X Y _ (show Bld (wr.drewN n4) _ _ _ from HBL.out) hXl (by omega) hzr).mono ?_; rintro e w5 ⟨⟨r5, rfl⟩, q1, q2, q3⟩; have Q1 := Aside0.mk q1; have Q2 := Aside0.mk q2; have Q3 := Aside0.mk (HT.out.kept (show Lib.OthersKept _ _ wr w5 from q3) (by omega)); clear q1 q2 q3))
        go_roundw
        case rel => exact ⟨k + 1, by omega, by go_num, ⟨by rw [HF.out, C2.out]; exact Q1.out⟩, ⟨Q3.out⟩, ⟨HW.out.trans (show Below _ wr w5 from ⟨Q2.out.os, Q2.out.tape, Q2.out.output, Q2.out.size, Q2.out.block⟩)⟩⟩
        case measure => simp [intOf]; omega
    · have hlt2 : decide (k < s.size) = false := decide_eq_false hlt
      obtain rfl : k = s.size := by omega
      have hall : (bnums s).take s.size = bnums s := List.take_of_length_le (by rw [bnums_len]; exact Nat.le_refl _)
      have hX := HX.out
      rw [hall] at hX
      have HX2 := Aside0.mk hX
      have hby : Byt (X ++ [34]) := by
        rw [← hX]
        refine byt_app (byt_app (byt_nums rfl) (flat_byt ?_)) (byt_nums rfl)
        intro y hy
        obtain ⟨b, _, rfl⟩ := List.mem_map.1 hy
        have := b.toNat_lt
        omega
      have HBY := Aside0.mk hby
      clear hX hall HX hby
      go_wp2_with (first
        | (go_at_call 34; refine (write_byte w.heap.size w1.heap.size X 34 _ HBL.out hXl hzr).mono ?_; rintro e w5 ⟨rfl, q1, q2, q3⟩; have Q1 := Aside0.mk q1; have Q2 := Aside0.mk (HW.out.trans q2); clear q1 q2 q3)
        | (go_at_call 36; refine (bld_string w.heap.size w1.heap.size (X ++ [34]) _ Q1.out HBY.out Q2.out.size).mono ?_; rintro e w6 ⟨rfl, q1⟩; have Q6 := Aside0.mk (Q2.out.trans q1); clear q1))
      go_ret
      refine ⟨?_, Keeps.of_below Q6.out _⟩
      unfold quoteL
      rw [HX2.out]
      rfl
set_option maxHeartbeats 4000000 in
set_option maxRecDepth 100000 in
theorem len_any (s : ByteArray) (w : World) (hs : s.size ≤ 1000000) :
    Calls Try.prog 16 #[.string s] w fun e w' => e = .returned (.int .i64 ((quoteL (bnums s)).length : Int)) ∧ Keeps (fun _ => False) w w' := by
  go_enter Try.func16, Try.ntmps16
  go_wp2_with (go_at_call 33; refine (asked_any _).mono ?_; rintro e w1 ⟨g, rfl, h1, h2, h3, h4⟩; have HT1 := Aside0.mk h1; have HK1 := Aside0.mk h4; clear h1 h4)
  go_loopw [4, 9] (fun o i wr => ∃ k : Nat, k ≤ s.size ∧ i = .int .i64 k ∧ o = .int .i64 (2 + (((bnums s).take k).flatMap qB).length) ∧ Aside0 (Keeps (fun _ => False) w1 wr)) (fun _ i _ => s.size - (intOf i).toNat)
  case atStart => exact ⟨0, Nat.zero_le _, rfl, by simp, ⟨Keeps.refl _ _⟩⟩
  case round =>
    obtain ⟨k, hk, rfl, rfl, HK⟩ := hrel
    have hf := flat_len ((bnums s).take k)
    have htl : ((bnums s).take k).length ≤ s.size := by rw [List.length_take, bnums_len]; omega
    obtain ⟨n, hn⟩ : ∃ n, (((bnums s).take k).flatMap qB).length = n := ⟨_, rfl⟩
    have hn6 : n ≤ 6000000 := by omega
    rw [hn]
    have HN := Aside0.mk hn
    clear hf htl hn
    by_cases hlt : k < s.size
    · have hlt1 : (k : Int) < (s.size : Int) := by omega
      have hlt2 : decide (k < s.size) = true := decide_eq_true hlt
      have hfl := nums_flat s k hlt
      obtain ⟨x, hx0⟩ : ∃ x : Int, ((s[k]'hlt).toNat : Int) = x := ⟨_, rfl⟩
      have hx : 0 ≤ x ∧ x ≤ 255 := by
        have := (s[k]'hlt).toNat_lt
        omega
      rw [hx0] at hfl
      have hidx : (Instr.index 9 (.string s) (.int .i64 (k : Int))).run Try.prog = fun w => .ok (.int .u8 x) w := by
        funext w
        rw [run_index_string w _ _ _ _ Try.underlying9, dif_pos ⟨by omega, hlt1⟩]
        simp only [Int.toNat_natCast, hx0]
      have hfin : (((bnums s).take (k + 1)).flatMap qB).length = n + (qB x).length := by rw [hfl, List.length_append, HN.out]
      have HF := Aside0.mk hfin
      have HT := Aside0.mk (HT1.out.keep HK.out)
      have hwr := fun W (hT : Table W g) => written_any x hx.1 hx.2 g W hT
      have hwl := wrL_len x
      have hcase := wrL_qB x
      have HX0 := Aside0.mk hx0
      clear hfl hfin hx0
      rcases hcase with ⟨c1, c2⟩ | ⟨c1, c2⟩
      · rw [c1] at hwr
        have hwr2 : ∀ W, Table W g → Calls Try.prog 50 #[.int .u8 x, .pointer (some ⟨g, 0, none⟩)] W fun e w' => e = .returned (.string ⟨#[]⟩) ∧ ∃ n, w' = W.drewN n := hwr
        have HWR := Aside0.mk hwr2
        have C2 := Aside0.mk c2
        clear hwr hwr2 c1 c2 hwl
        go_wp2_with (go_at_call 50; refine (HWR.out _ HT.out).mono ?_; rintro e w4 ⟨rfl, n4, rfl⟩)
        go_roundw
        case rel => exact ⟨k + 1, by omega, by go_num, by rw [HF.out, C2.out]; go_num, ⟨HK.out.drewN _⟩⟩
        case measure => simp [intOf]; omega
      · obtain ⟨Y, hY⟩ : ∃ Y, strOfNums (wrL x) = Y := ⟨_, rfl⟩
        have hYs : Y.size = (wrL x).length := by rw [← hY, str_size]
        have hY1 : 0 < Y.size := by rw [hYs]; exact List.length_pos_iff.mpr c1
        have hY2 : Y.size ≤ 6 := by omega
        simp only [hY] at hwr
        have HWR := Aside0.mk hwr
        have C2 := Aside0.mk ((congrArg List.length c2).trans hYs.symm)
        have hmx : max (1 : Int) (Y.size : Int) = (Y.size : Int) := by omega
        clear hwr c1 c2 hwl hY hYs
        go_wp2_with (go_at_call 50; refine (HWR.out _ HT.out).mono ?_; rintro e w4 ⟨rfl, n4, rfl⟩)
        go_roundw
        case rel => exact ⟨k + 1, by omega, by go_num, by rw [HF.out, C2.out]; go_num, ⟨HK.out.drewN _⟩⟩
        case measure => simp [intOf]; omega
    · have hlt2 : decide (k < s.size) = false := decide_eq_false hlt
      obtain rfl : k = s.size := by omega
      have hall : (bnums s).take s.size = bnums s := List.take_of_length_le (by rw [bnums_len]; exact Nat.le_refl _)
      have hN := HN.out
      rw [hall] at hN
      have HN2 := Aside0.mk hN
      clear hN hall HN
      go_wp2
      go_ret
      refine ⟨?_, HK1.out.trans HK.out (fun _ q => q.elim)⟩
      have e : ((quoteL (bnums s)).length : Int) = 2 + (n : Int) := by
        unfold quoteL
        simp only [List.length_append, HN2.out, List.length_cons, List.length_nil]
        omega
      rw [e]
      rfl

end Go.Proofs.Ytkpeblpgfngjcaa.Pure
