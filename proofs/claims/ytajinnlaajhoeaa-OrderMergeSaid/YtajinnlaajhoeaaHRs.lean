/- The Sort of the document. -/
import Derived.Test.YtajinnlaajhoeaaHTot
import Derived.Test.YtajinnlaajhoeaaWTab
import Derived.Test.YtajinnlaajhoeaaWFour
import Derived.Test.YtajinnlaajhoeaaWQPut
import Derived.Test.YtajinnlaajhoeaaWAt
import Derived.Lib.AppendZerosOnto
import Derived.Lib.Walk
import Derived.StillTailTactics
import Derived.BigQuiet
import Derived.Deep.QuietTactic
import Derived.Laws.IdiomStrings
import Derived.Outline
import Derived.OwnWalk
import Derived.MapKept
import Derived.Deep.RegionHeld3
import Derived.Deep.RegionLaw
import Derived.Deep.AppendLies
import Derived.Deep.DrawnRows
namespace Go.Proofs.Ytajinnlaajhoeaa.Pure
open Go.RowKit Go.Proofs.Ytajinnlaajhoeaa.PAll Go.Proofs.YtajinnlaajhoeaaW.PrintWords Go.Proofs.YtajinnlaajhoeaaW.PrintLast Go.Proofs.YtajinnlaajhoeaaW.PrintMore
set_option linter.unusedVariables false
set_option linter.unusedSimpArgs false

/-! ### The document's Sort, walked -/
def cutV (p : Int → Bool) (out : List Int) : Nat → Nat
  | 0 => 0
  | n + 1 => if p (rd out (n : Int)) = true then cutV p out n else n + 1
/-- A place into a row in order, behind those that are alike. -/
def insV (p : Int → Bool) (x : Int) (out : List Int) : List Int := (([] : List Int) ++ out.take (cutV p out out.length) ++ [x]) ++ out.drop (cutV p out out.length)
def beforeP (ss : List ByteArray) (x : Int) (y : Int) : Bool := lessS (rdOf ByteArray.empty ss x) (rdOf ByteArray.empty ss y)
def rsortL (ss : List ByteArray) : Nat → List Int
  | 0 => []
  | i + 1 => insV (beforeP ss (i : Int)) (i : Int) (rsortL ss i)
def rsortP (ss : List ByteArray) : List Int := rsortL ss ss.length
theorem cutV_le (p : Int → Bool) (out : List Int) : ∀ n, cutV p out n ≤ n
  | 0 => Nat.le_refl _
  | n + 1 => by
    have := cutV_le p out n
    unfold cutV
    split <;> omega
theorem insV_perm (p : Int → Bool) (x : Int) (out : List Int) : (insV p x out).Perm (x :: out) := by
  unfold insV
  have h : (([] : List Int) ++ out.take (cutV p out out.length) ++ [x]) ++ out.drop (cutV p out out.length) = out.take (cutV p out out.length) ++ (x :: out.drop (cutV p out out.length)) := by simp
  rw [h]
  have h2 := List.perm_middle (a := x) (l₁ := out.take (cutV p out out.length)) (l₂ := out.drop (cutV p out out.length))
  rw [List.take_append_drop] at h2
  exact h2
theorem insV_len (p : Int → Bool) (x : Int) (out : List Int) : (insV p x out).length = out.length + 1 := by
  have := (insV_perm p x out).length_eq
  simpa using this
theorem rsortL_perm (ss : List ByteArray) : ∀ i, (rsortL ss i).Perm ((List.range i).map fun (j : Nat) => (j : Int))
  | 0 => List.Perm.refl _
  | i + 1 => by
    have h := rsortL_perm ss i
    unfold rsortL
    refine (insV_perm _ _ _).trans ?_
    rw [List.range_succ, List.map_append]
    exact (h.cons _).trans (List.perm_append_singleton _ _).symm
theorem rsortL_len (ss : List ByteArray) (i : Nat) : (rsortL ss i).length = i := by
  have := (rsortL_perm ss i).length_eq
  simpa using this
theorem rsortL_mem (ss : List ByteArray) (i : Nat) {p : Int} (h : p ∈ rsortL ss i) : 0 ≤ p ∧ p < i := by
  have h1 := (rsortL_perm ss i).mem_iff.1 h
  obtain ⟨j, h2, rfl⟩ := List.mem_map.1 h1
  have := List.mem_range.1 h2
  omega
def rsort_T9 : Bool × List (List Nat × List Nat) := (true, [([], []), ([], []), ([], []), ([1, 2], [1, 2]), ([0, 3], [0, 3]), ([], []), ([5], [5]), ([4, 6, 4], [4, 6]), ([], []), ([], []), ([8, 9], [8, 9]), ([7, 10, 7], [7, 10]), ([11, 11, 0, 1, 2, 3, 4, 5, 6, 7, 8, 9, 10, 11], [0, 11])])
def rsort_B9 : List Nat := [0, 0, 0, 6, 15, 0, 32, 127, 0, 0, 768, 2047, 4095]
theorem rsort_tab9 : rtab .any (opsOf Try.f16 9) = rsort_T9 := by kernel_rfl
theorem rsort_bits9 : waitsOk rsort_T9.2 rsort_B9 = true := by kernel_rfl
set_option maxHeartbeats 8000000 in
set_option maxRecDepth 100000 in
theorem rsort_tot (A : Option Addr) (cap : Nat) (ss : List ByteArray) (w : World) (hr : Kd.C Kd.string w A ss.length ss) (hn : ss.length ≤ 1000) (hsz : ∀ s ∈ ss, s.size ≤ 1000000) :
    Calls Try.prog 16 #[.slice A ss.length cap] w fun e w' => ∃ v, e = .returned v ∧ Kd.R (Kd.int .i64) 3 w' w.heap.size (fun _ => True) v (rsortP ss) ∧ Below w.heap.size w w' := by
  have HR := Aside0.mk hr
  have HSZ := Aside0.mk hsz
  clear hr hsz
  go_enter Try.func16, Try.ntmps16
  go_wp2
  go_loopw [3, 4] (fun v i wr => ∃ (j : Nat) (nx : Value), j ≤ ss.length ∧ i = .int .i64 (j : Int) ∧ nx = v ∧ Aside0 (Kd.R (Kd.int .i64) 3 wr w.heap.size (fun _ => True) nx (rsortL ss j)) ∧ Aside0 (Below w.heap.size w wr)) (fun _ i _ => ss.length - (intOf i).toNat)
  case atStart => exact ⟨0, _, Nat.zero_le _, rfl, rfl, ⟨Kd.R_nil _ _ _ _ _⟩, ⟨Below.refl _ _⟩⟩
  case round =>
    obtain ⟨j, nx, hj, rfl, rfl, HNX, HBW⟩ := hrel
    obtain ⟨wb, rfl⟩ : ∃ wb, wb = wr := ⟨_, rfl⟩
    by_cases hl : j < ss.length
    · have hd : decide (j < ss.length) = true := decide_eq_true hl
      have hnext : rsortL ss (j + 1) = insV (beforeP ss (j : Int)) (j : Int) (rsortL ss j) := rfl
      have hxm : ∀ p ∈ rsortL ss j, 0 ≤ p ∧ p < (ss.length : Int) := fun p hp => by
        have := rsortL_mem ss j hp
        omega
      have hll := rsortL_len ss j
      have HNEXT := Aside0.mk hnext
      generalize rsortL ss j = l1 at HNX HNEXT hxm hll
      obtain ⟨A1, c1, ea⟩ := Kd.R_slice HNX.out
      subst ea
      have HXM := Aside0.mk hxm
      have HCB := Aside0.mk (Kd.R_reads' HNX.out).2.2
      have HC1 := Aside0.mk (Kd.R_reads' HNX.out).2.1
      have HLL := Aside0.mk hll
      have hl1000 : l1.length ≤ 1000 := by omega
      clear hnext hxm hll
      go_wp2
      go_loopw [5] (fun i w' => ∃ (c : Nat), c ≤ l1.length ∧ i = .int .i64 (c : Int) ∧ Aside0 (cutV (beforeP ss (j : Int)) l1 c = cutV (beforeP ss (j : Int)) l1 l1.length) ∧ Aside0 (Below wb.heap.size wb w')) (fun i _ => (intOf i).toNat)
      case atStart => exact ⟨l1.length, Nat.le_refl _, rfl, ⟨rfl⟩, ⟨Below.refl _ _⟩⟩
      case round =>
        obtain ⟨c, hc, rfl, HCUT, HBI⟩ := hrel
        obtain ⟨wi, rfl⟩ : ∃ wi, wi = wr := ⟨_, rfl⟩
        by_cases hc0 : 0 < c
        · have g1 : decide ((0 : Int) < (c : Int)) = true := decide_eq_true (by omega)
          have g2 : decide (0 < c) = true := decide_eq_true hc0
          obtain ⟨c, rfl⟩ : ∃ m, c = m + 1 := ⟨c - 1, by omega⟩
          obtain ⟨ci, hci⟩ : ∃ ci : Int, ((c + 1 : Nat) : Int) = ci := ⟨_, rfl⟩
          rw [hci] at g1 ⊢
          have ew : IntKind.i64.wrap (ci - 1) = (c : Int) := (i64_w _).trans (by unfold wrap64; omega)
          have i1 : (0 : Int) ≤ (c : Int) := by omega
          have i2 : (c : Int) < (l1.length : Int) := by omega
          have i3 : (0 : Int) ≤ (j : Int) := by omega
          have i4 : (j : Int) < (ss.length : Int) := by omega
          obtain ⟨ad, rfl, h1⟩ := Kd.at_string HR.out (j : Int) (by omega) (by omega)
          rw [Int.toNat_natCast] at h1
          obtain ⟨ad2, rfl, h2⟩ := Kd.at_int HCB.out (c : Int) (by omega) (by omega)
          rw [Int.toNat_natCast] at h2
          have hpm : rd l1 (c : Int) ∈ l1 := by
            unfold rd
            rw [Int.toNat_natCast, List.getD_eq_getElem?_getD, List.getElem?_eq_getElem (show c < l1.length by omega)]
            exact List.getElem_mem _
          have hp := HXM.out _ hpm
          have hcut : (if beforeP ss (j : Int) (rd l1 (c : Int)) = true then cutV (beforeP ss (j : Int)) l1 c else c + 1) = cutV (beforeP ss (j : Int)) l1 l1.length := HCUT.out
          obtain ⟨b, hb⟩ : ∃ b, beforeP ss (j : Int) (rd l1 (c : Int)) = b := ⟨_, rfl⟩
          rw [hb] at hcut
          unfold beforeP at hb
          generalize rd l1 (c : Int) = p at h2 hp hb
          obtain ⟨ad3, e3, h3⟩ := Kd.at_string HR.out p hp.1 hp.2
          obtain rfl : ad = ad3 := by injection e3
          have hm : ∀ q : Int, 0 ≤ q → q < ss.length → rdOf ByteArray.empty ss q ∈ ss := fun q q1 q2 => by
            unfold rdOf
            rw [List.getD_eq_getElem?_getD, List.getElem?_eq_getElem (show q.toNat < ss.length by omega)]
            exact List.getElem_mem _
          have hs1 := HSZ.out _ (hm (j : Int) (by omega) (by omega))
          have hs2 := HSZ.out _ (hm p hp.1 hp.2)
          generalize rdOf ByteArray.empty ss (j : Int) = s at h1 hb hs1
          generalize rdOf ByteArray.empty ss p = t at h3 hb hs2
          have HLS := Aside0.mk (fun W => rless_tot s t W hs1 hs2)
          rw [hb] at HLS
          have hp1 := hp.1
          have hp2 := hp.2
          have hg1 : decide ((0 : Int) ≤ p) = true := decide_eq_true hp1
          have hg2 : decide (p < (ss.length : Int)) = true := decide_eq_true hp2
          have hw : Below w.heap.size w wi := HBW.out.trans (HBI.out.mono HBW.out.size)
          have h1' := (hw.cell (World.block_lt_of_cell? _ _ h1)).trans h1
          have h3' := (hw.cell (World.block_lt_of_cell? _ _ h3)).trans h3
          have h2' := (HBI.out.cell (World.block_lt_of_cell? _ _ h2)).trans h2
          have hcell : ∀ w' : World, Below wi.heap.size wi w' → w'.cell? (ad.add j) = some (.string s) ∧ w'.cell? (ad2.add c) = some (.int .i64 p) ∧ w'.cell? (ad.add p.toNat) = some (.string t) := fun w' hk =>
            ⟨(hk.cell (World.block_lt_of_cell? _ _ h1')).trans h1', (hk.cell (World.block_lt_of_cell? _ _ h2')).trans h2', (hk.cell (World.block_lt_of_cell? _ _ h3')).trans h3'⟩
          have HCELL := Aside0.mk hcell
          have hb0 : Below wi.heap.size wi wi := Below.refl _ _
          have HCT := Aside0.mk hcut
          clear hcut h1 h2 h3 hb hm hcell e3 hpm hp hw h1' h2' h3' hs1 hs2
          have hlc : c + 1 ≤ l1.length := hc
          go_wp2_with (fail)
          go_region_held3 (fun w' => Below wi.heap.size wi w' ∧ w'.cell? (ad.add j) = some (.string s) ∧ w'.cell? (ad2.add c) = some (.int .i64 p) ∧ w'.cell? (ad.add p.toNat) = some (.string t))
            (first
              | (try go_split_ands
                 refine ⟨?_, HCELL.out _ ?_⟩ <;> first | assumption | (apply Below.drew; assumption) | (apply Below.drewN; assumption)))
            (first
              | (go_at_call 13; try go_split_ands; refine (HLS.out _).mono ?_; rintro e w' ⟨rfl, hk⟩; have hk2 := Below.trans (by assumption) (hk.mono (Below.size (by assumption)))))
          cases b with
          | true =>
            go_wp2
            go_roundw
            case rel => exact ⟨c, by omega, by go_num, ⟨HCT.out⟩, ⟨HBI.out.trans (hk2.mono HBI.out.size)⟩⟩
            case measure => simp [intOf]; omega
          | false =>
            have HCE := Aside0.mk (show cutV (beforeP ss (j : Int)) l1 l1.length = ci.toNat by rw [← HCT.out]; simp only [Bool.false_eq_true, if_false]; omega)
            have HBZ := Aside0.mk (HBI.out.trans (hk2.mono HBI.out.size))
            obtain ⟨wz, rfl⟩ : ∃ wz, wz = w' := ⟨_, rfl⟩
            have HR1 := Aside0.mk (Kd.C_below HCB.out HBZ.out)
            have HB := Aside0.mk (below_drew1 (Below.refl wz.heap.size wz))
            have c35b1 : decide (0 ≤ ci) = true := decide_eq_true (by omega)
            have c36b1 : decide (ci ≤ (l1.length : Int)) = true := decide_eq_true (by omega)
            have c39b0 := eq_true (of_decide_eq_true (by first | (with_reducible assumption) | assumption) : 0 ≤ ci)
            have c40b0 := eq_true (of_decide_eq_true (by first | (with_reducible assumption) | assumption) : ci ≤ (l1.length : Int))
            have htk_ : (l1.take ci.toNat).length ≤ 1000 := by rw [List.length_take]; omega
            have hdr_ : (l1.drop ci.toNat).length ≤ 1000 := by rw [List.length_drop]; omega
            have LMc37 := Aside0.mk (show ([] : List Int).length + (l1.take (ci : Int).toNat).length < 17592186044416 by simp only [List.length_nil]; omega)
            obtain ⟨y240, hy240⟩ : ∃ y_ : List Int, y_ = (([] : List Int) ++ (l1.take (ci : Int).toNat)) := ⟨_, rfl⟩
            obtain ⟨y243, hy243⟩ : ∃ y_ : List Int, y_ = ([(j : Int)] : List Int) := ⟨_, rfl⟩
            have LMc38 := Aside0.mk (show y240.length + y243.length < 17592186044416 by rw [hy240, hy243, List.nil_append, List.length_singleton]; omega)
            obtain ⟨y246, hy246⟩ : ∃ y_ : List Int, y_ = (y240 ++ y243) := ⟨_, rfl⟩
            have LMc41 := Aside0.mk (show y246.length + (l1.drop (ci : Int).toNat).length < 17592186044416 by rw [hy246, hy240, hy243, List.nil_append, List.length_append, List.length_singleton]; omega)
            obtain ⟨y250, hy250⟩ : ∃ y_ : List Int, y_ = (y246 ++ (l1.drop (ci : Int).toNat)) := ⟨_, rfl⟩
            have HY := Aside0.mk (show y250 = rsortL ss (j + 1) by rw [HNEXT.out, hy250, hy246, hy240, hy243]; unfold insV; rw [HCE.out])
            have Ny240 := Aside0.mk hy240
            have Ny243 := Aside0.mk hy243
            have Ny246 := Aside0.mk hy246
            have Ny250 := Aside0.mk hy250
            clear hy240 hy243 hy246 hy250 htk_ hdr_
            go_wp2_with (fail)
            obtain ⟨i044, hi044, _, hsz44, _⟩ := info_parts info3
            obtain ⟨hcut44, hA44, hC44⟩ := print_take_of (P := Try.prog) (Value.int .i64) 0 27 3 .i64 Try.underlying27 hi044 hsz44 (some ad2) c1 l1 ci (of_decide_eq_true (by first | (with_reducible assumption) | assumption)) (of_decide_eq_true (by first | (with_reducible assumption) | assumption)) HC1.out
            have HR239 := Aside0.mk (Kd.C_of_reads (h1 := fun _ => rfl) (hA44 _ (Kd.reads_of_C HR1.out)))
            have HC239 := Aside0.mk hC44
            clear hA44 hC44 hi044 hsz44
            obtain ⟨i045, hi045, _, hsz45, _⟩ := info_parts info3
            obtain ⟨A45, hcut45, hA45, hC45⟩ := print_drop_of (P := Try.prog) (Value.int .i64) 0 27 3 .i64 Try.underlying27 hi045 hsz45 (some ad2) c1 l1 ci (of_decide_eq_true (by first | (with_reducible assumption) | assumption)) (of_decide_eq_true (by first | (with_reducible assumption) | assumption)) HC1.out
            have HR249 := Aside0.mk (Kd.C_of_reads (h1 := fun _ => rfl) (hA45 _ (Kd.reads_of_C HR1.out)))
            have HC249 := Aside0.mk hC45
            clear hA45 hC45 hi045 hsz45
            refine start_ (n := 13) (S := fun w' => True) (ds := []) #[false, false, false, false, false, false, false, false, false, false, false, false, false] (by kernel_rfl) rfl rfl trivial (fun hHeld => ?_); refine with_tabW rsort_tab9 rsort_bits9 (fun HT_ HW_ => ?_)
            generalize wz.drew = w43 at HB HR239 HR249 hHeld ⊢
            refine pure_ (i := 0) (N := some 34) (v := ?_) (a' := ?_) #[true, false, false, false, false, false, false, false, false, false, false, false, false] rfl rfl (any_of HT_.out (by kernel_rfl)) (fun _ _ _ h => h) (Or.inl ⟨by rfl, ?_⟩) ?_ ?_
            rotate_left
            · intro w'
              go_simp
              with_reducible rfl
            rotate_left
            · simp only [Act.put, List.setIfInBounds_toArray, List.set_cons_zero, List.set_cons_succ, i64_w, i32_w]
              rfl
            refine pure_ (i := 1) (N := some 35) (v := ?_) (a' := ?_) #[true, true, false, false, false, false, false, false, false, false, false, false, false] rfl rfl (any_of HT_.out (by kernel_rfl)) (fun _ _ _ h => h) (Or.inl ⟨by rfl, ?_⟩) ?_ ?_
            rotate_left
            · intro w'
              go_simp
              with_reducible rfl
            rotate_left
            · simp only [Act.put, List.setIfInBounds_toArray, List.set_cons_zero, List.set_cons_succ, i64_w, i32_w]
              rfl
            refine pure_ (i := 2) (N := some 36) (v := ?_) (a' := ?_) #[true, true, true, false, false, false, false, false, false, false, false, false, false] rfl rfl (any_of HT_.out (by kernel_rfl)) (fun _ _ _ h => h) (Or.inl ⟨by rfl, ?_⟩) ?_ ?_
            rotate_left
            · intro w'
              go_simp
              with_reducible rfl
            rotate_left
            · simp only [Act.put, List.setIfInBounds_toArray, List.set_cons_zero, List.set_cons_succ, i64_w, i32_w]
              rfl
            refine pure_ (i := 3) (N := some 37) (v := ?_) (a' := ?_) #[true, true, true, true, false, false, false, false, false, false, false, false, false] rfl rfl (any_of HT_.out (by kernel_rfl)) (fun _ _ _ h => h) (Or.inl ⟨by rfl, ?_⟩) ?_ ?_
            rotate_left
            · intro w'
              go_simp
              with_reducible rfl
            rotate_left
            · simp only [Act.put, List.setIfInBounds_toArray, List.set_cons_zero, List.set_cons_succ, i64_w, i32_w]
              rfl
            refine pure_ (i := 5) (N := some 39) (v := ?_) (a' := ?_) #[true, true, true, true, false, true, false, false, false, false, false, false, false] rfl rfl (any_of HT_.out (by kernel_rfl)) (fun _ _ _ h => h) (Or.inl ⟨by rfl, ?_⟩) ?_ ?_
            rotate_left
            · intro w'
              go_simp
              with_reducible rfl
            rotate_left
            · simp only [Act.put, List.setIfInBounds_toArray, List.set_cons_zero, List.set_cons_succ, i64_w, i32_w]
              rfl
            refine pure_ (i := 8) (N := some 42) (v := ?_) (a' := ?_) #[true, true, true, true, false, true, false, false, true, false, false, false, false] rfl rfl (any_of HT_.out (by kernel_rfl)) (fun _ _ _ h => h) (Or.inl ⟨by rfl, ?_⟩) ?_ ?_
            rotate_left
            · intro w'
              go_simp
              with_reducible rfl
            rotate_left
            · simp only [Act.put, List.setIfInBounds_toArray, List.set_cons_zero, List.set_cons_succ, i64_w, i32_w]
              rfl
            refine pure_ (i := 9) (N := some 43) (v := ?_) (a' := ?_) #[true, true, true, true, false, true, false, false, true, true, false, false, false] rfl rfl (any_of HT_.out (by kernel_rfl)) (fun _ _ _ h => h) (Or.inl ⟨by rfl, ?_⟩) ?_ ?_
            rotate_left
            · intro w'
              go_simp
              with_reducible rfl
            rotate_left
            · simp only [Act.put, List.setIfInBounds_toArray, List.set_cons_zero, List.set_cons_succ, i64_w, i32_w]
              rfl
            refine pure_ (i := 10) (N := some 44) (v := ?_) (a' := ?_) #[true, true, true, true, false, true, false, false, true, true, true, false, false] rfl rfl (any_of HT_.out (by kernel_rfl)) (fun _ _ _ h => h) (Or.inl ⟨by rfl, ?_⟩) ?_ ?_
            rotate_left
            · intro w'
              go_simp
              with_reducible rfl
            rotate_left
            · simp only [Act.put, List.setIfInBounds_toArray, List.set_cons_zero, List.set_cons_succ, i64_w, i32_w]
              rfl
            refine join_ (σ := Value × Value) 3 #[true, true, true, true, true, true, true, false, true, true, true, false, false] (fun s_ => [(38, s_.1), (40, s_.2)]) (fun s_ w' => (Kd.R (Kd.int .i64) 3 w' wz.heap.size (fun k_ => some k_ ≠ (s_.2 : Value).ownBlock) s_.1 y240) ∧ (Kd.R (Kd.int .i64) 3 w' wz.heap.size (fun k_ => some k_ ≠ (s_.1 : Value).ownBlock) s_.2 y243) ∧ (Below wz.heap.size wz w')) ?_ ?_
            rotate_left
            · intro hCont
              refine two_ (i := 4) (j := 6) (Ni := some 38) (Nj := some 40) #[true, true, true, true, true, true, false, false, true, true, true, false, false] #[true, true, true, true, false, true, true, false, true, true, true, false, false] rfl rfl rfl rfl (two_of HT_.out (by kernel_rfl)) (by decide) (by decide) (fun K hK => ?_) (fun K hK => ?_)
              · skip
                refine Kd.R_append_rows_step (Kd.int .i64) (w0 := wz) wz.heap.size (by rfl) (.tmp 34) (.tmp 37) 27 3 (.int .i64 0) 8 rfl Try.underlying27 info3 rfl (by decide) (by omega) (.slice none 0 0) ([] : List Int) (l1.take (ci : Int).toNat) _ _ _ (fun _ => True) (fun _ => False) rfl rfl ?aO ?aR (fun _ _ h => h) (fun _ h => h.elim) ?aF ?aB ?aS ?aL ?_
                (case aR => first | exact (Kd.C_below HR239.out HB.out) | exact (Kd.C_drew (Kd.C_below HR239.out HB.out)) | (refine (show ∀ {E_ : Type} {R_ : E_ → List Value → Prop} {s_ : Nat} {w_ : World} {A_ : Option Addr} {n_ m_ : Nat} {x_ : List E_}, n_ = m_ → ReadsRow R_ s_ w_ A_ n_ x_ → ReadsRow R_ s_ w_ A_ m_ x_ from fun h_ r_ => h_ ▸ r_) (show (l1.take (ci : Int).toNat).length = ci.toNat from (by rw [List.length_take]; have h_ : (ci : Int) ≤ (l1.length : Int) := of_decide_eq_true (by first | (with_reducible assumption) | assumption); omega)) ?_; repeat (first | exact (Kd.C_below HR239.out HB.out) | (with_reducible refine Kd.C_alloc ?_ _) | (with_reducible refine Kd.C_drewN ?_ _) | (with_reducible refine Kd.C_drew ?_))))
                (case aB => exact (by repeat (first | (with_reducible first | exact HB.out | apply below_alloc | apply pw_below_drewN | apply below_drew1) | exact HB.out)))
                (case aF => exact (fun _ _ => trivial))
                (case aO => exact ((Kd.R_nil _ _ _ _ (fun _ => True))))
                (case aS => exact (below_size (by repeat (first | (with_reducible first | exact HB.out | apply below_alloc | apply pw_below_drewN | apply below_drew1) | exact HB.out))))
                (case aL => have := LMc37.out; have hlx_ := (show (l1.take (ci : Int).toNat).length = ci.toNat from (by rw [List.length_take]; have h_ : (ci : Int) ≤ (l1.length : Int) := of_decide_eq_true (by first | (with_reducible assumption) | assumption); omega)); omega)
                intro v241 w46 ho hb hg hat
                rw [← Ny240.out] at ho
                have n0_ := Aside0.mk (hb)
                have n1_ := Aside0.mk (ho)
                clear HB
                have HB := n0_
                have HO242 := n1_
                clear n0_ n1_
                clear ho hb hg hat
                refine hK.out _ _ trivial (fun hHeld => ?_)
                clear hK K
                refine norm_ (a' := ?_) ?_ ?_
                rotate_left
                · show Act.put _ (some 38) _ = _
                  simp only [Act.put, List.setIfInBounds_toArray, List.set_cons_zero, List.set_cons_succ, i64_w, i32_w]
                  rfl
                refine one_ (i := 6) (N := some 40) #[true, true, true, true, true, true, true, false, true, true, true, false, false] rfl rfl (one_of HT_.out (by kernel_rfl)) (by decide) (fun K hK => ?_)
                refine Kd.R_lit_step (Kd.int .i64) _ 3 ?hg (N := 40) ?hd (xs := ([(j : Int)] : List Int)) (inner := [.int .i64 (j : Int)]) (ok := fun _ => True) (okp := fun _ => True) ?hr ?hp (fun _ hk => hk) trivial (Below.refl _ _) (Nat.le_refl _) (by simp) ?_; (case hd => rfl); (case hg => rfl); (case hr => first | (go_simp; done) | (go_simp; rfl)); (case hp => exact (Reps.one (show Kd.M (Kd.int .i64) _ _ _ (j : Int) [.int .i64 (j : Int)] from rfl) (Reps.none _ _)))
                intro v244 w47 ho48 hb hg_ hnew_
                clear hg_ hnew_
                (first | rw [← Ny243.out] at ho48 | (simp only [Int.reduceToNat] at ho48; rw [← Ny243.out] at ho48))
                have n0_ := Aside0.mk (Kd.R_elder' (by (with_reducible repeat (first | apply Kd.R_alloc | apply Kd.R_drewN | apply Kd.R_drew)); exact HO242.out) (Kd.R_base ho48) hb)
                have n1_ := Aside0.mk (Kd.R_lower (Kd.R_new' ho48 (Kd.R_lt (by (with_reducible repeat (first | apply Kd.R_alloc | apply Kd.R_drewN | apply Kd.R_drew)); exact HO242.out))) (below_size (by repeat (first | (with_reducible first | exact HB.out | apply below_alloc | apply pw_below_drewN | apply below_drew1) | exact HB.out))))
                have n2_ := Aside0.mk (below_step (by repeat (first | (with_reducible first | exact HB.out | apply below_alloc | apply pw_below_drewN | apply below_drew1) | exact HB.out)) hb)
                clear HO242
                clear HB
                have HO242 := n0_
                have HO245 := n1_
                have HB := n2_
                clear n0_ n1_ n2_
                clear hb ho48
                refine hK.out _ _ trivial (fun hHeld => ?_)
                clear hK K
                refine norm_ (a' := ?_) ?_ ?_
                rotate_left
                · show Act.put _ (some 40) _ = _
                  simp only [Act.put, List.setIfInBounds_toArray, List.set_cons_zero, List.set_cons_succ, i64_w, i32_w]
                  rfl
                exact norm_ (by simp only [putAll, Act.put, List.setIfInBounds_toArray, List.set_cons_zero, List.set_cons_succ]) (hCont (v241, v244) _ ⟨(by (with_reducible repeat (first | apply Kd.R_alloc | apply Kd.R_drewN | apply Kd.R_drew)); exact Kd.R_mono HO242.out (fun _ hk => hk.2)), (by (with_reducible repeat (first | apply Kd.R_alloc | apply Kd.R_drewN | apply Kd.R_drew)); exact Kd.R_mono HO245.out (fun _ hk => hk.2)), (by repeat (first | (with_reducible first | exact HB.out | apply below_alloc | apply pw_below_drewN | apply below_drew1) | exact HB.out))⟩)
              · skip
                refine Kd.R_lit_step (Kd.int .i64) _ 3 ?hg (N := 40) ?hd (xs := ([(j : Int)] : List Int)) (inner := [.int .i64 (j : Int)]) (ok := fun _ => True) (okp := fun _ => True) ?hr ?hp (fun _ hk => hk) trivial (Below.refl _ _) (Nat.le_refl _) (by simp) ?_; (case hd => rfl); (case hg => rfl); (case hr => first | (go_simp; done) | (go_simp; rfl)); (case hp => exact (Reps.one (show Kd.M (Kd.int .i64) _ _ _ (j : Int) [.int .i64 (j : Int)] from rfl) (Reps.none _ _)))
                intro v244 w46 ho47 hb hg_ hnew_
                clear hg_ hnew_
                (first | rw [← Ny243.out] at ho47 | (simp only [Int.reduceToNat] at ho47; rw [← Ny243.out] at ho47))
                have n0_ := Aside0.mk (Kd.R_lower ho47 (below_size (by repeat (first | (with_reducible first | exact HB.out | apply below_alloc | apply pw_below_drewN | apply below_drew1) | exact HB.out))))
                have n1_ := Aside0.mk (below_step (by repeat (first | (with_reducible first | exact HB.out | apply below_alloc | apply pw_below_drewN | apply below_drew1) | exact HB.out)) hb)
                clear HB
                have HO245 := n0_
                have HB := n1_
                clear n0_ n1_
                clear hb ho47
                refine hK.out _ _ trivial (fun hHeld => ?_)
                clear hK K
                refine norm_ (a' := ?_) ?_ ?_
                rotate_left
                · show Act.put _ (some 40) _ = _
                  simp only [Act.put, List.setIfInBounds_toArray, List.set_cons_zero, List.set_cons_succ, i64_w, i32_w]
                  rfl
                refine one_ (i := 4) (N := some 38) #[true, true, true, true, true, true, true, false, true, true, true, false, false] rfl rfl (one_of HT_.out (by kernel_rfl)) (by decide) (fun K hK => ?_)
                refine Kd.R_append_rows_step (Kd.int .i64) (w0 := wz) wz.heap.size (by rfl) (.tmp 34) (.tmp 37) 27 3 (.int .i64 0) 8 rfl Try.underlying27 info3 rfl (by decide) (by omega) (.slice none 0 0) ([] : List Int) (l1.take (ci : Int).toNat) _ _ _ (fun k_ => some k_ ≠ (v244 : Value).ownBlock) (fun _ => False) rfl rfl ?aO ?aR (fun _ _ h => h) (fun _ h => h.elim) ?aF ?aB ?aS ?aL ?_
                (case aR => first | exact (Kd.C_below HR239.out HB.out) | exact (Kd.C_drew (Kd.C_below HR239.out HB.out)) | (refine (show ∀ {E_ : Type} {R_ : E_ → List Value → Prop} {s_ : Nat} {w_ : World} {A_ : Option Addr} {n_ m_ : Nat} {x_ : List E_}, n_ = m_ → ReadsRow R_ s_ w_ A_ n_ x_ → ReadsRow R_ s_ w_ A_ m_ x_ from fun h_ r_ => h_ ▸ r_) (show (l1.take (ci : Int).toNat).length = ci.toNat from (by rw [List.length_take]; have h_ : (ci : Int) ≤ (l1.length : Int) := of_decide_eq_true (by first | (with_reducible assumption) | assumption); omega)) ?_; repeat (first | exact (Kd.C_below HR239.out HB.out) | (with_reducible refine Kd.C_alloc ?_ _) | (with_reducible refine Kd.C_drewN ?_ _) | (with_reducible refine Kd.C_drew ?_))))
                (case aB => exact (by repeat (first | (with_reducible first | exact HB.out | apply below_alloc | apply pw_below_drewN | apply below_drew1) | exact HB.out)))
                (case aF => exact (fun k_ hk => Kd.fresh' (Kd.R_lt (by (with_reducible repeat (first | apply Kd.R_alloc | apply Kd.R_drewN | apply Kd.R_drew)); exact HO245.out)) k_ hk))
                (case aO => exact ((Kd.R_nil _ _ _ _ (fun k_ => some k_ ≠ (v244 : Value).ownBlock))))
                (case aS => exact (below_size (by repeat (first | (with_reducible first | exact HB.out | apply below_alloc | apply pw_below_drewN | apply below_drew1) | exact HB.out))))
                (case aL => have := LMc37.out; have hlx_ := (show (l1.take (ci : Int).toNat).length = ci.toNat from (by rw [List.length_take]; have h_ : (ci : Int) ≤ (l1.length : Int) := of_decide_eq_true (by first | (with_reducible assumption) | assumption); omega)); omega)
                intro v241 w48 ho hb hg hat
                rw [← Ny240.out] at ho
                have n0_ := Aside0.mk (Kd.R_after (Kd.R_apart_nil (by (with_reducible repeat (first | apply Kd.R_alloc | apply Kd.R_drewN | apply Kd.R_drew)); exact HO245.out)) hg hat)
                have n1_ := Aside0.mk (hb)
                have n2_ := Aside0.mk (ho)
                clear HO245
                clear HB
                have HO245 := n0_
                have HB := n1_
                have HO242 := n2_
                clear n0_ n1_ n2_
                clear ho hb hg hat
                refine hK.out _ _ trivial (fun hHeld => ?_)
                clear hK K
                refine norm_ (a' := ?_) ?_ ?_
                rotate_left
                · show Act.put _ (some 38) _ = _
                  simp only [Act.put, List.setIfInBounds_toArray, List.set_cons_zero, List.set_cons_succ, i64_w, i32_w]
                  rfl
                exact norm_ (by simp only [putAll, Act.put, List.setIfInBounds_toArray, List.set_cons_zero, List.set_cons_succ]) (hCont (v241, v244) _ ⟨(by (with_reducible repeat (first | apply Kd.R_alloc | apply Kd.R_drewN | apply Kd.R_drew)); exact HO242.out), (by (with_reducible repeat (first | apply Kd.R_alloc | apply Kd.R_drewN | apply Kd.R_drew)); exact Kd.R_mono HO245.out (fun _ hk => hk.2)), (by repeat (first | (with_reducible first | exact HB.out | apply below_alloc | apply pw_below_drewN | apply below_drew1) | exact HB.out))⟩)
            rintro ⟨v241, v244⟩ w49 ⟨h0_, h1_, h2_⟩
            have n0_ : Aside0 (Kd.R (Kd.int .i64) 3 w49 wz.heap.size (fun k_ => some k_ ≠ (v244 : Value).ownBlock) v241 y240) := ⟨h0_⟩
            have n1_ : Aside0 (Kd.R (Kd.int .i64) 3 w49 wz.heap.size (fun k_ => some k_ ≠ (v241 : Value).ownBlock) v244 y243) := ⟨h1_⟩
            have n2_ : Aside0 (Below wz.heap.size wz w49) := ⟨h2_⟩
            clear HB
            clear h0_ h1_ h2_
            have HO242 := n0_
            have HO245 := n1_
            have HB := n2_
            clear n0_ n1_ n2_
            have hHeld := trivial
            obtain ⟨Ao51, co51, eo51⟩ := Kd.R_slice HO245.out
            (first | subst eo51 | (injection eo51 with f1_ f2_ f3_; have f4_ := f1_.symm; have f5_ := f3_.symm; clear f1_ f2_ f3_; subst f4_; subst f5_))
            refine norm_ (a' := ?_) ?_ ?_
            rotate_left
            · simp only [putAll, Act.put, List.setIfInBounds_toArray, List.set_cons_zero, List.set_cons_succ]
              rfl
            refine one_ (i := 7) (N := some 41) #[true, true, true, true, true, true, true, true, true, true, true, false, false] rfl rfl (one_of HT_.out (by kernel_rfl)) (by decide) (fun K hK => ?_)
            refine Kd.R_append_rows_step (Kd.int .i64) (w0 := wz) wz.heap.size (by rfl) (.tmp 38) (.tmp 40) 27 3 (.int .i64 0) 8 rfl Try.underlying27 info3 rfl (by decide) (by omega) v241 y240 y243 _ _ _ (fun k_ => some k_ ≠ (.slice Ao51 y243.length co51 : Value).ownBlock) (fun _ => False) rfl rfl ?aO ?aR (fun _ _ h => h) (fun _ h => h.elim) ?aF ?aB ?aS ?aL ?_
            (case aR => repeat (first | exact (Kd.R_reads' HO245.out).2.2 | (with_reducible refine Kd.C_alloc ?_ _) | (with_reducible refine Kd.C_drewN ?_ _) | (with_reducible refine Kd.C_drew ?_)))
            (case aB => exact (by repeat (first | (with_reducible first | exact HB.out | apply below_alloc | apply pw_below_drewN | apply below_drew1) | exact HB.out)))
            (case aF => exact (fun k_ hk => Kd.fresh' (Kd.R_lt (by (with_reducible repeat (first | apply Kd.R_alloc | apply Kd.R_drewN | apply Kd.R_drew)); exact HO245.out)) k_ hk))
            (case aO => exact (by (with_reducible repeat (first | apply Kd.R_alloc | apply Kd.R_drewN | apply Kd.R_drew)); exact HO242.out))
            (case aS => exact (below_size (by repeat (first | (with_reducible first | exact HB.out | apply below_alloc | apply pw_below_drewN | apply below_drew1) | exact HB.out))))
            (case aL => have := LMc38.out; omega)
            intro v247 w50 ho hb hg hat
            rw [← Ny246.out] at ho
            have n0_ := Aside0.mk (Kd.R_after (ok := (fun _ => True)) (by (with_reducible repeat (first | apply Kd.R_alloc | apply Kd.R_drewN | apply Kd.R_drew)); exact Kd.R_mono HO245.out (fun _ hk => ⟨trivial, hk⟩)) hg hat)
            have n1_ := Aside0.mk (hb)
            have n2_ := Aside0.mk (ho)
            clear HO245
            clear HB
            clear HO242
            have HO245 := n0_
            have HB := n1_
            have HO248 := n2_
            clear n0_ n1_ n2_
            clear ho hb hg hat
            refine hK.out _ _ trivial (fun hHeld => ?_)
            clear hK K
            refine norm_ (a' := ?_) ?_ ?_
            rotate_left
            · show Act.put _ (some 41) _ = _
              simp only [Act.put, List.setIfInBounds_toArray, List.set_cons_zero, List.set_cons_succ, i64_w, i32_w]
              rfl
            refine one_ (i := 11) (N := some 45) #[true, true, true, true, true, true, true, true, true, true, true, true, false] rfl rfl (one_of HT_.out (by kernel_rfl)) (by decide) (fun K hK => ?_)
            refine Kd.R_append_rows_step (Kd.int .i64) (w0 := wz) wz.heap.size (by rfl) (.tmp 41) (.tmp 44) 27 3 (.int .i64 0) 8 rfl Try.underlying27 info3 rfl (by decide) (by omega) v247 y246 (l1.drop (ci : Int).toNat) _ _ _ (fun k_ => some k_ ≠ (.slice Ao51 y243.length co51 : Value).ownBlock) (fun _ => False) rfl rfl ?aO ?aR (fun _ _ h => h) (fun _ h => h.elim) ?aF ?aB ?aS ?aL ?_
            (case aR => first | exact (Kd.C_below HR249.out HB.out) | exact (Kd.C_drew (Kd.C_below HR249.out HB.out)) | (refine (show ∀ {E_ : Type} {R_ : E_ → List Value → Prop} {s_ : Nat} {w_ : World} {A_ : Option Addr} {n_ m_ : Nat} {x_ : List E_}, n_ = m_ → ReadsRow R_ s_ w_ A_ n_ x_ → ReadsRow R_ s_ w_ A_ m_ x_ from fun h_ r_ => h_ ▸ r_) (show (l1.drop (ci : Int).toNat).length = (l1.length - ci.toNat) from List.length_drop) ?_; repeat (first | exact (Kd.C_below HR249.out HB.out) | (with_reducible refine Kd.C_alloc ?_ _) | (with_reducible refine Kd.C_drewN ?_ _) | (with_reducible refine Kd.C_drew ?_))))
            (case aB => exact (by repeat (first | (with_reducible first | exact HB.out | apply below_alloc | apply pw_below_drewN | apply below_drew1) | exact HB.out)))
            (case aF => exact (fun k_ hk => Kd.fresh' (Kd.R_lt (by (with_reducible repeat (first | apply Kd.R_alloc | apply Kd.R_drewN | apply Kd.R_drew)); exact HO245.out)) k_ hk))
            (case aO => exact (by (with_reducible repeat (first | apply Kd.R_alloc | apply Kd.R_drewN | apply Kd.R_drew)); exact HO248.out))
            (case aS => exact (below_size (by repeat (first | (with_reducible first | exact HB.out | apply below_alloc | apply pw_below_drewN | apply below_drew1) | exact HB.out))))
            (case aL => have := LMc41.out; have hlx_ := (show (l1.drop (ci : Int).toNat).length = (l1.length - ci.toNat) from List.length_drop); omega)
            intro v251 w52 ho hb hg hat
            rw [← Ny250.out] at ho
            have n0_ := Aside0.mk (Kd.R_after (ok := (fun _ => True)) (by (with_reducible repeat (first | apply Kd.R_alloc | apply Kd.R_drewN | apply Kd.R_drew)); exact HO245.out) hg hat)
            have n1_ := Aside0.mk (hb)
            have n2_ := Aside0.mk (ho)
            clear HO245
            clear HB
            clear HO248
            have HO245 := n0_
            have HB := n1_
            have HO252 := n2_
            clear n0_ n1_ n2_
            clear ho hb hg hat
            refine hK.out _ _ trivial (fun hHeld => ?_)
            clear hK K
            refine norm_ (a' := ?_) ?_ ?_
            rotate_left
            · show Act.put _ (some 45) _ = _
              simp only [Act.put, List.setIfInBounds_toArray, List.set_cons_zero, List.set_cons_succ, i64_w, i32_w]
              rfl
            refine pure_ (i := 12) (N := some 6) (v := ?_) (a' := ?_) #[true, true, true, true, true, true, true, true, true, true, true, true, true] rfl rfl (any_of HT_.out (by kernel_rfl)) (fun _ _ _ h => h) (Or.inl ⟨by rfl, ?_⟩) ?_ ?_
            rotate_left
            · intro w'
              go_simp
              with_reducible rfl
            rotate_left
            · simp only [Act.put, List.setIfInBounds_toArray, List.set_cons_zero, List.set_cons_succ, i64_w, i32_w]
              rfl
            refine done_ (done_of HT_.out (by kernel_rfl)) ?_
            go_wp2
            go_roundw
            case rel => exact ⟨j + 1, v251, by omega, by go_num, rfl, ⟨by rw [← HY.out]; exact Kd.R_lower (Kd.R_mono HO252.out (fun _ _ => trivial)) (Nat.le_trans HBW.out.size HBZ.out.size)⟩, ⟨(HBW.out.trans (HBZ.out.mono HBW.out.size)).trans (HB.out.mono (Nat.le_trans HBW.out.size HBZ.out.size))⟩⟩
            case measure => simp [intOf]; omega
        · have g1 : decide ((0 : Int) < (c : Int)) = false := decide_eq_false (by omega)
          have g2 : decide (0 < c) = false := decide_eq_false hc0
          obtain rfl : c = 0 := by omega
          obtain ⟨ci, hci⟩ : ∃ ci : Int, ((0 : Nat) : Int) = ci := ⟨_, rfl⟩
          rw [hci] at g1 ⊢
          have HCE := Aside0.mk (show cutV (beforeP ss (j : Int)) l1 l1.length = ci.toNat by rw [← HCUT.out]; simp only [cutV]; omega)
          go_wp2
          go_quiet (fail)
          have HBZ := Aside0.mk (HBI.out.trans ((show Below wi.heap.size wi (wi.drewN nq) by (apply pw_below_drewN; exact Below.refl _ _)).mono HBI.out.size))
          generalize wi.drewN nq = wz at HBZ ⊢
          have HR1 := Aside0.mk (Kd.C_below HCB.out HBZ.out)
          have HB := Aside0.mk (below_drew1 (Below.refl wz.heap.size wz))
          have c35b1 : decide (0 ≤ ci) = true := decide_eq_true (by omega)
          have c36b1 : decide (ci ≤ (l1.length : Int)) = true := decide_eq_true (by omega)
          have c39b0 := eq_true (of_decide_eq_true (by first | (with_reducible assumption) | assumption) : 0 ≤ ci)
          have c40b0 := eq_true (of_decide_eq_true (by first | (with_reducible assumption) | assumption) : ci ≤ (l1.length : Int))
          have htk_ : (l1.take ci.toNat).length ≤ 1000 := by rw [List.length_take]; omega
          have hdr_ : (l1.drop ci.toNat).length ≤ 1000 := by rw [List.length_drop]; omega
          have LMc37 := Aside0.mk (show ([] : List Int).length + (l1.take (ci : Int).toNat).length < 17592186044416 by simp only [List.length_nil]; omega)
          obtain ⟨y240, hy240⟩ : ∃ y_ : List Int, y_ = (([] : List Int) ++ (l1.take (ci : Int).toNat)) := ⟨_, rfl⟩
          obtain ⟨y243, hy243⟩ : ∃ y_ : List Int, y_ = ([(j : Int)] : List Int) := ⟨_, rfl⟩
          have LMc38 := Aside0.mk (show y240.length + y243.length < 17592186044416 by rw [hy240, hy243, List.nil_append, List.length_singleton]; omega)
          obtain ⟨y246, hy246⟩ : ∃ y_ : List Int, y_ = (y240 ++ y243) := ⟨_, rfl⟩
          have LMc41 := Aside0.mk (show y246.length + (l1.drop (ci : Int).toNat).length < 17592186044416 by rw [hy246, hy240, hy243, List.nil_append, List.length_append, List.length_singleton]; omega)
          obtain ⟨y250, hy250⟩ : ∃ y_ : List Int, y_ = (y246 ++ (l1.drop (ci : Int).toNat)) := ⟨_, rfl⟩
          have HY := Aside0.mk (show y250 = rsortL ss (j + 1) by rw [HNEXT.out, hy250, hy246, hy240, hy243]; unfold insV; rw [HCE.out])
          have Ny240 := Aside0.mk hy240
          have Ny243 := Aside0.mk hy243
          have Ny246 := Aside0.mk hy246
          have Ny250 := Aside0.mk hy250
          clear hy240 hy243 hy246 hy250 htk_ hdr_
          go_wp2_with (fail)
          obtain ⟨i044, hi044, _, hsz44, _⟩ := info_parts info3
          obtain ⟨hcut44, hA44, hC44⟩ := print_take_of (P := Try.prog) (Value.int .i64) 0 27 3 .i64 Try.underlying27 hi044 hsz44 A1 c1 l1 ci (of_decide_eq_true (by first | (with_reducible assumption) | assumption)) (of_decide_eq_true (by first | (with_reducible assumption) | assumption)) HC1.out
          have HR239 := Aside0.mk (Kd.C_of_reads (h1 := fun _ => rfl) (hA44 _ (Kd.reads_of_C HR1.out)))
          have HC239 := Aside0.mk hC44
          clear hA44 hC44 hi044 hsz44
          obtain ⟨i045, hi045, _, hsz45, _⟩ := info_parts info3
          obtain ⟨A45, hcut45, hA45, hC45⟩ := print_drop_of (P := Try.prog) (Value.int .i64) 0 27 3 .i64 Try.underlying27 hi045 hsz45 A1 c1 l1 ci (of_decide_eq_true (by first | (with_reducible assumption) | assumption)) (of_decide_eq_true (by first | (with_reducible assumption) | assumption)) HC1.out
          have HR249 := Aside0.mk (Kd.C_of_reads (h1 := fun _ => rfl) (hA45 _ (Kd.reads_of_C HR1.out)))
          have HC249 := Aside0.mk hC45
          clear hA45 hC45 hi045 hsz45
          refine start_ (n := 13) (S := fun w' => True) (ds := []) #[false, false, false, false, false, false, false, false, false, false, false, false, false] (by kernel_rfl) rfl rfl trivial (fun hHeld => ?_); refine with_tabW rsort_tab9 rsort_bits9 (fun HT_ HW_ => ?_)
          generalize wz.drew = w43 at HB HR239 HR249 hHeld ⊢
          refine pure_ (i := 0) (N := some 34) (v := ?_) (a' := ?_) #[true, false, false, false, false, false, false, false, false, false, false, false, false] rfl rfl (any_of HT_.out (by kernel_rfl)) (fun _ _ _ h => h) (Or.inl ⟨by rfl, ?_⟩) ?_ ?_
          rotate_left
          · intro w'
            go_simp
            with_reducible rfl
          rotate_left
          · simp only [Act.put, List.setIfInBounds_toArray, List.set_cons_zero, List.set_cons_succ, i64_w, i32_w]
            rfl
          refine pure_ (i := 1) (N := some 35) (v := ?_) (a' := ?_) #[true, true, false, false, false, false, false, false, false, false, false, false, false] rfl rfl (any_of HT_.out (by kernel_rfl)) (fun _ _ _ h => h) (Or.inl ⟨by rfl, ?_⟩) ?_ ?_
          rotate_left
          · intro w'
            go_simp
            with_reducible rfl
          rotate_left
          · simp only [Act.put, List.setIfInBounds_toArray, List.set_cons_zero, List.set_cons_succ, i64_w, i32_w]
            rfl
          refine pure_ (i := 2) (N := some 36) (v := ?_) (a' := ?_) #[true, true, true, false, false, false, false, false, false, false, false, false, false] rfl rfl (any_of HT_.out (by kernel_rfl)) (fun _ _ _ h => h) (Or.inl ⟨by rfl, ?_⟩) ?_ ?_
          rotate_left
          · intro w'
            go_simp
            with_reducible rfl
          rotate_left
          · simp only [Act.put, List.setIfInBounds_toArray, List.set_cons_zero, List.set_cons_succ, i64_w, i32_w]
            rfl
          refine pure_ (i := 3) (N := some 37) (v := ?_) (a' := ?_) #[true, true, true, true, false, false, false, false, false, false, false, false, false] rfl rfl (any_of HT_.out (by kernel_rfl)) (fun _ _ _ h => h) (Or.inl ⟨by rfl, ?_⟩) ?_ ?_
          rotate_left
          · intro w'
            go_simp
            with_reducible rfl
          rotate_left
          · simp only [Act.put, List.setIfInBounds_toArray, List.set_cons_zero, List.set_cons_succ, i64_w, i32_w]
            rfl
          refine pure_ (i := 5) (N := some 39) (v := ?_) (a' := ?_) #[true, true, true, true, false, true, false, false, false, false, false, false, false] rfl rfl (any_of HT_.out (by kernel_rfl)) (fun _ _ _ h => h) (Or.inl ⟨by rfl, ?_⟩) ?_ ?_
          rotate_left
          · intro w'
            go_simp
            with_reducible rfl
          rotate_left
          · simp only [Act.put, List.setIfInBounds_toArray, List.set_cons_zero, List.set_cons_succ, i64_w, i32_w]
            rfl
          refine pure_ (i := 8) (N := some 42) (v := ?_) (a' := ?_) #[true, true, true, true, false, true, false, false, true, false, false, false, false] rfl rfl (any_of HT_.out (by kernel_rfl)) (fun _ _ _ h => h) (Or.inl ⟨by rfl, ?_⟩) ?_ ?_
          rotate_left
          · intro w'
            go_simp
            with_reducible rfl
          rotate_left
          · simp only [Act.put, List.setIfInBounds_toArray, List.set_cons_zero, List.set_cons_succ, i64_w, i32_w]
            rfl
          refine pure_ (i := 9) (N := some 43) (v := ?_) (a' := ?_) #[true, true, true, true, false, true, false, false, true, true, false, false, false] rfl rfl (any_of HT_.out (by kernel_rfl)) (fun _ _ _ h => h) (Or.inl ⟨by rfl, ?_⟩) ?_ ?_
          rotate_left
          · intro w'
            go_simp
            with_reducible rfl
          rotate_left
          · simp only [Act.put, List.setIfInBounds_toArray, List.set_cons_zero, List.set_cons_succ, i64_w, i32_w]
            rfl
          refine pure_ (i := 10) (N := some 44) (v := ?_) (a' := ?_) #[true, true, true, true, false, true, false, false, true, true, true, false, false] rfl rfl (any_of HT_.out (by kernel_rfl)) (fun _ _ _ h => h) (Or.inl ⟨by rfl, ?_⟩) ?_ ?_
          rotate_left
          · intro w'
            go_simp
            with_reducible rfl
          rotate_left
          · simp only [Act.put, List.setIfInBounds_toArray, List.set_cons_zero, List.set_cons_succ, i64_w, i32_w]
            rfl
          refine join_ (σ := Value × Value) 3 #[true, true, true, true, true, true, true, false, true, true, true, false, false] (fun s_ => [(38, s_.1), (40, s_.2)]) (fun s_ w' => (Kd.R (Kd.int .i64) 3 w' wz.heap.size (fun k_ => some k_ ≠ (s_.2 : Value).ownBlock) s_.1 y240) ∧ (Kd.R (Kd.int .i64) 3 w' wz.heap.size (fun k_ => some k_ ≠ (s_.1 : Value).ownBlock) s_.2 y243) ∧ (Below wz.heap.size wz w')) ?_ ?_
          rotate_left
          · intro hCont
            refine two_ (i := 4) (j := 6) (Ni := some 38) (Nj := some 40) #[true, true, true, true, true, true, false, false, true, true, true, false, false] #[true, true, true, true, false, true, true, false, true, true, true, false, false] rfl rfl rfl rfl (two_of HT_.out (by kernel_rfl)) (by decide) (by decide) (fun K hK => ?_) (fun K hK => ?_)
            · skip
              refine Kd.R_append_rows_step (Kd.int .i64) (w0 := wz) wz.heap.size (by rfl) (.tmp 34) (.tmp 37) 27 3 (.int .i64 0) 8 rfl Try.underlying27 info3 rfl (by decide) (by omega) (.slice none 0 0) ([] : List Int) (l1.take (ci : Int).toNat) _ _ _ (fun _ => True) (fun _ => False) rfl rfl ?aO ?aR (fun _ _ h => h) (fun _ h => h.elim) ?aF ?aB ?aS ?aL ?_
              (case aR => first | exact (Kd.C_below HR239.out HB.out) | exact (Kd.C_drew (Kd.C_below HR239.out HB.out)) | (refine (show ∀ {E_ : Type} {R_ : E_ → List Value → Prop} {s_ : Nat} {w_ : World} {A_ : Option Addr} {n_ m_ : Nat} {x_ : List E_}, n_ = m_ → ReadsRow R_ s_ w_ A_ n_ x_ → ReadsRow R_ s_ w_ A_ m_ x_ from fun h_ r_ => h_ ▸ r_) (show (l1.take (ci : Int).toNat).length = ci.toNat from (by rw [List.length_take]; have h_ : (ci : Int) ≤ (l1.length : Int) := of_decide_eq_true (by first | (with_reducible assumption) | assumption); omega)) ?_; repeat (first | exact (Kd.C_below HR239.out HB.out) | (with_reducible refine Kd.C_alloc ?_ _) | (with_reducible refine Kd.C_drewN ?_ _) | (with_reducible refine Kd.C_drew ?_))))
              (case aB => exact (by repeat (first | (with_reducible first | exact HB.out | apply below_alloc | apply pw_below_drewN | apply below_drew1) | exact HB.out)))
              (case aF => exact (fun _ _ => trivial))
              (case aO => exact ((Kd.R_nil _ _ _ _ (fun _ => True))))
              (case aS => exact (below_size (by repeat (first | (with_reducible first | exact HB.out | apply below_alloc | apply pw_below_drewN | apply below_drew1) | exact HB.out))))
              (case aL => have := LMc37.out; have hlx_ := (show (l1.take (ci : Int).toNat).length = ci.toNat from (by rw [List.length_take]; have h_ : (ci : Int) ≤ (l1.length : Int) := of_decide_eq_true (by first | (with_reducible assumption) | assumption); omega)); omega)
              intro v241 w46 ho hb hg hat
              rw [← Ny240.out] at ho
              have n0_ := Aside0.mk (hb)
              have n1_ := Aside0.mk (ho)
              clear HB
              have HB := n0_
              have HO242 := n1_
              clear n0_ n1_
              clear ho hb hg hat
              refine hK.out _ _ trivial (fun hHeld => ?_)
              clear hK K
              refine norm_ (a' := ?_) ?_ ?_
              rotate_left
              · show Act.put _ (some 38) _ = _
                simp only [Act.put, List.setIfInBounds_toArray, List.set_cons_zero, List.set_cons_succ, i64_w, i32_w]
                rfl
              refine one_ (i := 6) (N := some 40) #[true, true, true, true, true, true, true, false, true, true, true, false, false] rfl rfl (one_of HT_.out (by kernel_rfl)) (by decide) (fun K hK => ?_)
              refine Kd.R_lit_step (Kd.int .i64) _ 3 ?hg (N := 40) ?hd (xs := ([(j : Int)] : List Int)) (inner := [.int .i64 (j : Int)]) (ok := fun _ => True) (okp := fun _ => True) ?hr ?hp (fun _ hk => hk) trivial (Below.refl _ _) (Nat.le_refl _) (by simp) ?_; (case hd => rfl); (case hg => rfl); (case hr => first | (go_simp; done) | (go_simp; rfl)); (case hp => exact (Reps.one (show Kd.M (Kd.int .i64) _ _ _ (j : Int) [.int .i64 (j : Int)] from rfl) (Reps.none _ _)))
              intro v244 w47 ho48 hb hg_ hnew_
              clear hg_ hnew_
              (first | rw [← Ny243.out] at ho48 | (simp only [Int.reduceToNat] at ho48; rw [← Ny243.out] at ho48))
              have n0_ := Aside0.mk (Kd.R_elder' (by (with_reducible repeat (first | apply Kd.R_alloc | apply Kd.R_drewN | apply Kd.R_drew)); exact HO242.out) (Kd.R_base ho48) hb)
              have n1_ := Aside0.mk (Kd.R_lower (Kd.R_new' ho48 (Kd.R_lt (by (with_reducible repeat (first | apply Kd.R_alloc | apply Kd.R_drewN | apply Kd.R_drew)); exact HO242.out))) (below_size (by repeat (first | (with_reducible first | exact HB.out | apply below_alloc | apply pw_below_drewN | apply below_drew1) | exact HB.out))))
              have n2_ := Aside0.mk (below_step (by repeat (first | (with_reducible first | exact HB.out | apply below_alloc | apply pw_below_drewN | apply below_drew1) | exact HB.out)) hb)
              clear HO242
              clear HB
              have HO242 := n0_
              have HO245 := n1_
              have HB := n2_
              clear n0_ n1_ n2_
              clear hb ho48
              refine hK.out _ _ trivial (fun hHeld => ?_)
              clear hK K
              refine norm_ (a' := ?_) ?_ ?_
              rotate_left
              · show Act.put _ (some 40) _ = _
                simp only [Act.put, List.setIfInBounds_toArray, List.set_cons_zero, List.set_cons_succ, i64_w, i32_w]
                rfl
              exact norm_ (by simp only [putAll, Act.put, List.setIfInBounds_toArray, List.set_cons_zero, List.set_cons_succ]) (hCont (v241, v244) _ ⟨(by (with_reducible repeat (first | apply Kd.R_alloc | apply Kd.R_drewN | apply Kd.R_drew)); exact Kd.R_mono HO242.out (fun _ hk => hk.2)), (by (with_reducible repeat (first | apply Kd.R_alloc | apply Kd.R_drewN | apply Kd.R_drew)); exact Kd.R_mono HO245.out (fun _ hk => hk.2)), (by repeat (first | (with_reducible first | exact HB.out | apply below_alloc | apply pw_below_drewN | apply below_drew1) | exact HB.out))⟩)
            · skip
              refine Kd.R_lit_step (Kd.int .i64) _ 3 ?hg (N := 40) ?hd (xs := ([(j : Int)] : List Int)) (inner := [.int .i64 (j : Int)]) (ok := fun _ => True) (okp := fun _ => True) ?hr ?hp (fun _ hk => hk) trivial (Below.refl _ _) (Nat.le_refl _) (by simp) ?_; (case hd => rfl); (case hg => rfl); (case hr => first | (go_simp; done) | (go_simp; rfl)); (case hp => exact (Reps.one (show Kd.M (Kd.int .i64) _ _ _ (j : Int) [.int .i64 (j : Int)] from rfl) (Reps.none _ _)))
              intro v244 w46 ho47 hb hg_ hnew_
              clear hg_ hnew_
              (first | rw [← Ny243.out] at ho47 | (simp only [Int.reduceToNat] at ho47; rw [← Ny243.out] at ho47))
              have n0_ := Aside0.mk (Kd.R_lower ho47 (below_size (by repeat (first | (with_reducible first | exact HB.out | apply below_alloc | apply pw_below_drewN | apply below_drew1) | exact HB.out))))
              have n1_ := Aside0.mk (below_step (by repeat (first | (with_reducible first | exact HB.out | apply below_alloc | apply pw_below_drewN | apply below_drew1) | exact HB.out)) hb)
              clear HB
              have HO245 := n0_
              have HB := n1_
              clear n0_ n1_
              clear hb ho47
              refine hK.out _ _ trivial (fun hHeld => ?_)
              clear hK K
              refine norm_ (a' := ?_) ?_ ?_
              rotate_left
              · show Act.put _ (some 40) _ = _
                simp only [Act.put, List.setIfInBounds_toArray, List.set_cons_zero, List.set_cons_succ, i64_w, i32_w]
                rfl
              refine one_ (i := 4) (N := some 38) #[true, true, true, true, true, true, true, false, true, true, true, false, false] rfl rfl (one_of HT_.out (by kernel_rfl)) (by decide) (fun K hK => ?_)
              refine Kd.R_append_rows_step (Kd.int .i64) (w0 := wz) wz.heap.size (by rfl) (.tmp 34) (.tmp 37) 27 3 (.int .i64 0) 8 rfl Try.underlying27 info3 rfl (by decide) (by omega) (.slice none 0 0) ([] : List Int) (l1.take (ci : Int).toNat) _ _ _ (fun k_ => some k_ ≠ (v244 : Value).ownBlock) (fun _ => False) rfl rfl ?aO ?aR (fun _ _ h => h) (fun _ h => h.elim) ?aF ?aB ?aS ?aL ?_
              (case aR => first | exact (Kd.C_below HR239.out HB.out) | exact (Kd.C_drew (Kd.C_below HR239.out HB.out)) | (refine (show ∀ {E_ : Type} {R_ : E_ → List Value → Prop} {s_ : Nat} {w_ : World} {A_ : Option Addr} {n_ m_ : Nat} {x_ : List E_}, n_ = m_ → ReadsRow R_ s_ w_ A_ n_ x_ → ReadsRow R_ s_ w_ A_ m_ x_ from fun h_ r_ => h_ ▸ r_) (show (l1.take (ci : Int).toNat).length = ci.toNat from (by rw [List.length_take]; have h_ : (ci : Int) ≤ (l1.length : Int) := of_decide_eq_true (by first | (with_reducible assumption) | assumption); omega)) ?_; repeat (first | exact (Kd.C_below HR239.out HB.out) | (with_reducible refine Kd.C_alloc ?_ _) | (with_reducible refine Kd.C_drewN ?_ _) | (with_reducible refine Kd.C_drew ?_))))
              (case aB => exact (by repeat (first | (with_reducible first | exact HB.out | apply below_alloc | apply pw_below_drewN | apply below_drew1) | exact HB.out)))
              (case aF => exact (fun k_ hk => Kd.fresh' (Kd.R_lt (by (with_reducible repeat (first | apply Kd.R_alloc | apply Kd.R_drewN | apply Kd.R_drew)); exact HO245.out)) k_ hk))
              (case aO => exact ((Kd.R_nil _ _ _ _ (fun k_ => some k_ ≠ (v244 : Value).ownBlock))))
              (case aS => exact (below_size (by repeat (first | (with_reducible first | exact HB.out | apply below_alloc | apply pw_below_drewN | apply below_drew1) | exact HB.out))))
              (case aL => have := LMc37.out; have hlx_ := (show (l1.take (ci : Int).toNat).length = ci.toNat from (by rw [List.length_take]; have h_ : (ci : Int) ≤ (l1.length : Int) := of_decide_eq_true (by first | (with_reducible assumption) | assumption); omega)); omega)
              intro v241 w48 ho hb hg hat
              rw [← Ny240.out] at ho
              have n0_ := Aside0.mk (Kd.R_after (Kd.R_apart_nil (by (with_reducible repeat (first | apply Kd.R_alloc | apply Kd.R_drewN | apply Kd.R_drew)); exact HO245.out)) hg hat)
              have n1_ := Aside0.mk (hb)
              have n2_ := Aside0.mk (ho)
              clear HO245
              clear HB
              have HO245 := n0_
              have HB := n1_
              have HO242 := n2_
              clear n0_ n1_ n2_
              clear ho hb hg hat
              refine hK.out _ _ trivial (fun hHeld => ?_)
              clear hK K
              refine norm_ (a' := ?_) ?_ ?_
              rotate_left
              · show Act.put _ (some 38) _ = _
                simp only [Act.put, List.setIfInBounds_toArray, List.set_cons_zero, List.set_cons_succ, i64_w, i32_w]
                rfl
              exact norm_ (by simp only [putAll, Act.put, List.setIfInBounds_toArray, List.set_cons_zero, List.set_cons_succ]) (hCont (v241, v244) _ ⟨(by (with_reducible repeat (first | apply Kd.R_alloc | apply Kd.R_drewN | apply Kd.R_drew)); exact HO242.out), (by (with_reducible repeat (first | apply Kd.R_alloc | apply Kd.R_drewN | apply Kd.R_drew)); exact Kd.R_mono HO245.out (fun _ hk => hk.2)), (by repeat (first | (with_reducible first | exact HB.out | apply below_alloc | apply pw_below_drewN | apply below_drew1) | exact HB.out))⟩)
          rintro ⟨v241, v244⟩ w49 ⟨h0_, h1_, h2_⟩
          have n0_ : Aside0 (Kd.R (Kd.int .i64) 3 w49 wz.heap.size (fun k_ => some k_ ≠ (v244 : Value).ownBlock) v241 y240) := ⟨h0_⟩
          have n1_ : Aside0 (Kd.R (Kd.int .i64) 3 w49 wz.heap.size (fun k_ => some k_ ≠ (v241 : Value).ownBlock) v244 y243) := ⟨h1_⟩
          have n2_ : Aside0 (Below wz.heap.size wz w49) := ⟨h2_⟩
          clear HB
          clear h0_ h1_ h2_
          have HO242 := n0_
          have HO245 := n1_
          have HB := n2_
          clear n0_ n1_ n2_
          have hHeld := trivial
          obtain ⟨Ao51, co51, eo51⟩ := Kd.R_slice HO245.out
          (first | subst eo51 | (injection eo51 with f1_ f2_ f3_; have f4_ := f1_.symm; have f5_ := f3_.symm; clear f1_ f2_ f3_; subst f4_; subst f5_))
          refine norm_ (a' := ?_) ?_ ?_
          rotate_left
          · simp only [putAll, Act.put, List.setIfInBounds_toArray, List.set_cons_zero, List.set_cons_succ]
            rfl
          refine one_ (i := 7) (N := some 41) #[true, true, true, true, true, true, true, true, true, true, true, false, false] rfl rfl (one_of HT_.out (by kernel_rfl)) (by decide) (fun K hK => ?_)
          refine Kd.R_append_rows_step (Kd.int .i64) (w0 := wz) wz.heap.size (by rfl) (.tmp 38) (.tmp 40) 27 3 (.int .i64 0) 8 rfl Try.underlying27 info3 rfl (by decide) (by omega) v241 y240 y243 _ _ _ (fun k_ => some k_ ≠ (.slice Ao51 y243.length co51 : Value).ownBlock) (fun _ => False) rfl rfl ?aO ?aR (fun _ _ h => h) (fun _ h => h.elim) ?aF ?aB ?aS ?aL ?_
          (case aR => repeat (first | exact (Kd.R_reads' HO245.out).2.2 | (with_reducible refine Kd.C_alloc ?_ _) | (with_reducible refine Kd.C_drewN ?_ _) | (with_reducible refine Kd.C_drew ?_)))
          (case aB => exact (by repeat (first | (with_reducible first | exact HB.out | apply below_alloc | apply pw_below_drewN | apply below_drew1) | exact HB.out)))
          (case aF => exact (fun k_ hk => Kd.fresh' (Kd.R_lt (by (with_reducible repeat (first | apply Kd.R_alloc | apply Kd.R_drewN | apply Kd.R_drew)); exact HO245.out)) k_ hk))
          (case aO => exact (by (with_reducible repeat (first | apply Kd.R_alloc | apply Kd.R_drewN | apply Kd.R_drew)); exact HO242.out))
          (case aS => exact (below_size (by repeat (first | (with_reducible first | exact HB.out | apply below_alloc | apply pw_below_drewN | apply below_drew1) | exact HB.out))))
          (case aL => have := LMc38.out; omega)
          intro v247 w50 ho hb hg hat
          rw [← Ny246.out] at ho
          have n0_ := Aside0.mk (Kd.R_after (ok := (fun _ => True)) (by (with_reducible repeat (first | apply Kd.R_alloc | apply Kd.R_drewN | apply Kd.R_drew)); exact Kd.R_mono HO245.out (fun _ hk => ⟨trivial, hk⟩)) hg hat)
          have n1_ := Aside0.mk (hb)
          have n2_ := Aside0.mk (ho)
          clear HO245
          clear HB
          clear HO242
          have HO245 := n0_
          have HB := n1_
          have HO248 := n2_
          clear n0_ n1_ n2_
          clear ho hb hg hat
          refine hK.out _ _ trivial (fun hHeld => ?_)
          clear hK K
          refine norm_ (a' := ?_) ?_ ?_
          rotate_left
          · show Act.put _ (some 41) _ = _
            simp only [Act.put, List.setIfInBounds_toArray, List.set_cons_zero, List.set_cons_succ, i64_w, i32_w]
            rfl
          refine one_ (i := 11) (N := some 45) #[true, true, true, true, true, true, true, true, true, true, true, true, false] rfl rfl (one_of HT_.out (by kernel_rfl)) (by decide) (fun K hK => ?_)
          refine Kd.R_append_rows_step (Kd.int .i64) (w0 := wz) wz.heap.size (by rfl) (.tmp 41) (.tmp 44) 27 3 (.int .i64 0) 8 rfl Try.underlying27 info3 rfl (by decide) (by omega) v247 y246 (l1.drop (ci : Int).toNat) _ _ _ (fun k_ => some k_ ≠ (.slice Ao51 y243.length co51 : Value).ownBlock) (fun _ => False) rfl rfl ?aO ?aR (fun _ _ h => h) (fun _ h => h.elim) ?aF ?aB ?aS ?aL ?_
          (case aR => first | exact (Kd.C_below HR249.out HB.out) | exact (Kd.C_drew (Kd.C_below HR249.out HB.out)) | (refine (show ∀ {E_ : Type} {R_ : E_ → List Value → Prop} {s_ : Nat} {w_ : World} {A_ : Option Addr} {n_ m_ : Nat} {x_ : List E_}, n_ = m_ → ReadsRow R_ s_ w_ A_ n_ x_ → ReadsRow R_ s_ w_ A_ m_ x_ from fun h_ r_ => h_ ▸ r_) (show (l1.drop (ci : Int).toNat).length = (l1.length - ci.toNat) from List.length_drop) ?_; repeat (first | exact (Kd.C_below HR249.out HB.out) | (with_reducible refine Kd.C_alloc ?_ _) | (with_reducible refine Kd.C_drewN ?_ _) | (with_reducible refine Kd.C_drew ?_))))
          (case aB => exact (by repeat (first | (with_reducible first | exact HB.out | apply below_alloc | apply pw_below_drewN | apply below_drew1) | exact HB.out)))
          (case aF => exact (fun k_ hk => Kd.fresh' (Kd.R_lt (by (with_reducible repeat (first | apply Kd.R_alloc | apply Kd.R_drewN | apply Kd.R_drew)); exact HO245.out)) k_ hk))
          (case aO => exact (by (with_reducible repeat (first | apply Kd.R_alloc | apply Kd.R_drewN | apply Kd.R_drew)); exact HO248.out))
          (case aS => exact (below_size (by repeat (first | (with_reducible first | exact HB.out | apply below_alloc | apply pw_below_drewN | apply below_drew1) | exact HB.out))))
          (case aL => have := LMc41.out; have hlx_ := (show (l1.drop (ci : Int).toNat).length = (l1.length - ci.toNat) from List.length_drop); omega)
          intro v251 w52 ho hb hg hat
          rw [← Ny250.out] at ho
          have n0_ := Aside0.mk (Kd.R_after (ok := (fun _ => True)) (by (with_reducible repeat (first | apply Kd.R_alloc | apply Kd.R_drewN | apply Kd.R_drew)); exact HO245.out) hg hat)
          have n1_ := Aside0.mk (hb)
          have n2_ := Aside0.mk (ho)
          clear HO245
          clear HB
          clear HO248
          have HO245 := n0_
          have HB := n1_
          have HO252 := n2_
          clear n0_ n1_ n2_
          clear ho hb hg hat
          refine hK.out _ _ trivial (fun hHeld => ?_)
          clear hK K
          refine norm_ (a' := ?_) ?_ ?_
          rotate_left
          · show Act.put _ (some 45) _ = _
            simp only [Act.put, List.setIfInBounds_toArray, List.set_cons_zero, List.set_cons_succ, i64_w, i32_w]
            rfl
          refine pure_ (i := 12) (N := some 6) (v := ?_) (a' := ?_) #[true, true, true, true, true, true, true, true, true, true, true, true, true] rfl rfl (any_of HT_.out (by kernel_rfl)) (fun _ _ _ h => h) (Or.inl ⟨by rfl, ?_⟩) ?_ ?_
          rotate_left
          · intro w'
            go_simp
            with_reducible rfl
          rotate_left
          · simp only [Act.put, List.setIfInBounds_toArray, List.set_cons_zero, List.set_cons_succ, i64_w, i32_w]
            rfl
          refine done_ (done_of HT_.out (by kernel_rfl)) ?_
          go_wp2
          go_roundw
          case rel => exact ⟨j + 1, v251, by omega, by go_num, rfl, ⟨by rw [← HY.out]; exact Kd.R_lower (Kd.R_mono HO252.out (fun _ _ => trivial)) (Nat.le_trans HBW.out.size HBZ.out.size)⟩, ⟨(HBW.out.trans (HBZ.out.mono HBW.out.size)).trans (HB.out.mono (Nat.le_trans HBW.out.size HBZ.out.size))⟩⟩
          case measure => simp [intOf]; omega
    · have hd : decide (j < ss.length) = false := decide_eq_false hl
      obtain rfl : j = ss.length := by omega
      go_wp2
      go_ret
      exact ⟨nx, rfl, HNX.out, HBW.out⟩

end Go.Proofs.Ytajinnlaajhoeaa.Pure
