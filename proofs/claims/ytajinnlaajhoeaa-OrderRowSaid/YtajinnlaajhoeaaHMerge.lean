/- Runs merged two by two. -/
import Derived.Test.YtajinnlaajhoeaaPAllx1
import Derived.Test.YtajinnlaajhoeaaPAllx2
import Derived.Test.YtajinnlaajhoeaaPAllx3
import Derived.Test.YtajinnlaajhoeaaPAllx4
import Derived.Test.YtajinnlaajhoeaaPAllx5
import Derived.Test.YtajinnlaajhoeaaHKit
import Derived.Lib.AppendZerosOnto
import Derived.Lib.Walk
import Derived.StillTailTactics
import Derived.BigQuiet
import Derived.Deep.QuietTactic
import Derived.Laws.IdiomStrings
import Derived.Outline
import Derived.OwnWalk
import Derived.MapKept
import Derived.Deep.RegionHeld3
import Derived.Deep.RegionLaw
import Derived.Deep.AppendLies
import Derived.Deep.DrawnRows
namespace Go.Proofs.Ytajinnlaajhoeaa.Pure
open Go.RowKit Go.Proofs.Ytajinnlaajhoeaa.PAll Go.Proofs.YtajinnlaajhoeaaW.PrintWords Go.Proofs.YtajinnlaajhoeaaW.PrintLast Go.Proofs.YtajinnlaajhoeaaW.PrintMore
set_option linter.unusedVariables false
set_option linter.unusedSimpArgs false

/-! ### slices.Grow of nothing, slices.Concat -/
set_option maxHeartbeats 2000000 in
set_option maxRecDepth 100000 in
theorem grow_none (w : World) : Calls Try.prog 47 #[.slice none 0 0, .int .i64 0] w fun e w' => e = .returned (.slice none 0 0) ∧ w' = w := by
  go_enter Try.func47, Try.ntmps47
  go_wp2
  go_ret
  exact ⟨rfl, rfl⟩
theorem item_info : (Try.prog.info? 45).map (fun i => (i.zero, i.size, i.bytes)) = some (some (.agg #[.int .i64 0, .slice none 0 0]), 2, 32) := by kernel_rfl
set_option maxHeartbeats 2000000 in
set_option maxRecDepth 100000 in
theorem grow_some (n : Nat) (w : World) (h0 : 0 < n) (hn : n ≤ 1000000) : Calls Try.prog 47 #[.slice none 0 0, .int .i64 n] w fun e w' =>
    ∃ c cells, e = .returned (.slice (some ⟨w.heap.size, 0, none⟩) 0 c) ∧ w' = w.drew.alloc (.cells cells 45) ∧ cells.size = c * 2 ∧ n ≤ c ∧ c ≤ maxLen := by
  obtain ⟨i0, hi, hz0, hz1, hz2⟩ := info_parts item_info
  have hrun := fun ty => Lib.run_append_grow_zeros w 48 3 ty 45 i0 _ .i64 .i64 Try.underlying48 Try.underlying3 hi hz0 none 0 0 [] (run_firstCells_none w.drew i0.size 0 0 0) n h0 (by omega) (by omega) (by omega) (by rw [hz2]; omega) (growslice_fits (by omega) (by rw [hz2]; omega))
  generalize hcells : (#[] ++ Builtin.zeroCells (Value.agg #[Value.int IntKind.i64 0, Value.slice none 0 0]).cells n ++ Builtin.zeroCells (Value.agg #[Value.int IntKind.i64 0, Value.slice none 0 0]).cells (grownCap w (0 + n) 0 45 - (0 + n)) : Array Value) = cells at hrun
  have hsz : cells.size = grownCap w n 0 45 * 2 := by
    rw [← hcells]
    have hge := grownCap_ge w n 0 45
    rw [Nat.zero_add, Array.size_append, Array.size_append, size_zeroCells, size_zeroCells]
    show 0 + n * 2 + (grownCap w n 0 45 - n) * 2 = _
    omega
  have hge := grownCap_ge w n 0 45
  have hmx := grownCap_le_maxLen w n 0 45 (by unfold maxLen; omega)
  rw [Nat.zero_add] at hrun
  generalize grownCap w n 0 45 = G at hrun hsz hge hmx
  have hm2 : G ≤ 9223372036854775807 := by unfold maxLen at hmx; omega
  have HR := Aside0.mk hrun
  clear hrun hcells hi hz0 hz1 hz2
  have h1 : ¬ ((n : Int) < 0) := by omega
  have h2 : decide ((0 : Int) < (n : Int)) = true := decide_eq_true (by omega)
  have h3 : IntKind.i64.wrap (n : Int) = n := by simp [IntKind.wrap, IntKind.bits, IntKind.signed]; omega
  have h4 : (0 : Int) ≤ (G : Int) := by omega
  go_enter Try.func47, Try.ntmps47
  go_wp2_with (at_builtin; refine Lib.wpList_append_run _ rfl _ _ _ _ rfl _ _ rfl rfl _ _ (HR.out _) ?_)
  go_ret
  exact ⟨G, rfl, cells, rfl, hsz, hge, hmx⟩
theorem wrap_add (a b : Nat) (h : a + b ≤ 1000000000) : IntKind.i64.wrap ((a : Int) + (b : Int)) = (a : Int) + (b : Int) := by
  simp [IntKind.wrap, IntKind.bits, IntKind.signed]
  omega
theorem R_fresh0 {α : Type} (d : Kd α) (e base c : Nat) (cells : Array Value) (w : World) (hs : cells.size = c * d.sz) (hc : c ≤ maxLen) (hb : base ≤ w.heap.size) : d.R e (w.alloc (.cells cells e)) base (fun _ => True) (.slice (some ⟨w.heap.size, 0, none⟩) 0 c) [] :=
  ⟨fun _ _ => trivial, [], World.ownsRow_made w cells c hb hc hs, Reps.none _ _⟩
theorem grow_any (n : Nat) (w w0 : World) (hn : n ≤ 1000000) : Calls Try.prog 47 #[.slice none 0 0, .int .i64 n] w fun e w' =>
    ∃ v, e = .returned v ∧ Kd.R (Kd.fixed k45 w0) 45 w' w.heap.size (fun _ => True) v [] ∧ Below w.heap.size w w' := by
  by_cases h : n = 0
  · subst h
    refine (grow_none w).mono ?_
    rintro e w' ⟨rfl, rfl⟩
    exact ⟨_, rfl, Kd.R_nil _ _ _ _ _, Below.refl _ _⟩
  · refine (grow_some n w (by omega) hn).mono ?_
    rintro e w' ⟨c, cells, rfl, rfl, h1, h2, h3⟩
    refine ⟨_, rfl, R_fresh0 (Kd.fixed k45 w0) _ _ c cells w.drew h1 h3 (Nat.le_refl _), ?_⟩
    exact below_alloc (below_drew (Below.refl _ _)) _
theorem drop_getD {α : Type} (d : α) : ∀ (l : List α) (k : Nat), k < l.length → l.drop k = l.getD k d :: l.drop (k + 1)
  | [], k, h => by simp at h
  | x :: l, 0, _ => rfl
  | x :: l, k + 1, h => by
    have := drop_getD d l k (by simpa using h)
    simpa using this
def totN (ls : List (List S45)) : Nat := (ls.map List.length).sum
theorem totN_flat (ls : List (List S45)) : ls.flatten.length = totN ls := by simp [totN, List.length_flatten]
theorem flat_take (ls : List (List S45)) (k : Nat) (h : k < ls.length) : (ls.take (k + 1)).flatten = (ls.take k).flatten ++ rd_L7 ls k := by
  have : ls.take (k + 1) = ls.take k ++ [rd_L7 ls k] := by
    rw [List.take_add_one, List.getElem?_eq_getElem h]
    unfold rd_L7
    rw [Int.toNat_natCast, List.getD_eq_getElem?_getD, List.getElem?_eq_getElem h]
    rfl
  rw [this, List.flatten_append]
  simp
theorem flat_take_le (ls : List (List S45)) (k : Nat) : (ls.take k).flatten.length ≤ ls.flatten.length := by
  have : ls.flatten = (ls.take k).flatten ++ (ls.drop k).flatten := by rw [← List.flatten_append, List.take_append_drop]
  rw [this, List.length_append]
  omega
theorem at_L7f {w w0 : World} {A : Option Addr} {n : Nat} {xs : List (List S45)} (h : Kd.C (Kd.slice 45 (Kd.fixed k45 w0)) w A n xs) (i : Int) (h0 : 0 ≤ i) (h1 : i < n) : ∃ ad A0 c0, A = some ad ∧ w.cell? (ad.add i.toNat) = some (.slice A0 (rd_L7 xs i).length c0) ∧ (rd_L7 xs i).length ≤ c0 ∧ (Kd.fixed k45 w0).C w A0 (rd_L7 xs i).length (rd_L7 xs i) := by
  obtain ⟨ad, c, e, _, hK, hc0⟩ := Kd.C_get h ([] : List S45) i h0 h1
  have hc : ∀ j u, c[j]? = some u → w.cell? (ad.add (i.toNat * 1 + j)) = some u := hc0
  obtain ⟨A0, c0, rfl, l0, g0⟩ := hK
  exact ⟨ad, A0, c0, e, by have hq := hc 0 _ rfl; rwa [Nat.mul_one, Nat.add_zero] at hq, l0, g0⟩
set_option maxHeartbeats 8000000 in
set_option maxRecDepth 100000 in
theorem concat_any (A : Option Addr) (cap : Nat) (ls : List (List S45)) (w w0 : World) (hr : Kd.C (Kd.slice 45 (Kd.fixed k45 w0)) w A ls.length ls) (hc : ls.length ≤ cap) (hl : ls.flatten.length ≤ 1000000) (hn : ls.length ≤ 1000000) :
    Calls Try.prog 38 #[.slice A ls.length cap] w fun e w' => ∃ v, e = .returned v ∧ Kd.R (Kd.fixed k45 w0) 45 w' w.heap.size (fun _ => True) v ls.flatten ∧ Below w.heap.size w w' := by
  have HR := Aside0.mk hr
  clear hr
  go_enter Try.func38, Try.ntmps38
  go_wp2
  go_loopw [3, 11] (fun s i wr => ∃ k : Nat, k ≤ ls.length ∧ i = .int .i64 k ∧ s = .int .i64 ((ls.take k).flatten.length : Int) ∧ w = wr) (fun _ i _ => ls.length - (intOf i).toNat)
  case atStart => exact ⟨0, Nat.zero_le _, rfl, rfl, rfl⟩
  case round =>
    obtain ⟨k, hk, rfl, rfl, rfl⟩ := hrel
    have hle := flat_take_le ls k
    by_cases hlt : k < ls.length
    · have hd1 : decide (k < ls.length) = true := decide_eq_true hlt
      have hle2 := flat_take_le ls (k + 1)
      have hft := flat_take ls k hlt
      rw [hft, List.length_append] at hle2
      obtain ⟨ad, A0, c0, rfl, h1, h2, h3⟩ := at_L7f HR.out (k : Int) (by omega) (by omega)
      rw [Int.toNat_natCast] at h1
      have HE := Aside0.mk h3
      clear h3
      have hw1 := wrap_add ((ls.take k).flatten.length) ((rd_L7 ls k).length) (by omega)
      have hng : decide (((ls.take k).flatten.length : Int) + ((rd_L7 ls k).length : Int) < 0) = false := decide_eq_false (by omega)
      have hft2 : ((ls.take (k + 1)).flatten.length : Int) = ((ls.take k).flatten.length : Int) + ((rd_L7 ls k).length : Int) := by rw [hft, List.length_append]; omega
      generalize ((ls.take k).flatten.length : Int) = X at hw1 hng hft2
      go_wp2
      go_roundw
      case rel => exact ⟨k + 1, by omega, by go_num, by rw [hft2], by first | rfl | trivial⟩
      case measure => simp [intOf]; omega
    · have hd1 : decide (k < ls.length) = false := decide_eq_false hlt
      obtain rfl : k = ls.length := by omega
      rw [List.take_length]
      have hl2 := hl
      generalize ls.flatten.length = T at hl2 ⊢
      have HG := Aside0.mk (fun W => grow_any T W w0 hl2)
      clear hle hlt hd1
      go_wp2_with (go_at_call 47; (with_reducible refine (HG.out _).mono ?_); rintro e w1 ⟨v0, rfl, hr0, hb0⟩; have HR0 := Aside0.mk hr0; have HB0 := Aside0.mk hb0; clear hr0 hb0)
      go_loopw [6, 27] (fun v i w2 => ∃ (k : Nat) (v_ : Value), k ≤ ls.length ∧ i = .int .i64 k ∧ v_ = v ∧ Aside0 (Kd.R (Kd.fixed k45 w0) 45 w2 w.heap.size (fun _ => True) v_ (ls.take k).flatten) ∧ Aside0 (Below w.heap.size w w2)) (fun _ i _ => ls.length - (intOf i).toNat)
      case atStart => exact ⟨0, v0, Nat.zero_le _, rfl, rfl, HR0, HB0⟩
      case round =>
        obtain ⟨k, v_, hk2, rfl, rfl, HRk, HBk⟩ := hrel
        by_cases hlt : k < ls.length
        · have hd1 : decide (k < ls.length) = true := decide_eq_true hlt
          have hle2 := flat_take_le ls (k + 1)
          have hft := flat_take ls k hlt
          rw [hft, List.length_append] at hle2
          obtain ⟨ad, A0, c0, rfl, h1, h2, h3⟩ := at_L7f HR.out (k : Int) (by omega) (by omega)
          rw [Int.toNat_natCast] at h1
          have h1' := (HBk.out.cell (World.block_lt_of_cell? _ _ h1)).trans h1
          have HE := Aside0.mk (ReadsRow.imp_ h3 HBk.out (fun _ _ hp => hp))
          clear h1 h3
          have hlen : ((ls.take k).flatten.length + (rd_L7 ls k).length) * 32 ≤ 140737488355328 := by omega
          go_wp2_with ((with_reducible refine gate_dst (N := 33) rfl ?_); refine Kd.R_append_rows (Kd.fixed k45 w0) (w0 := w) w.heap.size rfl (.tmp 31) (.tmp 32) 48 45 (.agg #[.int .i64 0, .slice none 0 0]) 32 rfl Try.underlying48 item_info rfl (Nat.succ_pos 1) (Nat.succ_pos 31) v_ _ _ A0 _ c0 (fun _ => True) (fun _ => False) rfl rfl HRk.out HE.out (fun _ _ hp => hp) (fun _ hk => hk.elim) (fun _ _ => trivial) HBk.out HBk.out.size hlen ?_; intro v1 w3 hr3 hb3 hg3 hat3)
          go_roundw
          case rel => exact ⟨k + 1, v1, by omega, by go_num, rfl, ⟨by rw [hft]; exact hr3⟩, ⟨hb3⟩⟩
          case measure => simp [intOf]; omega
        · have hd1 : decide (k < ls.length) = false := decide_eq_false hlt
          obtain rfl : k = ls.length := by omega
          rw [List.take_length] at HRk
          go_wp2
          go_ret
          exact ⟨_, rfl, HRk.out, HBk.out⟩

/-! ### Runs merged two by two, plainly -/
def mg (lt : S45 → S45 → Bool) (a b : List S45) : List S45 := List.merge a b (fun x y => !lt y x)
def pairsV (lt : S45 → S45 → Bool) : List (List S45) → List (List S45)
  | a :: b :: r => mg lt a b :: pairsV lt r
  | [a] => [a]
  | [] => []
def mergeV (lt : S45 → S45 → Bool) : Nat → List (List S45) → List S45
  | _, [] => []
  | _, [r] => r
  | 0, _ => []
  | n + 1, a :: b :: rs => mergeV lt n (pairsV lt (a :: b :: rs))
theorem mg_perm (lt : S45 → S45 → Bool) (a b : List S45) : (mg lt a b).Perm (a ++ b) := List.merge_perm_append _
theorem mg_nil (lt : S45 → S45 → Bool) (b : List S45) : mg lt [] b = b := List.nil_merge b
theorem mg_nil2 (lt : S45 → S45 → Bool) (a : List S45) : mg lt a [] = a := List.merge_right a
theorem mg_b {lt : S45 → S45 → Bool} {x y : S45} (h : lt y x = true) (a b : List S45) : mg lt (x :: a) (y :: b) = y :: mg lt (x :: a) b := by
  unfold mg
  rw [List.cons_merge_cons, if_neg (by simp [h])]
theorem mg_a {lt : S45 → S45 → Bool} {x y : S45} (h : lt y x = false) (a b : List S45) : mg lt (x :: a) (y :: b) = x :: mg lt a (y :: b) := by
  unfold mg
  rw [List.cons_merge_cons, if_pos (by simp [h])]
theorem pairsV_snoc2 (lt : S45 → S45 → Bool) (a b : List S45) : ∀ (k : Nat) (l : List (List S45)), l.length = 2 * k → pairsV lt (l ++ [a, b]) = pairsV lt l ++ [mg lt a b]
  | 0, l, h => by
    have : l = [] := List.eq_nil_of_length_eq_zero (by omega)
    subst this
    rfl
  | k + 1, [], h => by simp at h
  | k + 1, [_], h => by simp at h; omega
  | k + 1, x :: y :: l, h => by
    have := pairsV_snoc2 lt a b k l (by simp at h; omega)
    show mg lt x y :: pairsV lt (l ++ [a, b]) = _
    rw [this]
    rfl
theorem pairsV_snoc1 (lt : S45 → S45 → Bool) (a : List S45) : ∀ (k : Nat) (l : List (List S45)), l.length = 2 * k → pairsV lt (l ++ [a]) = pairsV lt l ++ [a]
  | 0, l, h => by
    have : l = [] := List.eq_nil_of_length_eq_zero (by omega)
    subst this
    rfl
  | k + 1, [], h => by simp at h
  | k + 1, [_], h => by simp at h; omega
  | k + 1, x :: y :: l, h => by
    have := pairsV_snoc1 lt a k l (by simp at h; omega)
    show mg lt x y :: pairsV lt (l ++ [a]) = _
    rw [this]
    rfl
theorem pairsV_len (lt : S45 → S45 → Bool) : ∀ (k : Nat) (l : List (List S45)), l.length ≤ k → 2 * (pairsV lt l).length ≤ l.length + 1 ∧ (pairsV lt l).length ≤ l.length
  | _, [], _ => ⟨by simp [pairsV], Nat.le_refl _⟩
  | _, [_], _ => ⟨by simp [pairsV], Nat.le_refl _⟩
  | 0, _ :: _ :: _, h => by simp at h
  | k + 1, x :: y :: l, h => by
    have := pairsV_len lt k l (by simp at h; omega)
    simp only [pairsV, List.length_cons]
    omega
theorem pairsV_perm (lt : S45 → S45 → Bool) : ∀ (k : Nat) (l : List (List S45)), l.length ≤ k → (pairsV lt l).flatten.Perm l.flatten
  | _, [], _ => List.Perm.refl _
  | _, [_], _ => List.Perm.refl _
  | 0, _ :: _ :: _, h => by simp at h
  | k + 1, x :: y :: l, h => by
    have := pairsV_perm lt k l (by simp at h; omega)
    simp only [pairsV, List.flatten_cons]
    rw [← List.append_assoc]
    exact (mg_perm lt x y).append this
theorem take_two (ls : List (List S45)) (k : Nat) (h : k + 1 < ls.length) : ls.take (k + 2) = ls.take k ++ [rd_L7 ls k, rd_L7 ls ((k + 1 : Nat) : Int)] := by
  have h1 : ∀ j, j < ls.length → ls.take (j + 1) = ls.take j ++ [rd_L7 ls j] := fun j hj => by
    rw [List.take_add_one, List.getElem?_eq_getElem hj]
    unfold rd_L7
    rw [Int.toNat_natCast, List.getD_eq_getElem?_getD, List.getElem?_eq_getElem hj]
    rfl
  rw [h1 (k + 1) h, h1 k (by omega), List.append_assoc]
  rfl
theorem rd_mem (ls : List (List S45)) (k : Nat) (h : k < ls.length) : rd_L7 ls k ∈ ls := by
  unfold rd_L7
  rw [Int.toNat_natCast, List.getD_eq_getElem?_getD, List.getElem?_eq_getElem h]
  exact List.getElem_mem h
theorem len_le_flat {ls : List (List S45)} {r : List S45} (h : r ∈ ls) : r.length ≤ ls.flatten.length := by
  obtain ⟨a, b, rfl⟩ := List.append_of_mem h
  simp only [List.flatten_append, List.flatten_cons, List.length_append]
  omega
theorem mergeV_0 (lt : S45 → S45 → Bool) (N : Nat) (ls : List (List S45)) (h : ls.length = 0) : mergeV lt N ls = [] := by
  have : ls = [] := List.eq_nil_of_length_eq_zero h
  subst this
  cases N <;> rfl
theorem mergeV_1 (lt : S45 → S45 → Bool) (N : Nat) (ls : List (List S45)) (h : ls.length = 1) : mergeV lt N ls = rd_L7 ls 0 := by
  match ls, h with
  | [r], _ => cases N <;> rfl
theorem mergeV_2 (lt : S45 → S45 → Bool) (N : Nat) (ls : List (List S45)) (h : 2 ≤ ls.length) : mergeV lt (N + 1) ls = mergeV lt N (pairsV lt ls) := by
  match ls, h with
  | [_], h => simp at h
  | r :: q :: l, _ => rfl

/-! ### merge, walked -/
theorem C_fix {w : World} {A : Option Addr} {n : Nat} {xs : List S45} (h : Kd.C k45 w A n xs) : (Kd.fixed k45 w).C w A n xs := h
theorem C_fix2 {w : World} {A : Option Addr} {n : Nat} {xs : List (List S45)} (h : Kd.C (Kd.slice 45 k45) w A n xs) : (Kd.slice 45 (Kd.fixed k45 w)).C w A n xs := h
theorem C_unfix {w w' : World} (hb : Below w.heap.size w w') {A : Option Addr} {n : Nat} {xs : List S45} (h : (Kd.fixed k45 w).C w' A n xs) : Kd.C k45 w' A n xs :=
  ReadsRow.imp_ (R' := k45.K w') h (Below.refl _ _) (fun _ _ hp => k45.K_below hb hp)
theorem two_le {ls : List (List S45)} {I : Nat} {a b : List S45} (h : ls.take (I + 2) = ls.take I ++ [a, b]) : a.length + b.length ≤ ls.flatten.length := by
  have h1 := flat_take_le ls (I + 2)
  rw [h] at h1
  simp only [List.flatten_append, List.flatten_cons, List.flatten_nil, List.length_append, List.length_nil] at h1
  omega
theorem C_three (A0 A1 A2 : Option Addr) (x0 x1 x2 : List S45) (c0 c1 c2 : Nat) (w w0 : World) (h0 : x0.length ≤ c0) (h1 : x1.length ≤ c1) (h2 : x2.length ≤ c2) (g0 : (Kd.fixed k45 w0).C w A0 x0.length x0) (g1 : (Kd.fixed k45 w0).C w A1 x1.length x1) (g2 : (Kd.fixed k45 w0).C w A2 x2.length x2) :
    (Kd.slice 45 (Kd.fixed k45 w0)).C (w.alloc (.cells #[.slice A0 x0.length c0, .slice A1 x1.length c1, .slice A2 x2.length c2] 48)) (some ⟨w.heap.size, 0, none⟩) [x0, x1, x2].length [x0, x1, x2] := by
  have hb : Below w.heap.size w (w.alloc (.cells #[.slice A0 x0.length c0, .slice A1 x1.length c1, .slice A2 x2.length c2] 48)) := below_alloc (Below.refl _ _) _
  have hn := heap_alloc_new w (.cells #[.slice A0 x0.length c0, .slice A1 x1.length c1, .slice A2 x2.length c2] 48)
  have hcl : ∀ j u, (#[.slice A0 x0.length c0, .slice A1 x1.length c1, .slice A2 x2.length c2] : Array Value)[j]? = some u → (w.alloc (.cells #[.slice A0 x0.length c0, .slice A1 x1.length c1, .slice A2 x2.length c2] 48)).cell? ((⟨w.heap.size, 0, none⟩ : Addr).add j) = some u := fun j u hj => by
    rw [add_plain, cell_of_row _ _ _ _ _ _ hn]
    simpa using hj
  refine ⟨rfl, by simp, fun _ => ⟨_, rfl, fun j p hj => ?_⟩⟩
  match j, hj with
  | 0, hj =>
    obtain rfl : x0 = p := by simpa using hj
    exact ⟨[.slice A0 x0.length c0], rfl, ⟨A0, c0, rfl, h0, Kd.C_below g0 hb⟩, fun i u hi => by
      match i, hi with
      | 0, hi => exact hcl 0 u (by simpa using hi)⟩
  | 1, hj =>
    obtain rfl : x1 = p := by simpa using hj
    exact ⟨[.slice A1 x1.length c1], rfl, ⟨A1, c1, rfl, h1, Kd.C_below g1 hb⟩, fun i u hi => by
      match i, hi with
      | 0, hi => exact hcl 1 u (by simpa using hi)⟩
  | 2, hj =>
    obtain rfl : x2 = p := by simpa using hj
    exact ⟨[.slice A2 x2.length c2], rfl, ⟨A2, c2, rfl, h2, Kd.C_below g2 hb⟩, fun i u hi => by
      match i, hi with
      | 0, hi => exact hcl 2 u (by simpa using hi)⟩
theorem row_info : (Try.prog.info? 48).map (fun i => (i.zero, i.size, i.bytes)) = some (some (.slice none 0 0), 1, 24) := by kernel_rfl
theorem made_row {w wa w7 : World} {s : Nat} {v : Value} {xs : List S45} (h : (Kd.fixed k45 w).R 45 w7 wa.heap.size (fun _ => True) v xs) (hb : w.heap.size ≤ wa.heap.size) (hs : s ≤ wa.heap.size) : (Kd.mix 45 (Kd.fixed k45 w) (Kd.fixed k45 w) w).M w7 w.heap.size (fun k => s ≤ k) xs [v] :=
  Kd.mix_made (Kd.R_lower (Kd.R_mono (Kd.R_bound h) (fun k hk => Nat.le_trans hs hk.2.1)) hb)
theorem next_reads {w w' : World} {base : Nat} {ok : Nat → Prop} {v : Value} {xs : List (List S45)} (h : (Kd.mix 45 (Kd.fixed k45 w) (Kd.fixed k45 w) w).R 48 w' base ok v xs) (hb : Below w.heap.size w w') : ∃ A c, v = .slice A xs.length c ∧ xs.length ≤ c ∧ Kd.C (Kd.slice 45 k45) w' A xs.length xs := by
  obtain ⟨A, c, e, hl, hc⟩ := Kd.R_reads h
  refine ⟨A, c, e, hl, ReadsRow.imp_ (R' := (Kd.slice 45 k45).K w') hc (Below.refl _ _) (fun p cs hp => ?_)⟩
  obtain ⟨A1, c1, rfl, h1, h2⟩ := Kd.mix_read rfl (fun _ _ q => q) hb hp
  exact ⟨A1, c1, rfl, h1, C_unfix hb h2⟩
theorem below_drew1_ {w w' : World} (h : Below w.drew.heap.size w.drew w') : Below w.heap.size w w' := ⟨h.os, h.tape, h.output, h.size, h.block⟩
def lenV : Value → Nat
  | .slice _ n _ => n
  | _ => 0
/-- The first of a row of items. -/
theorem item_at {w w0 : World} {A : Option Addr} {x : S45} {xs : List S45} (h : (Kd.fixed k45 w0).C w A (x :: xs).length (x :: xs)) (hb : Below w0.heap.size w0 w) :
    ∃ ad A1 c1, A = some ad ∧ w.cell? (ad.add 0) = some (.int .i64 x.f0) ∧ w.cell? ⟨(ad.add 0).block, (ad.add 0).off + 1, none⟩ = some (.slice A1 x.f1.length c1) ∧ x.f1.length ≤ c1 ∧ (Kd.int .i32).C w A1 x.f1.length x.f1 ∧ k45.K w0 x [.int .i64 x.f0, .slice A1 x.f1.length c1] := by
  obtain ⟨ad, c, e, _, hK, hc0⟩ := Kd.C_get h z45 0 (by omega) (by simp)
  have hK' : k45.K w0 x c := hK
  have hc : ∀ j u, c[j]? = some u → w.cell? (ad.add (0 * 2 + j)) = some u := hc0
  obtain ⟨A1, c1, rfl, l1, g1⟩ := k45_open hK'
  refine ⟨ad, A1, c1, e, hc 0 _ rfl, ?_, l1, Kd.C_below g1 hb, hK'⟩
  rw [← add_field _ _ 1 (by omega)]
  exact hc 1 _ rfl
set_option maxHeartbeats 8000000 in
set_option maxRecDepth 100000 in
theorem merge_any (lt : S45 → S45 → Bool) (K : Nat) : ∀ (N : Nat) (A : Option Addr) (cap : Nat) (ls : List (List S45)) (w : World), ls.length ≤ N → Kd.C (Kd.slice 45 k45) w A ls.length ls → ls.length ≤ cap → ls.flatten.length ≤ 1000000 → ls.length ≤ 1000000 →
    (∀ x ∈ ls.flatten, ∀ y ∈ ls.flatten, order_less.f K x.f0 x.f1 y.f0 y.f1 = some (lt x y)) →
    Calls Try.prog 28 #[.func (.func 24) #[] #[], .slice A ls.length cap] w fun e w' => ∃ A' c', e = .returned (.slice A' (mergeV lt N ls).length c') ∧ (mergeV lt N ls).length ≤ c' ∧ Kd.C k45 w' A' (mergeV lt N ls).length (mergeV lt N ls) ∧ Below w.heap.size w w' := by
  intro N
  induction N with
  | zero =>
    intro A cap ls w hN hr hc hl hn hlt
    rw [mergeV_0 lt _ ls (by omega)]
    have e0 : ((ls.length : Int) == 0) = true := beq_iff_eq.mpr (by omega)
    go_enter Try.func28, Try.ntmps28
    go_wp2
    go_ret
    exact ⟨none, 0, rfl, Nat.le_refl _, Kd.C_nil _ _, Below.refl _ _⟩
  | succ N ih =>
    intro A cap ls w hN hr hc hl hn hlt
    by_cases h0 : ls.length = 0
    · rw [mergeV_0 lt _ ls h0]
      have e0 : ((ls.length : Int) == 0) = true := beq_iff_eq.mpr (by omega)
      go_enter Try.func28, Try.ntmps28
      go_wp2
      go_ret
      exact ⟨none, 0, rfl, Nat.le_refl _, Kd.C_nil _ _, Below.refl _ _⟩
    have e0 : ((ls.length : Int) == 0) = false := beq_eq_false_iff_ne.mpr (by omega)
    by_cases h1 : ls.length = 1
    · rw [mergeV_1 lt _ ls h1]
      have e1 : ((ls.length : Int) == 1) = true := beq_iff_eq.mpr (by omega)
      obtain ⟨ad, A0, c0, rfl, k1, k2, k3⟩ := at_L7 hr 0 (by omega) (by omega)
      have hlt0 : (0 : Int) < (ls.length : Int) := by omega
      rw [show (0 : Int).toNat = 0 from rfl] at k1
      generalize rd_L7 ls 0 = R0 at k1 k2 k3 ⊢
      have k1' : w.cell? ad = some (.slice A0 R0.length c0) := by
        rw [← show ad.add 0 = ad from by simp [Addr.add]]
        exact k1
      have K3 := Aside0.mk k3
      clear k3 hlt hr
      go_enter Try.func28, Try.ntmps28
      go_wp2
      go_ret
      exact ⟨A0, c0, rfl, k2, K3.out, Below.refl _ _⟩
    have e1 : ((ls.length : Int) == 1) = false := beq_eq_false_iff_ne.mpr (by omega)
    have hlen2 : 2 ≤ ls.length := by omega
    rw [mergeV_2 lt N ls hlen2]
    have HR := Aside0.mk (C_fix2 hr)
    have HLT := Aside0.mk hlt
    have HL := Aside0.mk hl
    have HIH := Aside0.mk ih
    clear hr hlt ih hl h0 h1
    go_enter Try.func28, Try.ntmps28
    go_wp2
    go_loopw [5, 6] (fun v i w2 => ∃ (I k : Nat) (nx : Value), Aside0 (I = 2 * k) ∧ i = .int .i64 (I : Int) ∧ nx = v ∧ I ≤ ls.length ∧ Aside0 (Kd.R (Kd.mix 45 (Kd.fixed k45 w) (Kd.fixed k45 w) w) 48 w2 w.heap.size (fun _ => True) nx (pairsV lt (ls.take I))) ∧ Aside0 (Below w.heap.size w w2)) (fun _ i _ => ls.length - (intOf i).toNat)
    case atStart => exact ⟨0, 0, _, ⟨rfl⟩, rfl, rfl, by omega, ⟨Kd.R_nil _ _ _ _ _⟩, ⟨Below.refl _ _⟩⟩
    case round =>
      obtain ⟨I, k, nx, HI, rfl, rfl, hk, HNX, HBW⟩ := hrel
      obtain ⟨wb, rfl⟩ : ∃ wb, wb = wr := ⟨_, rfl⟩
      by_cases hgo : I + 1 < ls.length
      · obtain ⟨ad, A1, c1, rfl, p1, p2, p3⟩ := at_L7f HR.out (I : Int) (by omega) (by omega)
        obtain ⟨ad2, A2, c2, e2, q1, q2, q3⟩ := at_L7f HR.out ((I + 1 : Nat) : Int) (by omega) (by omega)
        cases e2
        rw [Int.toNat_natCast] at p1 q1
        have hta := rd_mem ls I (by omega)
        have htb := rd_mem ls (I + 1) hgo
        have htk := take_two ls I hgo
        generalize rd_L7 ls (I : Int) = a at p1 p2 p3 hta htk
        generalize rd_L7 ls ((I + 1 : Nat) : Int) = b at q1 q2 q3 htb htk
        have p1' := (HBW.out.cell (World.block_lt_of_cell? _ _ p1)).trans p1
        have q1' := (HBW.out.cell (World.block_lt_of_cell? _ _ q1)).trans q1
        have q1'' : wb.cell? ⟨ad.block, ad.off + (I + 1), none⟩ = some (.slice A2 b.length c2) := by
          rw [← show ad.add (I + 1) = ⟨ad.block, ad.off + (I + 1), none⟩ from by simp [Addr.add]]
          exact q1'
        have PA := Aside0.mk (ReadsRow.imp_ p3 HBW.out (fun _ _ hp => hp))
        have PB := Aside0.mk (ReadsRow.imp_ q3 HBW.out (fun _ _ hp => hp))
        clear p1 q1 p3 q3
        have hw1 : IntKind.i64.wrap ((I : Int) + 1) = (I : Int) + 1 := wrap_add I 1 (by omega)
        have hi0 : I < ls.length := by omega
        have hi1 : (0 : Int) ≤ (I : Int) + 1 := by omega
        have hi2 : (I : Int) + 1 < (ls.length : Int) := by omega
        have hT : ((I : Int) + 1).toNat = I + 1 := by omega
        have HTA := Aside0.mk hta
        have HTB := Aside0.mk htb
        have HTK := Aside0.mk htk
        clear hta htb htk
        have hal : a.length ≤ 1000000 := Nat.le_trans (len_le_flat HTA.out) HL.out
        have hbl : b.length ≤ 1000000 := Nat.le_trans (len_le_flat HTB.out) HL.out
        have hw2 := wrap_add a.length b.length (by omega)
        go_wp2
        go_quiet (fail)
        have hmk : ((a.length : Int) + (b.length : Int)).toNat * 32 ≤ 281474976710656 := by omega
        have hmk0 : (0 : Int) ≤ (a.length : Int) + (b.length : Int) := by omega
        have hz45 : k45.K w z45 [.int .i64 0, .slice none 0 0] := k45_mk w z45 (A1 := none) (c1 := 0) (Nat.le_refl _) (Kd.C_nil _ _)
        go_wp2_with ((with_reducible refine gate_dst (N := 40) rfl ?_); refine Kd.R_makecap (Kd.fixed k45 w) (w0 := wb) wb.heap.size 45 rfl (N := 40) rfl 48 _ _ rfl ((a.length : Int) + (b.length : Int)) rfl rfl Try.underlying48 (.agg #[.int .i64 0, .slice none 0 0]) 32 item_info rfl (Nat.succ_pos 1) (Nat.succ_pos 31) z45 (ok := fun _ => True) (okp := fun _ => True) hz45 (fun _ hk => hk) trivial hmk0 hmk (pw_below_drewN (Below.refl _ _) nq) (Nat.le_refl _) ?_; intro v0 w3 hr3 hb3 hg3 _; have HR3 := Aside0.mk hr3; have HB3 := Aside0.mk hb3; clear hr3 hb3 hg3)
        clear hz45 hmk hmk0 hw2 p1' q1' q1''
        go_loopw [7, 8, 9] (fun sa sb so w4 => ∃ (xs ys zs : List S45) (B1 B2 : Option Addr) (d1 d2 : Nat) (o : Value), sa = .slice B1 xs.length d1 ∧ sb = .slice B2 ys.length d2 ∧ o = so ∧ xs.length ≤ d1 ∧ ys.length ≤ d2 ∧ Aside0 (zs ++ mg lt xs ys = mg lt a b) ∧ Aside0 (zs.length + xs.length + ys.length ≤ 2000000 ∧ (∀ x ∈ xs, x ∈ a) ∧ (∀ y ∈ ys, y ∈ b)) ∧ Aside0 ((Kd.fixed k45 w).C wb B1 xs.length xs) ∧ Aside0 ((Kd.fixed k45 w).C wb B2 ys.length ys) ∧ Aside0 (Kd.R (Kd.fixed k45 w) 45 w4 wb.heap.size (fun _ => True) o zs) ∧ Aside0 (Below wb.heap.size wb w4)) (fun sa sb _ _ => lenV sa + lenV sb)
        case atStart => exact ⟨a, b, [], A1, A2, c1, c2, v0, rfl, rfl, rfl, p2, q2, ⟨rfl⟩, ⟨by simp; omega, fun _ h => h, fun _ h => h⟩, PA, PB, HR3, HB3⟩
        case round =>
          obtain ⟨xs, ys, zs, B1, B2, d1, d2, o, rfl, rfl, rfl, hd1, hd2, HZ, HM, CX, CY, HO, HB4⟩ := hrel
          by_cases hx : 0 < xs.length
          · by_cases hy : 0 < ys.length
            · have hx1 : decide (0 < xs.length) = true := decide_eq_true hx
              have hy1 : decide (0 < ys.length) = true := decide_eq_true hy
              obtain ⟨x, xs', hxs⟩ : ∃ x xs', xs = x :: xs' := List.exists_cons_of_length_pos hx
              obtain ⟨y, ys', hys⟩ : ∃ y ys', ys = y :: ys' := List.exists_cons_of_length_pos hy
              have hBw : Below w.heap.size w wr := HBW.out.trans ((Keeps.of_below HB4.out (fun _ => False)).below (fun _ q => q.elim) HBW.out.size)
              obtain ⟨adx, X1, cx1, rfl, f0, f1, f2, f3, f4⟩ := item_at (hxs ▸ ReadsRow.imp_ CX.out HB4.out (fun _ _ hp => hp)) hBw
              obtain ⟨ady, Y1, cy1, rfl, g0, g1, g2, g3, g4⟩ := item_at (hys ▸ ReadsRow.imp_ CY.out HB4.out (fun _ _ hp => hp)) hBw
              rw [show adx.add 0 = adx from by simp [Addr.add]] at f0 f1
              rw [show ady.add 0 = ady from by simp [Addr.add]] at g0 g1
              have hl1 := HLT.out y (List.mem_flatten.2 ⟨b, HTB.out, HM.out.2.2 y (by rw [hys]; simp)⟩) x (List.mem_flatten.2 ⟨a, HTA.out, HM.out.2.1 x (by rw [hxs]; simp)⟩)
              have F3 := Aside0.mk f3
              have G3 := Aside0.mk g3
              have F4 := Aside0.mk f4
              have G4 := Aside0.mk g4
              have HXS := Aside0.mk hxs
              have HYS := Aside0.mk hys
              have HL1 := Aside0.mk hl1
              have HBw := Aside0.mk hBw
              clear f3 g3 f4 g4 hxs hys hl1 hBw
              obtain ⟨i0, hif, hiz0, hiz1, hiz2⟩ := info_parts item_info
              have hzl := HM.out.1
              rcases Bool.eq_false_or_eq_true (lt y x) with hB | hB
              · rw [hB] at HL1
                go_wp2
                go_still_tail 7, (by kernel_rfl)
                change wpList _ _ _ _ _ wr.drew
                go_wp2_with (go_at_call 24; (with_reducible refine (order_less.calls K y.f0 Y1 cy1 y.f1 x.f0 X1 cx1 x.f1 true _ (Kd.C_drew G3.out) g2 (Kd.C_drew F3.out) f2 HL1.out).mono ?_); rintro e w5 ⟨rfl, hb5⟩; have HB5 := Aside0.mk (below_drew1_ hb5); have f0' := (HB5.out.cell (World.block_lt_of_cell? _ _ f0)).trans f0; have f1' := (HB5.out.cell (World.block_lt_of_cell? _ _ f1)).trans f1; have g0' := (HB5.out.cell (World.block_lt_of_cell? _ _ g0)).trans g0; have g1' := (HB5.out.cell (World.block_lt_of_cell? _ _ g1)).trans g1; clear f0 f1 g0 g1)
                have HO5 := Aside0.mk (Kd.R_below HO.out HB5.out)
                have HB45 := Aside0.mk (HB4.out.trans ((Keeps.of_below HB5.out (fun _ => False)).below (fun _ q => q.elim) HB4.out.size))
                clear HO HB4
                obtain ⟨BY, hBY⟩ : ∃ B, (if d2 = 1 then (some ady : Option Addr) else (some ady).map (·.add (1 * 2))) = B := ⟨_, rfl⟩
                have hcut : ∀ W : World, (Instr.slice 48 (.slice (some ady) ys.length d2) (some (.int .i64 1)) none none).run Try.prog W = .ok (.slice BY (ys.length - 1) (d2 - 1)) W := fun W => by
                  rw [← hBY]
                  exact cut_from 48 45 .i64 Try.underlying48 hif 2 hiz1 (some ady) ys.length d2 1 (by omega) (by omega) W
                have HCBY := Aside0.mk (show (Kd.fixed k45 w).C wb BY (ys.drop 1).length (ys.drop 1) from hBY ▸ Kd.C_drop CY.out (by omega) hd2)
                clear hBY
                have HP := Aside0.mk (show (Kd.fixed k45 w).M w5.drew wb.heap.size (fun _ => False) y [.int .i64 y.f0, .slice Y1 y.f1.length cy1] from G4.out)
                go_wp2
                go_region_law (first
                  | (refine Kd.R_append_step (Kd.fixed k45 w) (w0 := wb) wb.heap.size (by rfl) (.tmp 57) (.tmp 61) 48 45 (.agg #[.int .i64 0, .slice none 0 0]) 32 (by rfl) Try.underlying48 item_info rfl (Nat.succ_pos 1) (Nat.succ_pos 31) o zs y _ (fun _ => True) (fun _ => False) (by rfl) (by rfl) HP.out (fun _ hk => hk.elim) (fun _ _ => trivial) (Kd.R_drew HO5.out) (below_drew HB45.out) HB45.out.size (by omega) ?_; intro v6 w6 hr6 hb6 hg6 hat6))
                have HR6 := Aside0.mk hr6
                have HB6 := Aside0.mk hb6
                clear hr6 hb6 hg6 hat6
                go_simp
                (refine ⟨?_, ?measure⟩; (repeat apply Exists.intro); refine ⟨?rel, rfl⟩)
                case rel => exact ⟨xs, ys.drop 1, zs ++ [y], _, _, _, _, v6, rfl, by rw [List.length_drop], rfl, hd1, by rw [List.length_drop]; omega, ⟨by rw [← HZ.out, HXS.out, HYS.out, mg_b hB, List.append_assoc]; rfl⟩, ⟨by rw [List.length_append, List.length_drop]; simp only [List.length_cons, List.length_nil]; omega, HM.out.2.1, fun z hz => HM.out.2.2 z (List.mem_of_mem_drop hz)⟩, CX, HCBY, HR6, HB6⟩
                case measure => simp only [lenV, List.getD, Array.getD]; simp [lenV]; omega
              · rw [hB] at HL1
                go_wp2
                go_still_tail 7, (by kernel_rfl)
                change wpList _ _ _ _ _ wr.drew
                go_wp2_with (go_at_call 24; (with_reducible refine (order_less.calls K y.f0 Y1 cy1 y.f1 x.f0 X1 cx1 x.f1 false _ (Kd.C_drew G3.out) g2 (Kd.C_drew F3.out) f2 HL1.out).mono ?_); rintro e w5 ⟨rfl, hb5⟩; have HB5 := Aside0.mk (below_drew1_ hb5); have f0' := (HB5.out.cell (World.block_lt_of_cell? _ _ f0)).trans f0; have f1' := (HB5.out.cell (World.block_lt_of_cell? _ _ f1)).trans f1; have g0' := (HB5.out.cell (World.block_lt_of_cell? _ _ g0)).trans g0; have g1' := (HB5.out.cell (World.block_lt_of_cell? _ _ g1)).trans g1; clear f0 f1 g0 g1)
                have HO5 := Aside0.mk (Kd.R_below HO.out HB5.out)
                have HB45 := Aside0.mk (HB4.out.trans ((Keeps.of_below HB5.out (fun _ => False)).below (fun _ q => q.elim) HB4.out.size))
                clear HO HB4
                obtain ⟨BX, hBX⟩ : ∃ B, (if d1 = 1 then (some adx : Option Addr) else (some adx).map (·.add (1 * 2))) = B := ⟨_, rfl⟩
                have hcut : ∀ W : World, (Instr.slice 48 (.slice (some adx) xs.length d1) (some (.int .i64 1)) none none).run Try.prog W = .ok (.slice BX (xs.length - 1) (d1 - 1)) W := fun W => by
                  rw [← hBX]
                  exact cut_from 48 45 .i64 Try.underlying48 hif 2 hiz1 (some adx) xs.length d1 1 (by omega) (by omega) W
                have HCBX := Aside0.mk (show (Kd.fixed k45 w).C wb BX (xs.drop 1).length (xs.drop 1) from hBX ▸ Kd.C_drop CX.out (by omega) hd1)
                clear hBX
                have HP := Aside0.mk (show (Kd.fixed k45 w).M w5.drew wb.heap.size (fun _ => False) x [.int .i64 x.f0, .slice X1 x.f1.length cx1] from F4.out)
                go_wp2
                go_region_law (first
                  | (refine Kd.R_append_step (Kd.fixed k45 w) (w0 := wb) wb.heap.size (by rfl) (.tmp 65) (.tmp 69) 48 45 (.agg #[.int .i64 0, .slice none 0 0]) 32 (by rfl) Try.underlying48 item_info rfl (Nat.succ_pos 1) (Nat.succ_pos 31) o zs x _ (fun _ => True) (fun _ => False) (by rfl) (by rfl) HP.out (fun _ hk => hk.elim) (fun _ _ => trivial) (Kd.R_drew HO5.out) (below_drew HB45.out) HB45.out.size (by omega) ?_; intro v6 w6 hr6 hb6 hg6 hat6))
                have HR6 := Aside0.mk hr6
                have HB6 := Aside0.mk hb6
                clear hr6 hb6 hg6 hat6
                go_simp
                (refine ⟨?_, ?measure⟩; (repeat apply Exists.intro); refine ⟨?rel, rfl⟩)
                case rel => exact ⟨xs.drop 1, ys, zs ++ [x], _, _, _, _, v6, by rw [List.length_drop], rfl, rfl, by rw [List.length_drop]; omega, hd2, ⟨by rw [← HZ.out, HXS.out, HYS.out, mg_a hB, List.append_assoc]; rfl⟩, ⟨by rw [List.length_append, List.length_drop]; simp only [List.length_cons, List.length_nil]; omega, fun z hz => HM.out.2.1 z (List.mem_of_mem_drop hz), HM.out.2.2⟩, HCBX, CY, HR6, HB6⟩
                case measure => simp only [lenV, List.getD, Array.getD]; simp [lenV]; omega
            · have hx1 : decide (0 < xs.length) = true := decide_eq_true hx
              have hy1 : decide (0 < ys.length) = false := decide_eq_false hy
              have HE := Aside0.mk (show mg lt xs ys = xs ++ ys by rw [List.eq_nil_of_length_eq_zero (show ys.length = 0 by omega), mg_nil2, List.append_nil])
              have hfl : [zs, xs, ys].flatten = mg lt a b := by rw [← HZ.out, HE.out]; simp
              have hf3 : [zs, xs, ys].flatten.length ≤ 1000000 := by
                rw [hfl, (mg_perm lt a b).length_eq, List.length_append]
                exact Nat.le_trans (two_le HTK.out) HL.out
              obtain ⟨Ao, co, rfl⟩ := Kd.R_slice HO.out
              have hob := Kd.R_reads' HO.out
              have hbx : Below wr.heap.size wr (wr.alloc (.cells #[.slice Ao zs.length co, .slice B1 xs.length d1, .slice B2 ys.length d2] 48)) := below_alloc (Below.refl _ _) _
              have hcc := concat_any (some ⟨wr.heap.size, 0, none⟩) 3 [zs, xs, ys] (wr.alloc (.cells #[.slice Ao zs.length co, .slice B1 xs.length d1, .slice B2 ys.length d2] 48)) w
                (C_three Ao B1 B2 zs xs ys co d1 d2 wr w hob.2.1 hd1 hd2 hob.2.2 (ReadsRow.imp_ CX.out HB4.out (fun _ _ hp => hp)) (ReadsRow.imp_ CY.out HB4.out (fun _ _ hp => hp))) (Nat.le_refl _) hf3 (by simp)
              rw [hfl] at hcc
              have HCC := Aside0.mk (show Calls Try.prog 38 #[.slice (some ⟨wr.heap.size, 0, none⟩) 3 3] (wr.alloc (.cells #[.slice Ao zs.length co, .slice B1 xs.length d1, .slice B2 ys.length d2] 48)) _ from hcc)
              have hpl := (pairsV_len lt _ (ls.take I) (Nat.le_refl _)).2
              have htl : (ls.take I).length ≤ I := by rw [List.length_take]; omega
              have hlen9 : ((pairsV lt (ls.take I)).length + 1) * 24 ≤ 140737488355328 := by omega
              have HFL := Aside0.mk hfl
              clear hcc hfl hf3 hob hpl htl
              have hw3 : IntKind.i64.wrap ((I : Int) + 2) = (I : Int) + 2 := wrap_add I 2 (by omega)
              have HWB := Aside0.mk (Nat.le_trans HBW.out.size HB4.out.size)
              go_wp2_with (first
                | (go_at_call 38; refine HCC.out.mono ?_; rintro e w7 ⟨v7, rfl, hr7, hb7⟩; obtain ⟨A7, c7, e7⟩ := Kd.R_slice hr7; subst e7; have HR7 := Aside0.mk hr7; have HB7 := Aside0.mk (HB4.out.trans ((Keeps.of_below (Below.trans hbx ((Keeps.of_below hb7 (fun _ => False)).below (fun _ q => q.elim) hbx.size)) (fun _ => False)).below (fun _ q => q.elim) HB4.out.size)); have HG7 := Aside0.mk hbx.size; clear hr7 hb7 hbx; have HN7 := Aside0.mk (Kd.R_below HNX.out HB7.out); have HBW7 := Aside0.mk (HBW.out.trans ((Keeps.of_below HB7.out (fun _ => False)).below (fun _ q => q.elim) HBW.out.size)); have HP7 := Aside0.mk (made_row HR7.out (Nat.le_trans HWB.out HG7.out) HG7.out))
                | ((with_reducible refine gate_dst (N := 80) rfl ?_); refine Kd.R_append (Kd.mix 45 (Kd.fixed k45 w) (Kd.fixed k45 w) w) (w0 := w) w.heap.size rfl (.tmp 73) (.tmp 79) 47 48 (.slice none 0 0) 24 rfl Try.underlying47 row_info rfl (Nat.succ_pos 0) (Nat.succ_pos 23) nx (pairsV lt (ls.take I)) (mg lt a b) [.slice A7 (mg lt a b).length c7] (fun _ => True) (fun k => wr.heap.size ≤ k) rfl (by first | rfl | (go_simp; done) | (go_simp; rfl)) HP7.out (fun k hk => ⟨trivial, fun e => by have h1 := Kd.R_lt HNX.out k e.symm; have h2 := HB4.out.size; omega⟩) (fun _ _ => trivial) HN7.out HBW7.out HBW7.out.size hlen9 ?_; intro v8 w8 hr8 hb8 hg8 _))
              go_roundw
              case rel => exact ⟨I + 2, k + 1, v8, ⟨by have := HI.out; omega⟩, by go_num, rfl, by omega, ⟨by rw [HTK.out, pairsV_snoc2 lt a b k _ (by rw [List.length_take]; have := HI.out; omega)]; exact hr8⟩, ⟨hb8⟩⟩
              case measure => simp [intOf]; omega
          · have hx1 : decide (0 < xs.length) = false := decide_eq_false hx
            have HE := Aside0.mk (show mg lt xs ys = xs ++ ys by rw [List.eq_nil_of_length_eq_zero (show xs.length = 0 by omega), mg_nil, List.nil_append])
            have hfl : [zs, xs, ys].flatten = mg lt a b := by rw [← HZ.out, HE.out]; simp
            have hf3 : [zs, xs, ys].flatten.length ≤ 1000000 := by
              rw [hfl, (mg_perm lt a b).length_eq, List.length_append]
              exact Nat.le_trans (two_le HTK.out) HL.out
            obtain ⟨Ao, co, rfl⟩ := Kd.R_slice HO.out
            have hob := Kd.R_reads' HO.out
            have hbx : Below wr.heap.size wr (wr.alloc (.cells #[.slice Ao zs.length co, .slice B1 xs.length d1, .slice B2 ys.length d2] 48)) := below_alloc (Below.refl _ _) _
            have hcc := concat_any (some ⟨wr.heap.size, 0, none⟩) 3 [zs, xs, ys] (wr.alloc (.cells #[.slice Ao zs.length co, .slice B1 xs.length d1, .slice B2 ys.length d2] 48)) w
              (C_three Ao B1 B2 zs xs ys co d1 d2 wr w hob.2.1 hd1 hd2 hob.2.2 (ReadsRow.imp_ CX.out HB4.out (fun _ _ hp => hp)) (ReadsRow.imp_ CY.out HB4.out (fun _ _ hp => hp))) (Nat.le_refl _) hf3 (by simp)
            rw [hfl] at hcc
            have HCC := Aside0.mk (show Calls Try.prog 38 #[.slice (some ⟨wr.heap.size, 0, none⟩) 3 3] (wr.alloc (.cells #[.slice Ao zs.length co, .slice B1 xs.length d1, .slice B2 ys.length d2] 48)) _ from hcc)
            have hpl := (pairsV_len lt _ (ls.take I) (Nat.le_refl _)).2
            have htl : (ls.take I).length ≤ I := by rw [List.length_take]; omega
            have hlen9 : ((pairsV lt (ls.take I)).length + 1) * 24 ≤ 140737488355328 := by omega
            have HFL := Aside0.mk hfl
            clear hcc hfl hf3 hob hpl htl
            have hw3 : IntKind.i64.wrap ((I : Int) + 2) = (I : Int) + 2 := wrap_add I 2 (by omega)
            have HWB := Aside0.mk (Nat.le_trans HBW.out.size HB4.out.size)
            go_wp2_with (first
              | (go_at_call 38; refine HCC.out.mono ?_; rintro e w7 ⟨v7, rfl, hr7, hb7⟩; obtain ⟨A7, c7, e7⟩ := Kd.R_slice hr7; subst e7; have HR7 := Aside0.mk hr7; have HB7 := Aside0.mk (HB4.out.trans ((Keeps.of_below (Below.trans hbx ((Keeps.of_below hb7 (fun _ => False)).below (fun _ q => q.elim) hbx.size)) (fun _ => False)).below (fun _ q => q.elim) HB4.out.size)); have HG7 := Aside0.mk hbx.size; clear hr7 hb7 hbx; have HN7 := Aside0.mk (Kd.R_below HNX.out HB7.out); have HBW7 := Aside0.mk (HBW.out.trans ((Keeps.of_below HB7.out (fun _ => False)).below (fun _ q => q.elim) HBW.out.size)); have HP7 := Aside0.mk (made_row HR7.out (Nat.le_trans HWB.out HG7.out) HG7.out))
              | ((with_reducible refine gate_dst (N := 80) rfl ?_); refine Kd.R_append (Kd.mix 45 (Kd.fixed k45 w) (Kd.fixed k45 w) w) (w0 := w) w.heap.size rfl (.tmp 73) (.tmp 79) 47 48 (.slice none 0 0) 24 rfl Try.underlying47 row_info rfl (Nat.succ_pos 0) (Nat.succ_pos 23) nx (pairsV lt (ls.take I)) (mg lt a b) [.slice A7 (mg lt a b).length c7] (fun _ => True) (fun k => wr.heap.size ≤ k) rfl (by first | rfl | (go_simp; done) | (go_simp; rfl)) HP7.out (fun k hk => ⟨trivial, fun e => by have h1 := Kd.R_lt HNX.out k e.symm; have h2 := HB4.out.size; omega⟩) (fun _ _ => trivial) HN7.out HBW7.out HBW7.out.size hlen9 ?_; intro v8 w8 hr8 hb8 hg8 _))
            go_roundw
            case rel => exact ⟨I + 2, k + 1, v8, ⟨by have := HI.out; omega⟩, by go_num, rfl, by omega, ⟨by rw [HTK.out, pairsV_snoc2 lt a b k _ (by rw [List.length_take]; have := HI.out; omega)]; exact hr8⟩, ⟨hb8⟩⟩
            case measure => simp [intOf]; omega
      · have hgo1 : decide (((I : Int) + 1) < (ls.length : Int)) = false := decide_eq_false (by omega)
        have hw1 : IntKind.i64.wrap ((I : Int) + 1) = (I : Int) + 1 := wrap_add I 1 (by omega)
        have hpl := pairsV_len lt _ ls (Nat.le_refl _)
        have hpp := pairsV_perm lt _ ls (Nat.le_refl _)
        have hpN : (pairsV lt ls).length ≤ N := by omega
        have hpF : (pairsV lt ls).flatten.length ≤ 1000000 := by rw [hpp.length_eq]; exact HL.out
        have hpM : ∀ x ∈ (pairsV lt ls).flatten, ∀ y ∈ (pairsV lt ls).flatten, order_less.f K x.f0 x.f1 y.f0 y.f1 = some (lt x y) := fun x hx y hy => HLT.out x (hpp.mem_iff.1 hx) y (hpp.mem_iff.1 hy)
        have hp6 : (pairsV lt ls).length ≤ 1000000 := by omega
        have HR1 := Aside0.mk (fun A' c' W hC hc' => HIH.out A' c' (pairsV lt ls) W hpN hC hc' hpF hp6 hpM)
        by_cases hev : I = ls.length
        · have htake : ls.take I = ls := by rw [hev, List.take_length]
          rw [htake] at HNX
          obtain ⟨An, cn, rfl, hn1, hn2⟩ := next_reads HNX.out HBW.out
          have HC := Aside0.mk (HR1.out An cn wb hn2 hn1)
          have hrem : Int.tmod (ls.length : Int) 2 = 0 := by
            rw [Int.tmod_eq_emod_of_nonneg (by omega)]
            have := HI.out
            omega
          have hne : ((0 : Int) == 1) = false := rfl
          have hz0 : IntKind.i64.wrap 0 = 0 := by decide
          clear hpp hpM hn2 htake hpl
          go_wp2_with (go_at_call 28; (with_reducible refine HC.out.mono ?_); rintro e w9 ⟨A9, c9, rfl, h91, h92, h93⟩; have H92 := Aside0.mk h92; have H93 := Aside0.mk h93; clear h92 h93)
          go_ret
          exact ⟨A9, c9, rfl, h91, H92.out, HBW.out.trans ((Keeps.of_below H93.out (fun _ => False)).below (fun _ q => q.elim) HBW.out.size)⟩
        · have hI1 : I + 1 = ls.length := by omega
          obtain ⟨ad, A1, c1, rfl, p1, p2, p3⟩ := at_L7f HR.out (I : Int) (by omega) (by omega)
          rw [Int.toNat_natCast] at p1
          have htk : ls.take (I + 1) = ls.take I ++ [rd_L7 ls I] := by
            rw [List.take_add_one, List.getElem?_eq_getElem (show I < ls.length by omega)]
            unfold rd_L7
            rw [Int.toNat_natCast, List.getD_eq_getElem?_getD, List.getElem?_eq_getElem (show I < ls.length by omega)]
            rfl
          rw [hI1, List.take_length] at htk
          generalize rd_L7 ls (I : Int) = a at p1 p2 p3 htk
          have p1' := (HBW.out.cell (World.block_lt_of_cell? _ _ p1)).trans p1
          have hpr : pairsV lt ls = pairsV lt (ls.take I) ++ [a] := by
            have h1 := pairsV_snoc1 lt a k (ls.take I) (by rw [List.length_take]; have := HI.out; omega)
            rw [← htk] at h1
            exact h1
          have HP := Aside0.mk (Kd.mix_came (e := 45) (d := Kd.fixed k45 w) (dm := Kd.fixed k45 w) (w0 := w) (w := wb) (base := w.heap.size) (ok := fun _ => False) p2 p3)
          have hrem : Int.tmod (ls.length : Int) 2 = 1 := by
            rw [Int.tmod_eq_emod_of_nonneg (by omega)]
            have := HI.out
            omega
          have hw9 : IntKind.i64.wrap ((ls.length : Int) - 1) = (I : Int) := by
            rw [show (ls.length : Int) - 1 = (I : Int) + ((0 : Nat) : Int) by omega]
            rw [wrap_add I 0 (by omega)]
            omega
          have hz1 : IntKind.i64.wrap 1 = 1 := by decide
          have hIl : I < ls.length := by omega
          have hpl9 : ((pairsV lt (ls.take I)).length + 1) * 24 ≤ 140737488355328 := by
            have h1 := (pairsV_len lt _ (ls.take I) (Nat.le_refl _)).2
            rw [List.length_take] at h1
            omega
          have HPR := Aside0.mk hpr
          clear hpp hpM hpl htk p1 p3 hpr
          go_wp2_with ((with_reducible refine gate_dst (N := 93) rfl ?_); refine Kd.R_append (Kd.mix 45 (Kd.fixed k45 w) (Kd.fixed k45 w) w) (w0 := w) w.heap.size rfl (.tmp 85) (.tmp 92) 47 48 (.slice none 0 0) 24 rfl Try.underlying47 row_info rfl (Nat.succ_pos 0) (Nat.succ_pos 23) nx (pairsV lt (ls.take I)) a [.slice A1 a.length c1] (fun _ => True) (fun _ => False) rfl (by first | rfl | (go_simp; done) | (go_simp; rfl)) HP.out (fun _ hk => hk.elim) (fun _ _ => trivial) HNX.out HBW.out HBW.out.size hpl9 ?_; intro v8 w8 hr8 hb8 hg8 _; rw [← HPR.out] at hr8; obtain ⟨An, cn, rfl, hn1, hn2⟩ := next_reads hr8 hb8; have HC := Aside0.mk (HR1.out An cn w8 hn2 hn1); have HB8 := Aside0.mk hb8; clear hr8 hb8 hg8 hn2)
          go_wp2_with (go_at_call 28; (with_reducible refine HC.out.mono ?_); rintro e w9 ⟨A9, c9, rfl, h91, h92, h93⟩; have H92 := Aside0.mk h92; have H93 := Aside0.mk h93; clear h92 h93)
          go_ret
          exact ⟨A9, c9, rfl, h91, H92.out, HB8.out.trans ((Keeps.of_below H93.out (fun _ => False)).below (fun _ q => q.elim) HB8.out.size)⟩

end Go.Proofs.Ytajinnlaajhoeaa.Pure
