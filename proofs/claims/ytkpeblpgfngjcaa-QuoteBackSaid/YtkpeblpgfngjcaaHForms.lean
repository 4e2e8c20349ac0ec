/- The ways to write a scalar; the scalars of a text. -/
import Derived.Test.YtkpeblpgfngjcaaPAllx1
import Derived.Test.YtkpeblpgfngjcaaPAllx2
import Derived.Test.YtkpeblpgfngjcaaPAllx3
import Derived.Test.YtkpeblpgfngjcaaPAllx4
import Derived.Test.YtkpeblpgfngjcaaPAllx5
import Derived.Test.YtkpeblpgfngjcaaHKit
import Derived.Test.YtkpeblpgfngjcaaLUtf
import Derived.Test.YtkpeblpgfngjcaaLRef
import Derived.Test.YtkpeblpgfngjcaaH12U
import Derived.Test.YtkpeblpgfngjcaaHQuote
import Derived.Outline
import Derived.OwnWalk
import Derived.Laws.IdiomStrings
import Derived.StillTailTactics
namespace Go.Proofs.Ytkpeblpgfngjcaa.Pure
open Go.RowKit Go.Proofs.Ytkpeblpgfngjcaa.PAll Go.Proofs.YtkpeblpgfngjcaaW.PrintWords Go.Proofs.YtkpeblpgfngjcaaW.PrintLast Go.Proofs.YtkpeblpgfngjcaaW.PrintMore
set_option linter.unusedVariables false
set_option linter.unusedSimpArgs false

/-! ### The scalars of a text -/
theorem C_bytes (w : World) (s : ByteArray) (e : TypeId) (cap : Nat) (fr : Nat × Nat) (hs : s.size ≤ 9223372036854775807) :
    Kd.C (Kd.int .u8) (w.alloc (.cells (bytesRow s cap) e fr)) (some ⟨w.heap.size, 0, none⟩) (bnums s).length (bnums s) := by
  refine Kd.C_of_reads (enc := Value.int .u8) (d := (0 : Int)) (h1 := fun _ => rfl) ⟨rfl, by rw [bnums_len]; exact hs, fun _ => ⟨_, rfl, fun j hj => ?_⟩⟩
  have hb : (w.alloc (.cells (bytesRow s cap) e fr)).heap[w.heap.size]? = some (.cells (bytesRow s cap) e fr) := heap_alloc_new w _
  rw [add_plain, cell_of_row _ _ _ _ _ _ hb]
  have hj2 : j < s.size := by rw [bnums_len] at hj; exact hj
  have hj3 : j < s.data.size := hj2
  unfold bytesRow bnums
  rw [Array.getElem?_append_left (by simpa using hj3)]
  simp [hj3, List.getD_eq_getElem?_getD]
  exact ⟨s.data[j], Array.getElem?_eq_getElem hj3, by rw [Array.getElem?_eq_getElem hj3]; rfl⟩
set_option maxHeartbeats 2000000 in
theorem rof_any (s : ByteArray) (w : World) (hs : s.size ≤ 1000000) (L : List Int) (at_ : Int) (b : Bool) (hL : allV [] [] 0 (bnums s) = (L, at_, b)) (hby : Byt (bnums s)) :
    Calls Try.prog 38 #[.string s] w fun e w' => ∃ A c, e = .returned (.slice A L.length c) ∧ Kd.R (Kd.int .i32) 21 w' w.heap.size (fun _ => True) (.slice A L.length c) L ∧ Below w.heap.size w w' := by
  have hn : (bnums s).length = s.size := bnums_len s
  obtain ⟨K, hK⟩ : ∃ K : Nat, 3000000 ≤ K := ⟨3000000, Nat.le_refl _⟩
  have hv := rall_val K (bnums s) hby (by omega) (by omega)
  rw [hL] at hv
  have HV := Aside0.mk hv
  have HN := Aside0.mk hn
  have hcv := fun W : World => run_bytes_of_string (P := Try.prog) W 9 32 5 s Try.underlying9 Try.underlying32 Try.underlying5
  obtain ⟨B, hB⟩ : ∃ B, bnums s = B := ⟨_, rfl⟩
  have HB := Aside0.mk hB
  clear hn hv hL hK hB
  go_enter Try.func38, Try.ntmps38
  go_wp2_with (fail)
  have hC := Kd.C_drew (C_bytes w s 5 (grownCap w s.size 0 5) ((bytesRow s (grownCap w s.size 0 5)).size, (bytesRow s (grownCap w s.size 0 5)).size + 1) (by omega))
  have hcap : (bnums s).length ≤ grownCap w s.size 0 5 := by rw [HN.out]; exact grownCap_ge _ _ _ _
  have hcall := orthoepyref02_All.calls K _ _ (bnums s) L at_ b _ hC hcap HV.out
  rw [HN.out] at hcall
  refine hcall.mono ?_
  rintro e w1 ⟨v1, rfl, hr1, hB1⟩
  obtain ⟨A1, c1, e1⟩ := Kd.R_slice hr1
  subst e1
  have HR1 := Aside0.mk hr1
  have HB1 := Aside0.mk hB1
  clear hr1 hB1 hcall hcv
  go_wp2
  go_ret
  have hz : w.heap.size ≤ ((w.alloc (.cells (bytesRow s (grownCap w s.size 0 5)) 5 ((bytesRow s (grownCap w s.size 0 5)).size, (bytesRow s (grownCap w s.size 0 5)).size + 1))).drew).heap.size := by simp
  exact ⟨A1, c1, rfl, Kd.R_lower HR1.out hz, (((Below.refl w.heap.size w).alloc (Nat.le_refl _) _).drew).trans (HB1.out.mono hz)⟩

/-! ### The digits of an escape, of the laws' odd writer -/
def fourU (g : Bool) (u : Int) : List Int := [hexC g (u / 4096), hexC g (u / 256 % 16), hexC g (u / 16 % 16), hexC g (u % 16)]
def digS (g : Bool) : ByteArray := if g = true then ⟨#[48, 49, 50, 51, 52, 53, 54, 55, 56, 57, 65, 66, 67, 68, 69, 70]⟩ else ⟨#[48, 49, 50, 51, 52, 53, 54, 55, 56, 57, 97, 98, 99, 100, 101, 102]⟩
theorem dig_at (g : Bool) (d : Int) (h0 : 0 ≤ d) (h1 : d < 16) (h : d.toNat < (digS g).size) : (((digS g)[d.toNat]'h).toNat : Int) = hexC g d := by
  obtain ⟨n, rfl⟩ := Int.eq_ofNat_of_zero_le h0
  have hn : n < 16 := by omega
  cases g
  · match n, hn with
    | 0, _ | 1, _ | 2, _ | 3, _ | 4, _ | 5, _ | 6, _ | 7, _ | 8, _ | 9, _ | 10, _ | 11, _ | 12, _ | 13, _ | 14, _ | 15, _ => rfl
  · match n, hn with
    | 0, _ | 1, _ | 2, _ | 3, _ | 4, _ | 5, _ | 6, _ | 7, _ | 8, _ | 9, _ | 10, _ | 11, _ | 12, _ | 13, _ | 14, _ | 15, _ => rfl
theorem conv_lit4 (W : World) (x1 x2 x3 x4 : Int) : (convert 32 9 (.slice (some ⟨W.heap.size, 0, none⟩) 4 4)).run Try.prog (W.alloc (.cells #[.int .u8 x1, .int .u8 x2, .int .u8 x3, .int .u8 x4] 5)) =
    .ok (.string (strOfNums [x1, x2, x3, x4])) (W.alloc (.cells #[.int .u8 x1, .int .u8 x2, .int .u8 x3, .int .u8 x4] 5)) := by
  have h : Kd.R (Kd.int .u8) 5 (W.alloc (.cells #[.int .u8 x1, .int .u8 x2, .int .u8 x3, .int .u8 x4] 5)) W.heap.size (fun _ => True) (.slice (some ⟨W.heap.size, 0, none⟩) 4 4) [x1, x2, x3, x4] :=
    Kd.R_of_own (own_lit W W.heap.size 5 .u8 [x1, x2, x3, x4] (Nat.le_refl _) (by simp)) (fun _ _ => trivial)
  exact Kd.C_string (P := Try.prog) (c := 4) Try.underlying32 Try.underlying5 Try.underlying9 (Kd.R_reads' h).2.2
set_option maxHeartbeats 2000000 in
set_option maxRecDepth 100000 in
theorem rfour_lit (g : Bool) (u : Int) (w : World) (h0 : 0 ≤ u) (h1 : u < 65536) :
    Calls Try.prog 40 #[.int .u16 u, .bool g] w fun e w' => e = .returned (.string (strOfNums (fourU g u))) ∧ Keeps (fun _ => False) w w' := by
  have wr : ∀ x : Int, 0 ≤ x → x < 65536 → IntKind.u16.wrap x = x := fun x p q => by rw [wrap_u16]; omega
  have a1 : IntKind.u16.wrap (Int.tdiv u 4096) = u / 4096 := by
    rw [Int.tdiv_eq_ediv_of_nonneg h0]
    exact wr _ (by omega) (by omega)
  have a2 : Int.tmod (IntKind.u16.wrap (Int.tdiv u 256)) 16 = u / 256 % 16 := by
    rw [Int.tdiv_eq_ediv_of_nonneg h0]
    rw [wr (u / 256) (by omega) (by omega), Int.tmod_eq_emod_of_nonneg (by omega)]
  have a3 : Int.tmod (IntKind.u16.wrap (Int.tdiv u 16)) 16 = u / 16 % 16 := by
    rw [Int.tdiv_eq_ediv_of_nonneg h0]
    rw [wr (u / 16) (by omega) (by omega), Int.tmod_eq_emod_of_nonneg (by omega)]
  have a4 : Int.tmod u 16 = u % 16 := Int.tmod_eq_emod_of_nonneg h0
  have hd : ∀ d : Int, 0 ≤ d → d < 16 → ∀ h, (((digS g)[d.toNat]'h).toNat : Int) = hexC g d := fun d p q h => dig_at g d p q h
  have HD := Aside0.mk hd
  have b1 : 0 ≤ u / 4096 ∧ u / 4096 < 16 := by omega
  have b2 : 0 ≤ u / 256 % 16 ∧ u / 256 % 16 < 16 := by omega
  have b3 : 0 ≤ u / 16 % 16 ∧ u / 16 % 16 < 16 := by omega
  have b4 : 0 ≤ u % 16 ∧ u % 16 < 16 := by omega
  have hcv := conv_lit4
  clear wr hd
  cases g with
  | false =>
    go_enter Try.func40, Try.ntmps40
    go_wp2
    go_still_tail 18, (by kernel_rfl)
    change wpList _ _ _ _ _ w.drew
    have hk := (Keeps.refl (fun _ => False) w).drew
    generalize w.drew = w2 at hk ⊢
    have HK := Aside0.mk hk
    clear hk
    all_goals
      go_wp2
      go_ret
      refine ⟨?_, HK.out.alloc _⟩
      unfold fourU
      rw [← HD.out _ b1.1 b1.2 (by have : (digS false).size = 16 := rfl; omega), ← HD.out _ b2.1 b2.2 (by have : (digS false).size = 16 := rfl; omega), ← HD.out _ b3.1 b3.2 (by have : (digS false).size = 16 := rfl; omega), ← HD.out _ b4.1 b4.2 (by have : (digS false).size = 16 := rfl; omega)]
      rfl
  | true =>
    go_enter Try.func40, Try.ntmps40
    go_wp2
    go_still_tail 18, (by kernel_rfl)
    change wpList _ _ _ _ _ w.drew
    have hk := (Keeps.refl (fun _ => False) w).drew
    generalize w.drew = w2 at hk ⊢
    have HK := Aside0.mk hk
    clear hk
    all_goals
      go_wp2
      go_ret
      refine ⟨?_, HK.out.alloc _⟩
      unfold fourU
      rw [← HD.out _ b1.1 b1.2 (by have : (digS true).size = 16 := rfl; omega), ← HD.out _ b2.1 b2.2 (by have : (digS true).size = 16 := rfl; omega), ← HD.out _ b3.1 b3.2 (by have : (digS true).size = 16 := rfl; omega), ← HD.out _ b4.1 b4.2 (by have : (digS true).size = 16 := rfl; omega)]
      rfl

/-! ### The ways to write a scalar, plainly -/
def hiU (c : Int) : Int := 55296 + (c - 65536) / 1024
def loU (c : Int) : Int := 56320 + (c - 65536) % 1024
def Forms (c : Int) (p : List Int) : Prop :=
  p = (encV c).flatMap qB ∨ (65536 ≤ c ∧ ∃ g, p = [92, 117] ++ fourU g (hiU c) ++ ([92, 117] ++ fourU (!g) (loU c))) ∨ (c = 47 ∧ p = [92, 47]) ∨ (c < 65536 ∧ ∃ g, p = [92, 117] ++ fourU g c)
def Written : List Int → List Int → Prop
  | [], P => P = []
  | c :: l, P => ∃ p R, Forms c p ∧ P = p ++ R ∧ Written l R
theorem written_snoc : ∀ {l : List Int} {P : List Int} {c : Int} {p : List Int}, Written l P → Forms c p → Written (l ++ [c]) (P ++ p)
  | [], P, c, p, h, hf => by
    have : P = [] := h
    subst this
    exact ⟨p, [], hf, by simp, rfl⟩
  | d :: l, P, c, p, h, hf => by
    obtain ⟨q, R, h1, h2, h3⟩ := h
    exact ⟨q, R ++ p, h1, by rw [h2, List.append_assoc], written_snoc h3 hf⟩
theorem esc_eq (g : Bool) (u : Int) : [92, 117] ++ fourU g u = escB g u := rfl
theorem enc_high (c : Int) (hs : isScal c = true) (h : 128 ≤ c) : ∀ x ∈ encV c, 128 ≤ x := by
  have hs' := hs
  simp only [isScal, decide_eq_true_eq] at hs'
  unfold encV
  rw [if_pos hs, if_neg (by omega)]
  intro x hx
  split at hx
  · simp only [List.mem_cons, List.not_mem_nil, or_false] at hx; omega
  split at hx
  · simp only [List.mem_cons, List.not_mem_nil, or_false] at hx; omega
  · simp only [List.mem_cons, List.not_mem_nil, or_false] at hx; omega
theorem flat_high : ∀ l : List Int, (∀ x ∈ l, 128 ≤ x) → l.flatMap qB = l
  | [], _ => rfl
  | x :: l, h => by
    have hx := h x (by simp)
    have e : qB x = [x] := by unfold qB; rw [if_neg (by omega), if_neg (by omega)]
    rw [List.flatMap_cons, e, flat_high l (fun y hy => h y (by simp [hy]))]
    rfl
theorem play_unit (O : List Int) (g : Bool) (c : Int) (l : List Int) (i : Nat) (hs : isScal c = true) (h1 : c < 65536) (hn : isNon c = false) :
    playV ⟨O, [], 0, [], 0, false⟩ (escB g c ++ l) i = playV ⟨O ++ [c], [], 0, [], 0, false⟩ l (i + 6) := by
  simp only [isScal, decide_eq_true_eq] at hs
  have hl : ¬ loS c = true := fun q => by have := (loS_iff c).1 q; omega
  have hh : ¬ hiS c = true := fun q => by have := (hiS_iff c).1 q; omega
  have ok : okU 0 c := (okU_first c (by omega) h1).2 ⟨hl, by rw [hn]; decide⟩
  rw [(play_esc ⟨O, [], 0, [], 0, false⟩ g c l i (by omega) h1 rfl rfl rfl rfl).1 ok]
  have e : RV.unit ⟨O, [], 0, [], 0, false⟩ c = ⟨O ++ [c], [], 0, [], 0, false⟩ := by
    unfold RV.unit
    rw [if_neg (fun q => hl q.2), if_neg hh]
  rw [e]
theorem play_pairU (O : List Int) (g g' : Bool) (c : Int) (l : List Int) (i : Nat) (h0 : 65536 ≤ c) (h1 : c ≤ 1114111) (hn : isNon c = false) :
    playV ⟨O, [], 0, [], 0, false⟩ (escB g (hiU c) ++ (escB g' (loU c) ++ l)) i = playV ⟨O ++ [c], [], 0, [], 0, false⟩ l (i + 12) := by
  have hh : hiS (hiU c) = true := (hiS_iff _).2 (by unfold hiU; omega)
  have hl : loS (loU c) = true := (loS_iff _).2 (by unfold loU; omega)
  have hl0 : ¬ loS (hiU c) = true := fun q => by have := (loS_iff _).1 q; unfold hiU at this; omega
  have hn0 : ¬ isNon (hiU c) = true := fun q => by have := (isNon_iff _).1 q; unfold hiU at this; omega
  have hj : joinV (hiU c) (loU c) = c := by unfold joinV hiU loU; omega
  have ok1 : okU 0 (hiU c) := (okU_first _ (by unfold hiU; omega) (by unfold hiU; omega)).2 ⟨hl0, hn0⟩
  have ok2 : okU (hiU c) (loU c) := (okU_second _ _ hh (by unfold loU; omega) (by unfold loU; omega)).2 ⟨hl, by rw [hj, hn]; decide⟩
  rw [(play_esc ⟨O, [], 0, [], 0, false⟩ g (hiU c) (escB g' (loU c) ++ l) i (by unfold hiU; omega) (by unfold hiU; omega) rfl rfl rfl rfl).1 ok1]
  have h00 : hiS 0 = false := rfl
  have e1 : RV.unit ⟨O, [], 0, [], 0, false⟩ (hiU c) = ⟨O, [], 0, [], hiU c, false⟩ := by
    unfold RV.unit
    rw [if_neg (fun q => hl0 q.2), if_pos hh]
  rw [e1, (play_esc ⟨O, [], 0, [], hiU c, false⟩ g' (loU c) l (i + 6) (by unfold loU; omega) (by unfold loU; omega) rfl rfl rfl rfl).1 ok2]
  have e2 : RV.unit ⟨O, [], 0, [], hiU c, false⟩ (loU c) = ⟨O ++ [c], [], 0, [], 0, false⟩ := by
    unfold RV.unit
    rw [if_pos ⟨hh, hl⟩, hj]
  rw [e2]
theorem play_esc1 (O : List Int) (x c : Int) (l : List Int) (i : Nat) (hx : x ≠ 117) (h32 : ¬ x < 32) (h : escC x = some c) : playV ⟨O, [], 0, [], 0, false⟩ (92 :: x :: l) i = playV ⟨O ++ [c], [], 0, [], 0, false⟩ l (i + 2) := by
  have p1 : rpushV ⟨O, [], 0, [], 0, false⟩ 92 = (false, 0, ⟨O, [], 1, [], 0, false⟩) := rfl
  have p2 : rpushV ⟨O, [], 1, [], 0, false⟩ x = (false, 0, ⟨O ++ [c], [], 0, [], 0, false⟩) := by
    unfold rpushV rescapeV RV.say
    simp only [h]
    rw [if_neg (by simp; omega), if_neg (by decide), if_pos trivial, if_neg hx]
    rfl
  exact (play_go p1).trans (play_go p2)
theorem play_form (O : List Int) (c : Int) (p l : List Int) (i : Nat) (hs : isScal c = true) (hn : isNon c = false) (hf : Forms c p) :
    playV ⟨O, [], 0, [], 0, false⟩ (p ++ l) i = playV ⟨O ++ [c], [], 0, [], 0, false⟩ l (i + p.length) := by
  have hs' := hs
  simp only [isScal, decide_eq_true_eq] at hs'
  rcases hf with rfl | ⟨h1, g, rfl⟩ | ⟨rfl, rfl⟩ | ⟨h1, g, rfl⟩
  · by_cases h128 : c < 128
    · have e : encV c = [c] := by unfold encV; rw [if_pos hs, if_pos h128]
      rw [e, List.flatMap_cons, List.flatMap_nil, List.append_nil]
      unfold qB
      by_cases h2 : c = 34 ∨ c = 92
      · rw [if_pos h2]
        rcases h2 with rfl | rfl
        · exact play_esc1 O 34 34 l i (by decide) (by decide) rfl
        · exact play_esc1 O 92 92 l i (by decide) (by decide) rfl
      · rw [if_neg h2]
        by_cases h3 : c < 32
        · rw [if_pos h3]
          unfold oneL
          by_cases e8 : c = 8
          · rw [if_pos e8, e8]; exact play_esc1 O 98 8 l i (by decide) (by decide) rfl
          rw [if_neg e8]
          by_cases e9 : c = 9
          · rw [if_pos e9, e9]; exact play_esc1 O 116 9 l i (by decide) (by decide) rfl
          rw [if_neg e9]
          by_cases e10 : c = 10
          · rw [if_pos e10, e10]; exact play_esc1 O 110 10 l i (by decide) (by decide) rfl
          rw [if_neg e10]
          by_cases e12 : c = 12
          · rw [if_pos e12, e12]; exact play_esc1 O 102 12 l i (by decide) (by decide) rfl
          rw [if_neg e12]
          by_cases e13 : c = 13
          · rw [if_pos e13, e13]; exact play_esc1 O 114 13 l i (by decide) (by decide) rfl
          rw [if_neg e13]
          have hE : [92, 117, 48, 48, 48 + c / 16, if c % 16 < 10 then 48 + c % 16 else 87 + c % 16] = escB false c := by
            unfold escB hexC
            rw [show c / 4096 = 0 by omega, show c / 256 % 16 = 0 by omega, show c / 16 % 16 = c / 16 by omega]
            rw [if_pos (show (0 : Int) < 10 by decide), if_pos (show c / 16 < 10 by omega)]
            rfl
          rw [hE]
          exact play_unit O false c l i hs (by omega) hn
        · rw [if_neg h3]
          exact play_go (push_say O [] c (by omega) h128 (by omega) (by omega))
    · rw [flat_high _ (enc_high c hs (by omega))]
      exact (play_chain O [] c (encV c) [] l i (chain_enc c hs (by omega))).1 hn
  · rw [esc_eq, esc_eq, List.append_assoc]
    exact play_pairU O g (!g) c l i h1 (by omega) hn
  · exact play_esc1 O 47 47 l i (by decide) (by decide) rfl
  · rw [esc_eq]
    exact play_unit O g c l i hs h1 hn
theorem play_written : ∀ (L P : List Int) (O l : List Int) (i : Nat), (∀ c ∈ L, isScal c = true ∧ isNon c = false) → Written L P →
    playV ⟨O, [], 0, [], 0, false⟩ (P ++ l) i = playV ⟨O ++ L, [], 0, [], 0, false⟩ l (i + P.length)
  | [], P, O, l, i, _, h => by
    have : P = [] := h
    subst this
    simp
  | c :: L, P, O, l, i, hL, h => by
    obtain ⟨p, R, h1, h2, h3⟩ := h
    have hc := hL c (by simp)
    rw [h2, List.append_assoc, play_form O c p (R ++ l) i hc.1 hc.2 h1, play_written L R (O ++ [c]) l (i + p.length) (fun d hd => hL d (by simp [hd])) h3]
    rw [List.append_assoc, List.length_append, Nat.add_assoc]
    rfl
theorem fourU_byt (g : Bool) (u : Int) (h0 : 0 ≤ u) (h1 : u < 65536) : Byt (fourU g u) := by
  intro x hx
  have hc : ∀ d : Int, 0 ≤ d → d < 16 → 0 ≤ hexC g d ∧ hexC g d ≤ 255 := fun d p q => by
    unfold hexC
    cases g <;> simp <;> (repeat' split) <;> omega
  simp only [fourU, List.mem_cons, List.not_mem_nil, or_false] at hx
  rcases hx with rfl | rfl | rfl | rfl <;> exact hc _ (by omega) (by omega)
theorem qB_byt (x : Int) (h0 : 0 ≤ x) (h1 : x ≤ 255) : Byt (qB x) := by
  unfold qB
  split
  · exact byt_cons (by omega) (byt_cons (by omega) (fun _ h => by simp at h))
  split
  · unfold oneL
    (repeat' split) <;> (intro y hy; simp only [List.mem_cons, List.not_mem_nil, or_false] at hy; omega)
  · exact byt_cons (by omega) (fun _ h => by simp at h)
theorem flat_byt {l : List Int} (h : Byt l) : Byt (l.flatMap qB) := fun x hx => by
  obtain ⟨y, hy, hx⟩ := List.mem_flatMap.1 hx
  exact qB_byt y (h y hy).1 (h y hy).2 x hx
theorem form_byt {c : Int} {p : List Int} (hs : isScal c = true) (h : Forms c p) : Byt p ∧ p.length ≤ 24 ∧ 1 ≤ p.length := by
  have hs' := hs
  simp only [isScal, decide_eq_true_eq] at hs'
  rcases h with rfl | ⟨h1, g, rfl⟩ | ⟨rfl, rfl⟩ | ⟨h1, g, rfl⟩
  · have hl := flat_len (encV c)
    have he := (encV_byt c).2
    refine ⟨flat_byt (encV_byt c).1, by omega, ?_⟩
    have h1 := enc_len c hs
    cases e : encV c with
    | nil => rw [e] at h1; simp at h1
    | cons a l =>
      have : 1 ≤ (qB a).length := by
        unfold qB oneL
        (repeat' split) <;> simp
      rw [List.flatMap_cons, List.length_append]
      omega
  · exact ⟨byt_app (byt_app (byt_nums rfl) (fourU_byt _ _ (by unfold hiU; omega) (by unfold hiU; omega))) (byt_app (byt_nums rfl) (fourU_byt _ _ (by unfold loU; omega) (by unfold loU; omega))), by simp [fourU], by simp [fourU]⟩
  · exact ⟨byt_nums rfl, by simp, by simp⟩
  · exact ⟨byt_app (byt_nums rfl) (fourU_byt _ _ (by omega) h1), by simp [fourU], by simp [fourU]⟩
theorem written_byt : ∀ {L P : List Int}, (∀ c ∈ L, isScal c = true) → Written L P → Byt P ∧ P.length ≤ 24 * L.length
  | [], P, _, h => by
    have : P = [] := h
    subst this
    exact ⟨fun _ h => by simp at h, by simp⟩
  | c :: L, P, hL, h => by
    obtain ⟨p, R, h1, h2, h3⟩ := h
    have hp := form_byt (hL c (by simp)) h1
    have hr := written_byt (fun d hd => hL d (by simp [hd])) h3
    rw [h2]
    exact ⟨byt_app hp.1 hr.1, by simp; omega⟩

end Go.Proofs.Ytkpeblpgfngjcaa.Pure
