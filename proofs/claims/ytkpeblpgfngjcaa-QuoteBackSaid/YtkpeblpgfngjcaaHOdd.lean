/- Texts by numbers; the odd writer. -/
import Derived.Test.YtkpeblpgfngjcaaPAllx1
import Derived.Test.YtkpeblpgfngjcaaPAllx2
import Derived.Test.YtkpeblpgfngjcaaPAllx3
import Derived.Test.YtkpeblpgfngjcaaPAllx4
import Derived.Test.YtkpeblpgfngjcaaPAllx5
import Derived.Test.YtkpeblpgfngjcaaPAllx6
import Derived.Test.YtkpeblpgfngjcaaPAllx7
import Derived.Test.YtkpeblpgfngjcaaHKit
import Derived.Test.YtkpeblpgfngjcaaLUtf
import Derived.Test.YtkpeblpgfngjcaaLRef
import Derived.Test.YtkpeblpgfngjcaaH12U
import Derived.Test.YtkpeblpgfngjcaaHQuote
import Derived.Test.YtkpeblpgfngjcaaHForms
import Derived.Outline
import Derived.OwnWalk
import Derived.Laws.DeepStrings4
namespace Go.Proofs.Ytkpeblpgfngjcaa.Pure
open Go.RowKit Go.Proofs.Ytkpeblpgfngjcaa.PAll Go.Proofs.YtkpeblpgfngjcaaW.PrintWords Go.Proofs.YtkpeblpgfngjcaaW.PrintLast Go.Proofs.YtkpeblpgfngjcaaW.PrintMore
set_option linter.unusedVariables false
set_option linter.unusedSimpArgs false

/-! ### Scalars by numbers -/
theorem place_val (n m : Int) (hm : 0 < m) (hm' : m < 4000000000000000000) : orthoepylaw00_Place.f n m = some (n % m) := by
  unfold orthoepylaw00_Place.f
  rw [if_neg (by omega)]
  have h1 := Int.tmod_lt_of_pos n hm
  have h2 := Int.lt_tmod_of_pos n hm
  have h3 : n.tmod m % m = n % m := by rw [Int.tmod_def, Int.sub_mul_emod_self_left]
  by_cases h : Int.tmod n m < 0
  · rw [if_pos h]
    have e : wrap64 (Int.tmod n m + m) = Int.tmod n m + m := by unfold wrap64; omega
    rw [e, ← h3]
    congr 1
    rw [← Int.add_emod_right, Int.emod_eq_of_lt (by omega) (by omega)]
  · rw [if_neg h, ← h3, Int.emod_eq_of_lt (by omega) (by omega)]
theorem rune_val (n : Int) : ∃ c, orthoepylaw00_Rune.f n = some c ∧ 0 ≤ c ∧ c ≤ 2147483647 := by
  have h0 := Int.emod_nonneg n (b := 1099511627776) (by decide)
  have h1 := Int.emod_lt_of_pos n (b := 1099511627776) (by decide)
  refine ⟨runeV (n % 1099511627776), ?_, runeV_bound _ h0⟩
  unfold orthoepylaw00_Rune.f
  rw [place_val n _ (by decide) (by decide)]
  simp only [Option.bind_some]
  rw [if_pos ⟨h0, h1⟩]
theorem runes_l0 (d : Nat) : ∀ (k : Nat) (x0 acc : List Int) (i : Int), 0 ≤ i → i ≤ 60 → 60 - i = d → 2 * d + 2 ≤ k → (∀ c ∈ acc, isScal c = true) → (acc.length : Int) ≤ i → x0.length ≤ 140737488355328 →
    ∃ L, orthoepylaw00_Runes.l0 k x0 acc i = some L ∧ (∀ c ∈ L, isScal c = true) ∧ L.length ≤ 60 := by
  induction d with
  | zero =>
    intro k x0 acc i h0 hi hd hk ha hl hx
    obtain ⟨k, rfl⟩ : ∃ m, k = m + 2 := ⟨k - 2, by omega⟩
    obtain rfl : i = 60 := by omega
    simp only [orthoepylaw00_Runes.l0, orthoepylaw00_Runes.j1]
    split <;> exact ⟨acc, by simp, ha, by omega⟩
  | succ d ih =>
    intro k x0 acc i h0 hi hd hk ha hl hx
    obtain ⟨k, rfl⟩ : ∃ m, k = m + 2 := ⟨k - 2, by omega⟩
    have ew : wrap64 (i + 1) = i + 1 := by unfold wrap64; omega
    simp only [orthoepylaw00_Runes.l0, orthoepylaw00_Runes.j1]
    by_cases hlt : i < (x0.length : Int)
    · rw [if_pos hlt, if_pos (by simp; omega), if_pos h0]
      simp only [hlt, if_true]
      obtain ⟨c, hc, _⟩ := rune_val (rd x0 i)
      rw [hc]
      simp only [Option.bind_some]
      rw [ris_val]
      simp only [Option.bind_some]
      cases hs : isScal c with
      | true =>
        simp only [if_true]
        rw [if_pos (by omega), ew]
        exact ih k x0 (acc ++ [c]) (i + 1) (by omega) (by omega) (by omega) (by omega) (fun q hq => by
          rcases List.mem_append.1 hq with hq | hq
          · exact ha q hq
          · simp at hq; rw [hq]; exact hs) (by simp; omega) hx
      | false =>
        simp only [Bool.false_eq_true, if_false]
        rw [ew]
        exact ih k x0 acc (i + 1) (by omega) (by omega) (by omega) (by omega) ha (by omega) hx
    · rw [if_neg hlt]
      exact ⟨acc, by simp, ha, by omega⟩
theorem runes_val (k : Nat) (x0 : List Int) (hk : 122 ≤ k) (hx : x0.length ≤ 140737488355328) : ∃ L, orthoepylaw00_Runes.f k x0 = some L ∧ (∀ c ∈ L, isScal c = true) ∧ L.length ≤ 60 := by
  unfold orthoepylaw00_Runes.f
  exact runes_l0 60 k x0 [] 0 (by omega) (by omega) (by omega) (by omega) (fun _ h => by cases h) (by simp) hx

/-! ### The odd writer -/
theorem rsplit_low (c : Int) (h : c < 65536) : orthoepyref01_Split.f c = some (0, 0, false) := by
  unfold orthoepyref01_Split.f
  rw [if_pos h]
theorem rsplit_high (c : Int) (h : 65536 ≤ c) (h1 : c ≤ 1114111) : orthoepyref01_Split.f c = some (hiU c, loU c, true) := by
  unfold orthoepyref01_Split.f hiU loU
  have e : wrap32 (c - 65536) = c - 65536 := by unfold wrap32; omega
  rw [if_neg (by omega), if_neg (by omega), e, Int.tdiv_eq_ediv_of_nonneg (by omega), Int.tmod_eq_emod_of_nonneg (by omega)]
  have e1 : wrap32 ((c - 65536) / 1024) = (c - 65536) / 1024 := by unfold wrap32; omega
  have e2 : wrap32 (55296 + (c - 65536) / 1024) = 55296 + (c - 65536) / 1024 := by unfold wrap32; omega
  have e3 : wrap32 (56320 + (c - 65536) % 1024) = 56320 + (c - 65536) % 1024 := by unfold wrap32; omega
  rw [e1, e2, e3, wrap_u16, wrap_u16, Int.emod_eq_of_lt (by omega) (by omega), Int.emod_eq_of_lt (by omega) (by omega)]
theorem cells_i32 {A : Option Addr} {l : List Int} {w : World} (hr : Kd.C (Kd.int .i32) w A l.length l) (k : Nat) (hk : k < l.length) :
    ∃ ad, A = some ad ∧ ∀ W, Below w.heap.size w W → W.cell? (ad.add k) = some (.int .i32 (l.getD k 0)) := by
  obtain ⟨_, _, h⟩ := Kd.reads_of_C (enc := Value.int .i32) (d := (0 : Int)) (h1 := fun _ => rfl) hr
  obtain ⟨ad, e, hc⟩ := h (by omega)
  exact ⟨ad, e, fun W hB => pw_cell_below hB (hc k hk)⟩
theorem quote_mid (l : List Int) : (strOfNums (quoteL l)).extract 1 ((l.flatMap qB).length + 1) = strOfNums (l.flatMap qB) := by
  apply ByteArray.ext
  simp only [ByteArray.data_extract, strOfNums, quoteL]
  apply Array.ext'
  simp
set_option maxHeartbeats 8000000 in
set_option maxRecDepth 100000 in
theorem quoted_any (n : Int) (L : List Int) (hL : ∀ c ∈ L, isScal c = true) (hl : L.length ≤ 100) (s : ByteArray) (hs : strOfNums (textV L) = s) (w : World) :
    Calls Try.prog 21 #[.string s, .int .i64 n] w fun e w' => ∃ P, Written L P ∧ e = .returned (.string (strOfNums (34 :: (P ++ [34])))) ∧ Keeps (fun _ => False) w w' := by
  have htl := textV_len L
  have hty := textV_byt L
  have hss : s.size ≤ 400 := by rw [← hs, str_size]; omega
  have hbn : bnums s = textV L := by rw [← hs]; exact bnums_nums _ hty
  have hav := allV_text L hL [] 0
  rw [List.nil_append] at hav
  have hof := fun W => rof_any s W (by omega) L _ _ (by rw [hbn]; exact hav) (by rw [hbn]; exact hty)
  have HOF := Aside0.mk hof
  have h40 := place_val n 1099511627776 (by decide) (by decide)
  obtain ⟨k, hk⟩ : ∃ k, n % 1099511627776 = k := ⟨_, rfl⟩
  have hk0 : 0 ≤ k := by omega
  have hk1 : k < 1099511627776 := by omega
  rw [hk] at h40
  have HPL := Aside0.mk h40
  have HLL := Aside0.mk hL
  clear hof h40 hk hav hbn htl hty hs hL
  go_enter Try.func21, Try.ntmps21
  go_wp2_with (first
    | (go_at_call 37; refine (orthoepylaw00_Place.calls n 1099511627776 k _ HPL.out).mono ?_; rintro e w1 ⟨rfl, hd⟩; obtain ⟨n1, hd⟩ := hd.out; subst hd)
    | (go_at_call 38; refine (HOF.out _).mono ?_; rintro e w2 ⟨A, c, rfl, hr, hb⟩; have HR := Aside0.mk hr; have HK2 := Aside0.mk (((Keeps.refl (fun _ => False) w).drewN n1).trans (Keeps.of_below hb (fun _ => False)) (fun _ q => q.elim)); clear hr hb))
  go_loopw [7, 8] (fun o i wr => ∃ (j : Nat) (P : List Int), j ≤ L.length ∧ i = .int .i64 j ∧ o = .string (strOfNums ([34] ++ P)) ∧ Aside0 (Written (L.take j) P) ∧ Aside0 (Keeps (fun _ => False) w2 wr)) (fun _ i _ => L.length - (intOf i).toNat)
  case atStart => exact ⟨0, [], Nat.zero_le _, rfl, rfl, ⟨rfl⟩, ⟨Keeps.refl _ _⟩⟩
  case round =>
    obtain ⟨j, P, hj, rfl, rfl, HW, HKr⟩ := hrel
    have hpl := (written_byt (fun c hc => HLL.out c (List.mem_of_mem_take hc)) HW.out).2
    rw [List.length_take] at hpl
    obtain ⟨X, hX⟩ : ∃ X, strOfNums ([34] ++ P) = X := ⟨_, rfl⟩
    have hXs : X.size ≤ 2401 := by rw [← hX, str_size]; simp; omega
    rw [hX]
    have HX := Aside0.mk hX
    clear hpl hX
    by_cases hlt : j < L.length
    · obtain ⟨ad, rfl, hcell⟩ := cells_i32 (Kd.R_reads' HR.out).2.2 j hlt
      have hjj : L[j]? = some (L.getD j 0) := by rw [List.getD_eq_getElem?_getD, List.getElem?_eq_getElem hlt]; rfl
      have hmem : L.getD j 0 ∈ L := List.mem_of_getElem? hjj
      have htk : L.take (j + 1) = L.take j ++ [L.getD j 0] := by rw [List.take_add_one, hjj]; rfl
      obtain ⟨c', hc0⟩ : ∃ x, L.getD j 0 = x := ⟨_, rfl⟩
      rw [hc0] at hmem htk hcell
      have hsc := HLL.out c' hmem
      have hcx := hcell wr (HKr.out.below (fun _ q => q.elim) (Nat.le_refl _))
      have hb := hsc
      simp only [isScal, decide_eq_true_eq] at hb
      have hc1 : 0 ≤ c' := by omega
      have hc2 : c' ≤ 1114111 := by omega
      have hbv := rbytes_val c' (by omega) (by omega)
      have hel := enc_len c' hsc
      have hey := (encV_byt c').1
      have hbn := bnums_nums (encV c') hey
      have hfl := flat_len (encV c')
      have hqm := quote_mid (encV c')
      obtain ⟨E, hE⟩ : ∃ E, encV c' = E := ⟨_, rfl⟩
      rw [hE] at hbv hel hey hbn hfl hqm
      obtain ⟨F, hF⟩ : ∃ F, E.flatMap qB = F := ⟨_, rfl⟩
      obtain ⟨Y, hY⟩ : ∃ Y, strOfNums E = Y := ⟨_, rfl⟩
      rw [hY] at hbn
      have hYs : Y.size ≤ 4 := by rw [← hY, str_size]; omega
      have hq := fun W => rquote_any Y W (by omega)
      rw [hbn] at hq
      obtain ⟨Z, hZ⟩ : ∃ Z, strOfNums (quoteL E) = Z := ⟨_, rfl⟩
      have hZs : Z.size = F.length + 2 := by rw [← hZ, str_size]; unfold quoteL; rw [hF]; simp
      simp only [hZ] at hq
      rw [hZ, hF] at hqm
      rw [hF] at hfl
      have hF1 : Forms c' F := .inl (by rw [hE, hF])
      have HFO := Aside0.mk hF1
      have HQ := Aside0.mk hq
      have HB := Aside0.mk hbv
      have HY := Aside0.mk hY
      have HQM := Aside0.mk hqm
      have HT := Aside0.mk htk
      have hfin : ∀ (q : List Int) (U : ByteArray), Forms c' q → strOfNums q = U → ∃ R, X ++ U = strOfNums ([34] ++ R) ∧ Written (L.take (j + 1)) R := fun q U hf hu => ⟨P ++ q, by rw [← HX.out, ← hu, str_app, List.append_assoc], by rw [HT.out]; exact written_snoc HW.out hf⟩
      have HFIN := Aside0.mk hfin
      have hpa := place_val (k + j) 2 (by decide) (by decide)
      have hpb := place_val (k / 3 + j) 4 (by decide) (by decide)
      obtain ⟨a, ha⟩ : ∃ a, (k + j) % 2 = a := ⟨_, rfl⟩
      obtain ⟨b, hb'⟩ : ∃ b, (k / 3 + j) % 4 = b := ⟨_, rfl⟩
      have hb3 : 0 ≤ b ∧ b < 4 := by omega
      rw [ha] at hpa
      rw [hb'] at hpb
      have HPA := Aside0.mk hpa
      have HPB := Aside0.mk hpb
      have HSC := Aside0.mk hsc
      have hE4 : E.length ≤ 4 := hel.2
      clear hjj hmem htk hcell hb hbv hel hey hbn hqm hE hF hY hq hZ hF1 hfin hpa hpb ha hb' hsc hc0
      obtain ⟨gg, hgg⟩ : ∃ gg : Bool, (a == 0) = gg := ⟨_, rfl⟩
      have hZ2 : 2 ≤ Z.size ∧ Z.size ≤ 26 := by omega
      by_cases hb0 : 0 < b
      · have t1 : decide (0 < b) = true := decide_eq_true hb0
        obtain ⟨V, hV⟩ : ∃ V, strOfNums F = V := ⟨_, rfl⟩
        have hVs : V.size ≤ 24 := by rw [← hV, str_size]; omega
        have hsl : (Instr.slice 9 (.string Z) (some (.int .i64 1)) (some (.int .i64 ((Z.size : Int) - 1))) none).run Try.prog = fun w => .ok (.string V) w := by
          funext w
          rw [run_slice_string_if w _ _ _ _ _ _ Try.underlying9, if_pos ⟨by omega, by omega⟩, if_pos ⟨by omega, by omega⟩]
          rw [← hV, ← HQM.out, show ((Z.size : Int) - 1).toNat = F.length + 1 by omega]
          rfl
        have HV := Aside0.mk (HFIN.out F V HFO.out hV)
        obtain ⟨h1, h2, two, hsp⟩ : ∃ h1 h2 two, orthoepyref01_Split.f c' = some (h1, h2, two) := by
          by_cases h : c' < 65536
          · exact ⟨_, _, _, rsplit_low c' h⟩
          · exact ⟨_, _, _, rsplit_high c' (by omega) hc2⟩
        have HSP := Aside0.mk hsp
        clear hV hsp hb0 hZs
        go_wp2_with (first
          | (go_at_call 24; refine (orthoepyref02_Bytes.calls c' E _ HB.out).mono ?_; rintro e w4 ⟨v1, rfl, hr1, hB1⟩; obtain ⟨B1, d1, e1⟩ := Kd.R_slice hr1; subst e1; have hcv := Kd.C_string (P := Try.prog) (c := d1) Try.underlying32 Try.underlying5 Try.underlying9 (Kd.R_reads' hr1).2.2; rw [HY.out] at hcv; have HK4 := Aside0.mk (HKr.out.below_ hB1); clear hr1 hB1)
          | (go_at_call 14; refine (HQ.out _).mono ?_; rintro e w' ⟨rfl, n5, rfl⟩)
          | (go_at_call 39; refine (orthoepyref01_Split.calls c' h1 h2 two _ HSP.out).mono ?_; rintro e w' ⟨rfl, hd⟩; obtain ⟨n6, hd⟩ := hd.out; subst hd)
          | (go_at_call 37; refine (orthoepylaw00_Place.calls (k + j) 2 a _ HPA.out).mono ?_; rintro e w' ⟨rfl, hd⟩; obtain ⟨n7, hd⟩ := hd.out; subst hd; clear HPA)
          | (go_at_call 37; refine (orthoepylaw00_Place.calls (k / 3 + j) 4 b _ HPB.out).mono ?_; rintro e w' ⟨rfl, hd⟩; obtain ⟨n8, hd⟩ := hd.out; subst hd))
        go_roundw
        case rel =>
          obtain ⟨R, e1, e2⟩ := HV.out
          exact ⟨j + 1, R, by omega, by go_num, by rw [e1], ⟨e2⟩, ⟨HK4.out.drewN _⟩⟩
        case measure => simp [intOf]; omega
      · have t1 : decide (0 < b) = false := decide_eq_false hb0
        by_cases h16 : 65536 ≤ c'
        · have HSP := Aside0.mk (rsplit_high c' h16 hc2)
          have hb1 : 0 ≤ hiU c' ∧ hiU c' < 65536 ∧ 0 ≤ loU c' ∧ loU c' < 65536 := by unfold hiU loU; omega
          have hf1 := fun W => rfour_lit gg (hiU c') W hb1.1 hb1.2.1
          have hf2 := fun W => rfour_lit (!gg) (loU c') W hb1.2.2.1 hb1.2.2.2
          obtain ⟨U1, hU1⟩ : ∃ U, strOfNums (fourU gg (hiU c')) = U := ⟨_, rfl⟩
          obtain ⟨U2, hU2⟩ : ∃ U, strOfNums (fourU (!gg) (loU c')) = U := ⟨_, rfl⟩
          have hUs : U1.size = 4 ∧ U2.size = 4 := by rw [← hU1, ← hU2, str_size, str_size]; exact ⟨rfl, rfl⟩
          simp only [hU1] at hf1
          simp only [hU2] at hf2
          have HF1 := Aside0.mk hf1
          have HF2 := Aside0.mk hf2
          have HV := Aside0.mk (HFIN.out ([92, 117] ++ fourU gg (hiU c') ++ ([92, 117] ++ fourU (!gg) (loU c'))) _ (.inr (.inl ⟨h16, gg, rfl⟩)) rfl)
          rw [← str_app, ← str_app, ← str_app, hU1, hU2] at HV
          have hU1s : U1.size ≤ 4 := by omega
          have hU2s : U2.size ≤ 4 := by omega
          obtain ⟨h1, hh1⟩ : ∃ h, hiU c' = h := ⟨_, rfl⟩
          obtain ⟨h2, hh2⟩ : ∃ h, loU c' = h := ⟨_, rfl⟩
          rw [hh1] at HSP HF1
          rw [hh2] at HSP HF2
          clear hf1 hf2 hU1 hU2 hUs hb0 hZs hb1 hh1 hh2
          go_wp2_with (first
            | (go_at_call 24; refine (orthoepyref02_Bytes.calls c' E _ HB.out).mono ?_; rintro e w4 ⟨v1, rfl, hr1, hB1⟩; obtain ⟨B1, d1, e1⟩ := Kd.R_slice hr1; subst e1; have hcv := Kd.C_string (P := Try.prog) (c := d1) Try.underlying32 Try.underlying5 Try.underlying9 (Kd.R_reads' hr1).2.2; rw [HY.out] at hcv; have HK4 := Aside0.mk (HKr.out.below_ hB1); clear hr1 hB1)
            | (go_at_call 14; refine (HQ.out _).mono ?_; rintro e w' ⟨rfl, n5, rfl⟩)
            | (go_at_call 39; refine (orthoepyref01_Split.calls c' h1 h2 true _ HSP.out).mono ?_; rintro e w' ⟨rfl, hd⟩; obtain ⟨n6, hd⟩ := hd.out; subst hd)
            | (go_at_call 37; refine (orthoepylaw00_Place.calls (k + j) 2 a _ HPA.out).mono ?_; rintro e w' ⟨rfl, hd⟩; obtain ⟨n7, hd⟩ := hd.out; subst hd; clear HPA)
            | (go_at_call 37; refine (orthoepylaw00_Place.calls (k / 3 + j) 4 b _ HPB.out).mono ?_; rintro e w' ⟨rfl, hd⟩; obtain ⟨n8, hd⟩ := hd.out; subst hd)
            | (go_at_call 40; refine (HF1.out _).mono ?_; rintro e w5 ⟨rfl, hk⟩; have HK5 := Aside0.mk hk; clear hk HF1)
            | (go_at_call 40; refine (HF2.out _).mono ?_; rintro e w6 ⟨rfl, hk⟩; have HK6 := Aside0.mk hk; clear hk))
          all_goals first
            | (rename_i hbig; exfalso; have z1 : (⟨#[92, 117]⟩ : ByteArray).size = 2 := rfl; (try simp only [ByteArray.size_append] at hbig); omega)
            | skip
          go_roundw
          case rel =>
            obtain ⟨R, e1, e2⟩ := HV.out
            exact ⟨j + 1, R, by omega, by go_num, by rw [ByteArray.append_assoc, ByteArray.append_assoc, ByteArray.append_assoc, ← ByteArray.append_assoc (a := ⟨#[92, 117]⟩) (b := U1)]; exact congrArg Value.string e1, ⟨e2⟩, ⟨((HK4.out.drewN _).trans HK5.out (fun _ q => q.elim)).trans HK6.out (fun _ q => q.elim)⟩⟩
          case measure => simp [intOf]; omega
        · have HSP := Aside0.mk (rsplit_low c' (by omega))
          by_cases h47 : c' = 47
          · have t47 : (c' == 47) = true := beq_iff_eq.mpr h47
            have HV := Aside0.mk (HFIN.out [92, 47] ⟨#[92, 47]⟩ (.inr (.inr (.inl ⟨h47, rfl⟩))) rfl)
            clear h47 hb0 hZs
            go_wp2_with (first
              | (go_at_call 24; refine (orthoepyref02_Bytes.calls c' E _ HB.out).mono ?_; rintro e w4 ⟨v1, rfl, hr1, hB1⟩; obtain ⟨B1, d1, e1⟩ := Kd.R_slice hr1; subst e1; have hcv := Kd.C_string (P := Try.prog) (c := d1) Try.underlying32 Try.underlying5 Try.underlying9 (Kd.R_reads' hr1).2.2; rw [HY.out] at hcv; have HK4 := Aside0.mk (HKr.out.below_ hB1); clear hr1 hB1)
              | (go_at_call 14; refine (HQ.out _).mono ?_; rintro e w' ⟨rfl, n5, rfl⟩)
              | (go_at_call 39; refine (orthoepyref01_Split.calls c' 0 0 false _ HSP.out).mono ?_; rintro e w' ⟨rfl, hd⟩; obtain ⟨n6, hd⟩ := hd.out; subst hd)
              | (go_at_call 37; refine (orthoepylaw00_Place.calls (k + j) 2 a _ HPA.out).mono ?_; rintro e w' ⟨rfl, hd⟩; obtain ⟨n7, hd⟩ := hd.out; subst hd; clear HPA)
              | (go_at_call 37; refine (orthoepylaw00_Place.calls (k / 3 + j) 4 b _ HPB.out).mono ?_; rintro e w' ⟨rfl, hd⟩; obtain ⟨n8, hd⟩ := hd.out; subst hd))
            go_roundw
            case rel =>
              obtain ⟨R, e1, e2⟩ := HV.out
              exact ⟨j + 1, R, by omega, by go_num, by rw [e1], ⟨e2⟩, ⟨HK4.out.drewN _⟩⟩
            case measure => simp [intOf]; omega
          · have t47 : (c' == 47) = false := beq_f h47
            have hf1 := fun W => rfour_lit gg c' W hc1 (by omega)
            obtain ⟨U1, hU1⟩ : ∃ U, strOfNums (fourU gg c') = U := ⟨_, rfl⟩
            have hU1s : U1.size ≤ 4 := by rw [← hU1, str_size]; exact Nat.le_refl _
            simp only [hU1] at hf1
            have HF1 := Aside0.mk hf1
            have HV := Aside0.mk (HFIN.out ([92, 117] ++ fourU gg c') _ (.inr (.inr (.inr ⟨by omega, gg, rfl⟩))) rfl)
            rw [← str_app, hU1] at HV
            have hcw : IntKind.u16.wrap c' = c' := by rw [wrap_u16]; omega
            clear hf1 hU1 h47 hb0 hZs
            go_wp2_with (first
              | (go_at_call 24; refine (orthoepyref02_Bytes.calls c' E _ HB.out).mono ?_; rintro e w4 ⟨v1, rfl, hr1, hB1⟩; obtain ⟨B1, d1, e1⟩ := Kd.R_slice hr1; subst e1; have hcv := Kd.C_string (P := Try.prog) (c := d1) Try.underlying32 Try.underlying5 Try.underlying9 (Kd.R_reads' hr1).2.2; rw [HY.out] at hcv; have HK4 := Aside0.mk (HKr.out.below_ hB1); clear hr1 hB1)
              | (go_at_call 14; refine (HQ.out _).mono ?_; rintro e w' ⟨rfl, n5, rfl⟩)
              | (go_at_call 39; refine (orthoepyref01_Split.calls c' 0 0 false _ HSP.out).mono ?_; rintro e w' ⟨rfl, hd⟩; obtain ⟨n6, hd⟩ := hd.out; subst hd)
              | (go_at_call 37; refine (orthoepylaw00_Place.calls (k + j) 2 a _ HPA.out).mono ?_; rintro e w' ⟨rfl, hd⟩; obtain ⟨n7, hd⟩ := hd.out; subst hd; clear HPA)
              | (go_at_call 37; refine (orthoepylaw00_Place.calls (k / 3 + j) 4 b _ HPB.out).mono ?_; rintro e w' ⟨rfl, hd⟩; obtain ⟨n8, hd⟩ := hd.out; subst hd)
              | (go_at_call 40; refine (HF1.out _).mono ?_; rintro e w5 ⟨rfl, hk⟩; have HK5 := Aside0.mk hk; clear hk HF1))
            go_roundw
            case rel =>
              obtain ⟨R, e1, e2⟩ := HV.out
              exact ⟨j + 1, R, by omega, by go_num, by rw [ByteArray.append_assoc]; exact congrArg Value.string e1, ⟨e2⟩, ⟨(HK4.out.drewN _).trans HK5.out (fun _ q => q.elim)⟩⟩
            case measure => simp [intOf]; omega
    · have hlt2 : decide (j < L.length) = false := decide_eq_false hlt
      obtain rfl : j = L.length := by omega
      have hw := HW.out
      rw [List.take_length] at hw
      have HW2 := Aside0.mk hw
      clear hw HW
      go_wp2
      go_ret
      have e34 : X ++ ⟨#[34]⟩ = strOfNums (34 :: (P ++ [34])) := by
        rw [← HX.out]
        exact str_app ([34] ++ P) [34]
      exact ⟨P, HW2.out, by rw [← e34]; rfl, HK2.out.trans HKr.out (fun _ q => q.elim)⟩

/-! ### A text by numbers: scalars, twenty at most, none of them a noncharacter -/
def GoodL (L : List Int) : Prop := (∀ c ∈ L, isScal c = true ∧ isNon c = false) ∧ L.length ≤ 20
theorem lstr_l0 (d : Nat) : ∀ (k : Nat) (x0 acc : List Int) (i : Int), 0 ≤ i → i ≤ 20 → 20 - i = d → 2 * d + 100 ≤ k → (∀ c ∈ acc, isScal c = true ∧ isNon c = false) → (acc.length : Int) ≤ i → x0.length ≤ 140737488355328 →
    ∃ L, GoodL L ∧ orthoepylaw00_Str.l0 k x0 acc i = some (strOfNums (textV L)) := by
  have fin : ∀ (k : Nat) (x0 acc : List Int) (i : Int), 50 ≤ k → (∀ c ∈ acc, isScal c = true ∧ isNon c = false) → acc.length ≤ 20 → ∃ L, GoodL L ∧ orthoepylaw00_Str.j1 k x0 acc i false = some (strOfNums (textV L)) := by
    intro k x0 acc i hk ha hl
    obtain ⟨k, rfl⟩ : ∃ m, k = m + 1 := ⟨k - 1, by omega⟩
    refine ⟨acc, ⟨ha, hl⟩, ?_⟩
    have hr : R32 acc := fun c hc => by
      have := (ha c hc).1
      simp only [isScal, decide_eq_true_eq] at this
      omega
    simp only [orthoepylaw00_Str.j1, Bool.false_eq_true, if_false]
    rw [rtext_val k acc hr (by omega) (by omega)]
    rfl
  induction d with
  | zero =>
    intro k x0 acc i h0 hi hd hk ha hl hx
    obtain ⟨k, rfl⟩ : ∃ m, k = m + 1 := ⟨k - 1, by omega⟩
    obtain rfl : i = 20 := by omega
    simp only [orthoepylaw00_Str.l0]
    split
    · exact fin k x0 acc 20 (by omega) ha (by omega)
    · exact fin k x0 acc 20 (by omega) ha (by omega)
  | succ d ih =>
    intro k x0 acc i h0 hi hd hk ha hl hx
    obtain ⟨k, rfl⟩ : ∃ m, k = m + 2 := ⟨k - 2, by omega⟩
    have ew : wrap64 (i + 1) = i + 1 := by unfold wrap64; omega
    simp only [orthoepylaw00_Str.l0]
    by_cases hlt : i < (x0.length : Int)
    · rw [if_pos hlt, show decide (i < 20) = true from decide_eq_true (by omega)]
      simp only [orthoepylaw00_Str.j1, if_true]
      rw [if_pos h0, if_pos hlt]
      obtain ⟨c, hc, _⟩ := rune_val (rd x0 i)
      rw [hc, Option.bind_some, ris_val, Option.bind_some]
      cases hs : isScal c with
      | true =>
        rw [if_pos rfl, rnon_val, Option.bind_some]
        cases hn : isNon c with
        | true =>
          rw [if_pos rfl, ew]
          exact ih k x0 acc (i + 1) (by omega) (by omega) (by omega) (by omega) ha (by omega) hx
        | false =>
          rw [if_neg (by decide), if_pos (by omega), ew]
          exact ih k x0 (acc ++ [c]) (i + 1) (by omega) (by omega) (by omega) (by omega) (fun q hq => by
            rcases List.mem_append.1 hq with hq | hq
            · exact ha q hq
            · simp at hq; rw [hq]; exact ⟨hs, hn⟩) (by simp; omega) hx
      | false =>
        rw [if_neg (by decide), ew]
        exact ih k x0 acc (i + 1) (by omega) (by omega) (by omega) (by omega) ha (by omega) hx
    · rw [if_neg hlt]
      exact fin (k + 1) x0 acc i (by omega) ha (by omega)
theorem lstr_val (k : Nat) (x0 : List Int) (hk : 200 ≤ k) (hx : x0.length ≤ 140737488355328) : ∃ L, GoodL L ∧ orthoepylaw00_Str.f k x0 = some (strOfNums (textV L)) := by
  unfold orthoepylaw00_Str.f
  exact lstr_l0 20 k x0 [] 0 (by omega) (by omega) (by omega) (by omega) (fun _ h => by cases h) (by simp) hx

end Go.Proofs.Ytkpeblpgfngjcaa.Pure
