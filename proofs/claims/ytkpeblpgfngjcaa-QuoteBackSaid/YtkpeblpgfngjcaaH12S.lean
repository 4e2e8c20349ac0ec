/- Both strings play alike, plainly. -/
import Derived.Test.YtkpeblpgfngjcaaPAllx1
import Derived.Test.YtkpeblpgfngjcaaPAllx2
import Derived.Test.YtkpeblpgfngjcaaPAllx3
import Derived.Test.YtkpeblpgfngjcaaPAllx4
import Derived.Test.YtkpeblpgfngjcaaPAllx5
import Derived.Test.YtkpeblpgfngjcaaHKit
import Derived.Test.YtkpeblpgfngjcaaLUtf
import Derived.Test.YtkpeblpgfngjcaaLRef
import Derived.Test.YtkpeblpgfngjcaaH12d
namespace Go.Proofs.Ytkpeblpgfngjcaa.Pure
open Go.RowKit Go.Proofs.Ytkpeblpgfngjcaa.PAll Go.Proofs.YtkpeblpgfngjcaaW.PrintWords Go.Proofs.YtkpeblpgfngjcaaW.PrintLast Go.Proofs.YtkpeblpgfngjcaaW.PrintMore
set_option linter.unusedVariables false
set_option linter.unusedSimpArgs false

/-! ### Both strings, side by side -/
theorem how1_ge {B : List Int} {x : Int} (hp : B = [] ∨ howV B = 1) (h0 : 0 ≤ x) (h : howV (B ++ [x]) = 1) : 128 ≤ x := by
  cases B with
  | nil =>
    have := (how_first x h0).1
    rw [List.nil_append] at h
    rw [h] at this
    have hb := szV_range x
    unfold szV at this
    (repeat' split at this) <;> omega
  | cons a r =>
    have hw : howV (a :: r) = 1 := by simpa using hp
    have := (how_more a r x hw).1
    rw [h] at this
    split at this
    · cases this
    · rename_i hn
      have ht : tailV x = true := by
        cases e : tailV x with
        | true => rfl
        | false => exact absurd (.inr e) hn
      simp only [tailV, decide_eq_true_eq] at ht
      omega
theorem how_tail {a x : Int} {r : List Int} (hw : howV (a :: r) = 1) (h : howV (a :: r ++ [x]) ≠ 0) : 128 ≤ x := by
  have := (how_more a r x hw).1
  by_cases hn : (r = [] ∧ secV a x = false) ∨ tailV x = false
  · rw [if_pos hn] at this
    exact absurd this h
  · have ht : tailV x = true := by
      cases e : tailV x with
      | true => rfl
      | false => exact absurd (.inr e) hn
    simp only [tailV, decide_eq_true_eq] at ht
    omega
structure Sim (m : Nat) (s : SV) (t : RV) : Prop where
  text : s.text = textV t.Out
  n : s.n = t.Out.length
  pre : t.B = [] ∨ howV t.B = 1
  byt : Byt t.B
  st : StV t.B s.c0 s.c1 s.c2 s.c3
  esc : s.at_ = t.Esc
  escs : t.Esc = 0 ∨ t.Esc = 1 ∨ t.Esc = 2
  hex2 : t.Esc = 2 → s.u = valH t.Hex ∧ s.many = t.Hex.length
  hex0 : t.Esc ≠ 2 → t.Hex = []
  hexl : t.Hex.length ≤ 3
  hexd : ∀ d ∈ t.Hex, 0 ≤ d ∧ d ≤ 15
  wait : s.high = t.Wait
  waits : t.Wait = 0 ∨ hiS t.Wait = true
  over : s.en = t.Over
  b0 : t.B ≠ [] → t.Esc = 0 ∧ t.Wait = 0
  len : t.Out.length ≤ m
  out : ∀ c ∈ t.Out, isScal c = true
theorem Sim.up {m m' : Nat} {s : SV} {t : RV} (h : Sim m s t) (hm : m ≤ m') : Sim m' s t := { h with len := Nat.le_trans h.len hm }
theorem Sim.zero (m : Nat) : Sim m SV.zero RV.zero where
  text := rfl
  n := rfl
  pre := .inl rfl
  byt := fun _ h => by cases h
  st := ⟨rfl, fun _ _ h => by cases h⟩
  esc := rfl
  escs := .inl rfl
  hex2 := fun h => by cases h
  hex0 := fun _ => rfl
  hexl := by decide
  hexd := fun _ h => by cases h
  wait := rfl
  waits := .inl rfl
  over := rfl
  b0 := fun h => absurd rfl h
  len := Nat.zero_le _
  out := fun _ h => by cases h
theorem valH_bound : ∀ (l : List Int), l.length ≤ 3 → (∀ d ∈ l, 0 ≤ d ∧ d ≤ 15) → 0 ≤ valH l ∧ (l.length = 0 → valH l = 0) ∧ (l.length = 1 → valH l < 16) ∧ (l.length = 2 → valH l < 256) ∧ (l.length = 3 → valH l < 4096)
  | [], _, _ => by simp [valH]
  | [a], _, h => by
    have ha := h a (by simp)
    simp [valH]
    omega
  | [a, b], _, h => by
    have ha := h a (by simp)
    have hb := h b (by simp)
    simp [valH]
    omega
  | [a, b, c], _, h => by
    have ha := h a (by simp)
    have hb := h b (by simp)
    have hc := h c (by simp)
    simp [valH]
    omega
  | _ :: _ :: _ :: _ :: _, h, _ => by simp at h
theorem Sim.okR {m : Nat} {s : SV} {t : RV} (h : Sim m s t) (hm : m ≤ 200000) : t.Ok :=
  ⟨by have := h.len; omega, ⟨h.hexl, h.hexd⟩, h.waits, ⟨h.byt, h.pre⟩⟩
theorem Sim.okS {m : Nat} {s : SV} {t : RV} (h : Sim m s t) (hm : m ≤ 200000) : s.Ok := by
  have hl := h.len
  refine ⟨?_, ?_, fun ha => ?_⟩
  · rw [h.text]
    have := textV_len t.Out
    omega
  · rw [h.n]
    omega
  · obtain ⟨h1, h2⟩ := h.hex2 (h.esc ▸ ha)
    have hb := valH_bound t.Hex h.hexl h.hexd
    have := h.hexl
    rw [h1, h2]
    omega
theorem Sim.r32 {m : Nat} {s : SV} {t : RV} (h : Sim m s t) : R32 t.Out := fun c hc => by
  have := h.out c hc
  unfold isScal at this
  simp only [decide_eq_true_eq] at this
  omega
theorem Sim.inside {m : Nat} {s : SV} {t : RV} (h : Sim m s t) : s.inside = t.inside := by
  have hst := h.st.1
  have hw := h.waits
  have he := h.escs
  unfold SV.inside RV.inside
  rw [h.esc, h.wait, hst]
  have e1 : decide (0 < (t.B.length : Int)) = decide (0 < t.B.length) := by rw [Bool.eq_iff_iff]; simp
  have e2 : (t.Esc != 0) = decide (0 < t.Esc) := by rw [Bool.eq_iff_iff]; simp; omega
  have e3 : (t.Wait != 0) = decide (0 < t.Wait) := by
    rw [Bool.eq_iff_iff]
    simp
    rcases hw with e | e
    · omega
    · simp only [hiS, decide_eq_true_eq] at e
      omega
  rw [e1, e2, e3]

theorem Sim.say {m : Nat} {s : SV} {t : RV} (h : Sim m s t) (c : Int) (hc : isScal c = true) (s' : SV) (t' : RV) (e1 : s'.text = s.text ++ encV c) (e2 : s'.n = s.n + 1) (e3 : t'.Out = t.Out ++ [c])
    (p1 : t'.B = [] ∨ howV t'.B = 1) (p2 : Byt t'.B) (p3 : StV t'.B s'.c0 s'.c1 s'.c2 s'.c3) (e4 : s'.at_ = 0) (e5 : t'.Esc = 0) (e6 : t'.Hex = []) (e7 : s'.high = 0) (e8 : t'.Wait = 0) (e9 : s'.en = t'.Over) : Sim (m + 1) s' t' where
  text := by rw [e1, e3, textV_snoc, h.text]
  n := by rw [e2, e3, h.n]; simp
  pre := p1
  byt := p2
  st := p3
  esc := by rw [e4, e5]
  escs := .inl e5
  hex2 := fun q => by rw [e5] at q; cases q
  hex0 := fun _ => e6
  hexl := by rw [e6]; decide
  hexd := fun d hd => by rw [e6] at hd; cases hd
  wait := by rw [e7, e8]
  waits := .inl e8
  over := e9
  b0 := fun _ => ⟨e5, e8⟩
  len := by rw [e3]; simp; exact h.len
  out := fun d hd => by
    rw [e3] at hd
    rcases List.mem_append.1 hd with hd | hd
    · exact h.out d hd
    · simp at hd
      rw [hd]
      exact hc
theorem escC_scal {x c : Int} (h : escC x = some c) : isScal c = true := by
  unfold escC at h
  (repeat' split at h) <;> (first | (cases h; done) | (obtain rfl := Option.some.inj h; decide))
theorem wrong_zero {hi u many : Int} (h : wrongV hi u many = 0) : ¬ (hi ≠ 0 ∧ lowV u many = false ∨ hi = 0 ∧ 2 ≤ many ∧ lowV u many = true) := by
  intro q
  rw [wrong_5 q] at h
  cases h
theorem sim_digits {m : Nat} {s : SV} {t : RV} (h : Sim m s t) (x : Int) (ha : s.at_ = 2) : (digitsV s x).1 = (rdigitsV t x).1 ∧ Sim (m + 1) (digitsV s x).2 (rdigitsV t x).2 := by
  have hE : t.Esc = 2 := h.esc ▸ ha
  obtain ⟨h1, h2⟩ := h.hex2 hE
  have hB : t.B = [] := by
    cases e : t.B with
    | nil => rfl
    | cons a r =>
      have := (h.b0 (by rw [e]; simp)).1
      omega
  have hst := h.st
  rw [hB] at hst
  have hx := hexV_range x
  unfold digitsV rdigitsV
  rw [h.wait, h1, h2]
  by_cases hv : hexV x < 0
  · rw [if_pos hv, if_pos hv]
    exact ⟨rfl, h.up (by omega)⟩
  rw [if_neg hv, if_neg hv]
  have hb := valH_bound t.Hex h.hexl h.hexd
  have hl := h.hexl
  generalize hu : valH t.Hex * 16 + hexV x = u
  have hub : 0 ≤ u ∧ u < 65536 := by omega
  by_cases he : wrongV t.Wait u ((t.Hex.length : Int) + 1) = 0
  · have hne : ¬ (wrongV t.Wait u ((t.Hex.length : Int) + 1) ≠ 0) := fun q => q he
    simp only [if_neg hne]
    by_cases h3 : (t.Hex.length : Int) + 1 < 4
    · rw [if_pos h3, if_pos h3]
      refine ⟨rfl, ?_⟩
      have hlen : (t.Hex ++ [hexV x]).length = t.Hex.length + 1 := by simp
      exact { text := h.text, n := h.n, pre := h.pre, byt := h.byt, st := h.st, esc := h.esc, escs := h.escs
              hex2 := fun _ => ⟨by
                show u = valH (t.Hex ++ [hexV x])
                rw [← hu]
                match t.Hex, hl, h3 with
                | [], _, _ => simp [valH]
                | [a], _, _ => simp [valH]
                | [a, b], _, _ => simp [valH]
                | [a, b, c], _, q => simp at q
                | _ :: _ :: _ :: _ :: _, q, _ => simp at q, by
                show s.many + 1 = ((t.Hex ++ [hexV x]).length : Int)
                rw [hlen, h2]
                omega⟩
              hex0 := fun q => absurd hE q
              hexl := by show (t.Hex ++ [hexV x]).length ≤ 3; omega
              hexd := fun d hd => by
                rcases List.mem_append.1 hd with hd | hd
                · exact h.hexd d hd
                · simp at hd
                  rw [hd]
                  omega
              wait := h.wait, waits := h.waits, over := h.over, b0 := h.b0, len := Nat.le_succ_of_le h.len, out := h.out }
    · rw [if_neg h3, if_neg h3]
      have hm4 : (t.Hex.length : Int) + 1 = 4 := by omega
      rw [hm4] at he
      have hnw := wrong_zero he
      by_cases hp : hiS t.Wait = true ∧ loS u = true
      · rw [if_pos hp, if_pos hp]
        refine ⟨rfl, h.say (joinV t.Wait u) ?_ _ _ rfl rfl rfl h.pre h.byt h.st rfl rfl rfl rfl rfl h.over⟩
        obtain ⟨p1, p2⟩ := hp
        simp only [hiS, loS, decide_eq_true_eq] at p1 p2
        unfold isScal joinV
        exact decide_eq_true (by omega)
      · rw [if_neg hp, if_neg hp]
        have hw0 : t.Wait = 0 := by
          rcases h.waits with e | e
          · exact e
          · have hl4 : lowV u 4 = loS u := by simp [lowV]
            have hlo : loS u = false := by
              cases q : loS u with
              | false => rfl
              | true => exact absurd ⟨e, q⟩ hp
            refine absurd (.inl ⟨?_, by rw [hl4, hlo]⟩) hnw
            intro z
            rw [z] at e
            exact absurd e (by decide)
        by_cases hh : hiS u = true
        · rw [if_pos hh, if_pos hh]
          refine ⟨rfl, { text := h.text, n := h.n, pre := h.pre, byt := h.byt, st := h.st, esc := rfl, escs := .inl rfl, hex2 := fun q => (by cases q), hex0 := fun _ => rfl, hexl := Nat.zero_le _, hexd := fun d hd => (by cases hd), wait := rfl, waits := .inr hh, over := h.over, b0 := fun q => absurd hB q, len := Nat.le_succ_of_le h.len, out := h.out }⟩
        · rw [if_neg hh, if_neg hh]
          refine ⟨rfl, h.say u ?_ _ _ rfl rfl rfl h.pre h.byt h.st rfl rfl rfl rfl rfl h.over⟩
          have hl4 : lowV u 4 = loS u := by simp [lowV]
          have hlo : loS u = false := by
            cases q : loS u with
            | false => rfl
            | true => exact absurd (.inr ⟨hw0, by decide, by rw [hl4, q]⟩) hnw
          simp only [hiS, loS, decide_eq_true_eq, decide_eq_false_iff_not] at hh hlo
          unfold isScal
          exact decide_eq_true (by omega)
  · rw [if_pos he, if_pos he]
    exact ⟨rfl, h.up (by omega)⟩

theorem scal_whole {b : List Int} (hb : Byt b) (h : howV b = 2) : isScal (ofV b) = true := by
  unfold isScal
  apply decide_eq_true
  match b, h, hb with
  | [], h, _ => simp [howV] at h
  | [f], h, hb =>
    have hf := hb f (by simp)
    have hz := szV_bounds f
    have e : szV f = 1 := by
      simp only [howV] at h
      (repeat' split at h) <;> first | assumption | omega
    have := (how_first f hf.1).2.1 e
    rw [this]
    omega
  | [f, x], h, hb =>
    have hf := hb f (by simp)
    have hz := szV_bounds f
    simp only [howV] at h
    (repeat' split at h) <;> (try omega)
    rename_i q e
    have e2 := hz.2.1 e
    have hs : secV f x = true := by
      cases q2 : secV f x with
      | true => rfl
      | false => exact absurd (.inr q2) q
    simp only [secV, decide_eq_true_eq] at hs
    simp only [ofV, baseV]
    (repeat' split) <;> omega
  | [f, x, y], h, hb =>
    have hf := hb f (by simp)
    have hz := szV_bounds f
    simp only [howV] at h
    (repeat' split at h) <;> (try omega)
    rename_i q e
    have e2 := hz.2.2.1 e
    have hs : secV f x = true := by
      cases q2 : secV f x with
      | true => rfl
      | false => exact absurd (.inr (.inl q2)) q
    have ht : tailV y = true := by
      cases q2 : tailV y with
      | true => rfl
      | false => exact absurd (.inr (.inr q2)) q
    simp only [secV, tailV, decide_eq_true_eq] at hs ht
    simp only [ofV, baseV]
    (repeat' split) <;> omega
  | [f, x, y, z], h, hb =>
    have hf := hb f (by simp)
    have hz := szV_bounds f
    have hr := szV_range f
    simp only [howV] at h
    (repeat' split at h) <;> (try omega)
    rename_i q
    have e2 := hz.2.2.2 (by omega)
    have hs : secV f x = true := by
      cases q2 : secV f x with
      | true => rfl
      | false => exact absurd (.inr (.inl q2)) q
    have ht : tailV y = true := by
      cases q2 : tailV y with
      | true => rfl
      | false => exact absurd (.inr (.inr (.inl q2))) q
    have hu : tailV z = true := by
      cases q2 : tailV z with
      | true => rfl
      | false => exact absurd (.inr (.inr (.inr q2))) q
    simp only [secV, tailV, decide_eq_true_eq] at hs ht hu
    simp only [ofV, baseV]
    (repeat' split) <;> omega
  | _ :: _ :: _ :: _ :: _ :: _, h, _ => simp [howV] at h
theorem sim_escape {m : Nat} {s : SV} {t : RV} (h : Sim m s t) (x : Int) (ha : s.at_ = 1) : (escapeV s x).1 = (rescapeV t x).1 ∧ Sim (m + 1) (escapeV s x).2 (rescapeV t x).2 := by
  have hE : t.Esc = 1 := h.esc ▸ ha
  have hB : t.B = [] := by
    cases e : t.B with
    | nil => rfl
    | cons a r =>
      have := (h.b0 (by rw [e]; simp)).1
      omega
  have hst := h.st
  unfold escapeV rescapeV
  by_cases hu : x = 117
  · simp only [if_pos hu]
    refine ⟨trivial, { text := h.text, n := h.n, pre := h.pre, byt := h.byt, st := h.st, esc := rfl, escs := .inr (.inr rfl), hex2 := fun _ => ?_, hex0 := fun q => absurd rfl q, hexl := h.hexl, hexd := h.hexd, wait := h.wait, waits := h.waits, over := h.over, b0 := fun q => absurd hB q, len := Nat.le_succ_of_le h.len, out := h.out }⟩
    have e := h.hex0 (by omega)
    show (0 : Int) = valH t.Hex ∧ (0 : Int) = (t.Hex.length : Int)
    rw [e]
    exact ⟨rfl, rfl⟩
  · simp only [if_neg hu]
    cases hc : escC x with
    | none => exact ⟨rfl, h.up (by omega)⟩
    | some c =>
      have hw := h.waits
      by_cases hz : t.Wait = 0
      · have n1 : ¬ s.high ≠ 0 := fun q => q (by rw [h.wait, hz])
        have n2 : ¬ 0 < t.Wait := by omega
        simp only [if_neg n1, if_neg n2]
        refine ⟨trivial, h.say c (escC_scal hc) _ _ rfl rfl rfl h.pre h.byt h.st rfl rfl (h.hex0 (by omega)) rfl hz h.over⟩
      · have n1 : s.high ≠ 0 := by rw [h.wait]; exact hz
        have n2 : 0 < t.Wait := by
          rcases hw with e | e
          · exact absurd e hz
          · simp only [hiS, decide_eq_true_eq] at e
            omega
        simp only [if_pos n1, if_pos n2]
        exact ⟨trivial, h.up (by omega)⟩
theorem non_low {x : Int} (h0 : 0 ≤ x) (h1 : x < 128) : isNon x = false := by
  unfold isNon
  have a : decide (x ≥ 64976 ∧ x ≤ 65007) = false := decide_eq_false (by omega)
  have b : decide (x % 65536 ≥ 65534) = false := decide_eq_false (by omega)
  rw [a, b, Bool.and_false]
  rfl
theorem how_range : ∀ l : List Int, howV l = 0 ∨ howV l = 1 ∨ howV l = 2
  | [] => .inl rfl
  | [f] => by simp only [howV]; (repeat' split) <;> simp
  | [f, x] => by simp only [howV]; (repeat' split) <;> simp
  | [f, x, y] => by simp only [howV]; (repeat' split) <;> simp
  | [f, x, y, z] => by simp only [howV]; (repeat' split) <;> simp
  | _ :: _ :: _ :: _ :: _ :: _ => .inl rfl
theorem sim_step {m : Nat} {s : SV} {t : RV} (h : Sim m s t) (x : Int) (h0 : 0 ≤ x) (h1 : x ≤ 255) :
    ∃ tt, (s.en = false → s.at_ ≠ 1 → s.at_ ≠ 2 → utf8_Reader_Push.f (0 + 5) s.c0 s.c1 s.c2 s.c3 x = some tt ∧ (tt.2.1 = 1 ∨ tt.2.1 = 2 ∨ tt.2.1 = 3) ∧ (tt.2.1 = 1 → x ≠ 92)) ∧
      (pushV s x tt).1 = (rpushV t x).1 ∧ (pushV s x tt).2.1 = (rpushV t x).2.1 ∧ Sim (m + 1) (pushV s x tt).2.2 (rpushV t x).2.2 := by
  obtain ⟨f', c', n', d', hf, q2, q1, q0⟩ := push_val 0 t.B s.c0 s.c1 s.c2 s.c3 x h.pre h.byt h.st h0 h1
  refine ⟨_, fun _ _ _ => ⟨hf, ?_, ?_⟩, ?_⟩
  · show (if howV (t.B ++ [x]) = 2 then (2 : Int) else if howV (t.B ++ [x]) = 1 then 1 else 3) = 1 ∨ _ ∨ _
    (repeat' split) <;> simp
  · show (if howV (t.B ++ [x]) = 2 then (2 : Int) else if howV (t.B ++ [x]) = 1 then 1 else 3) = 1 → _
    intro e
    (repeat' split at e) <;> (try omega)
    have := how1_ge h.pre h0 (by assumption)
    omega
  clear hf
  have hw := h.waits
  have hes := h.escs
  have hov := h.over
  have hyt : Byt (t.B ++ [x]) := fun y hy => by
    rcases List.mem_append.1 hy with hy | hy
    · exact h.byt y hy
    · simp at hy
      omega
  have hup : Sim (m + 1) s t := h.up (by omega)
  unfold pushV rpushV
  by_cases c0 : s.en = true
  · simp only [if_pos c0, if_pos (Or.inl (hov ▸ c0) : t.Over = true ∨ x < 32)]
    exact ⟨trivial, trivial, hup⟩
  have c0' : ¬ t.Over = true := hov ▸ c0
  simp only [if_neg c0]
  by_cases c1 : x < 32
  · simp only [if_pos (Or.inr c1 : t.Over = true ∨ x < 32)]
    have e1 : escC x = none := by
      unfold escC
      (repeat' split) <;> first | rfl | (exfalso; omega)
    have e2 : hexV x < 0 := by
      unfold hexV
      (repeat' split) <;> omega
    by_cases a1 : s.at_ = 1
    · simp only [if_pos a1, escapeV, if_neg (show ¬ x = 117 by omega), e1]
      exact ⟨trivial, trivial, hup⟩
    · by_cases a2 : s.at_ = 2
      · simp only [if_neg a1, if_pos a2, digitsV, if_pos e2]
        exact ⟨trivial, trivial, hup⟩
      · simp only [if_neg a1, if_neg a2, plainV, if_pos c1]
        exact ⟨trivial, trivial, hup⟩
  have c2 : ¬ (t.Over = true ∨ x < 32) := fun q => q.elim c0' c1
  simp only [if_neg c2]
  by_cases a1 : s.at_ = 1
  · have b1 : ¬ t.Esc = 2 := by rw [← h.esc]; omega
    have b2 : t.Esc = 1 := by rw [← h.esc]; exact a1
    simp only [if_pos a1, if_neg b1, if_pos b2]
    exact ⟨trivial, sim_escape h x a1⟩
  by_cases a2 : s.at_ = 2
  · have b2 : t.Esc = 2 := by rw [← h.esc]; exact a2
    simp only [if_neg a1, if_pos a2, if_pos b2]
    exact ⟨trivial, sim_digits h x a2⟩
  have hE : t.Esc = 0 := by
    rw [← h.esc] at hes ⊢
    omega
  have b1 : ¬ t.Esc = 2 := by omega
  have b2 : ¬ t.Esc = 1 := by omega
  have hH := h.hex0 b1
  have hwp : 0 < t.Wait ↔ t.Wait ≠ 0 := by
    rcases hw with e | e
    · omega
    · simp only [hiS, decide_eq_true_eq] at e
      omega
  simp only [if_neg a1, if_neg a2, if_neg b1, if_neg b2]
  unfold plainV
  simp only [if_neg c1, h.wait]
  by_cases hlow : 0 < t.B.length ∨ 128 ≤ x
  · simp only [if_pos hlow, rbytesV, hwp]
    have hx128 : howV (t.B ++ [x]) ≠ 0 → 128 ≤ x := by
      intro hh
      rcases hlow with q | q
      · cases e : t.B with
        | nil => rw [e] at q; exact absurd q (by decide)
        | cons a r =>
          rw [e] at hh
          have hp := h.pre
          rw [e] at hp
          exact how_tail (by simpa using hp) hh
      · exact q
    have hrange := how_range (t.B ++ [x])
    rcases hrange with e | e | e
    · simp only [e]
      simp
      exact hup
    · have hx := hx128 (by omega)
      have n92 : x ≠ 92 := by omega
      simp only [e]
      by_cases hz : t.Wait = 0
      · simp [hz, n92]
        exact { text := h.text, n := h.n, pre := .inr e, byt := hyt, st := q1 e, esc := h.esc, escs := h.escs, hex2 := h.hex2, hex0 := h.hex0, hexl := h.hexl, hexd := h.hexd, wait := h.wait.trans hz, waits := .inl rfl, over := h.over, b0 := fun _ => ⟨hE, rfl⟩, len := Nat.le_succ_of_le h.len, out := h.out }
      · simp [hz, n92]
        exact hup
    · have hx := hx128 (by omega)
      have n92 : x ≠ 92 := by omega
      have n34 : x ≠ 34 := by omega
      simp only [e]
      by_cases hz : t.Wait = 0
      · simp [hz, n92, n34]
        by_cases hn : isNon (ofV (t.B ++ [x])) = true
        · simp [hn]
          exact hup
        · simp [hn]
          exact h.say (ofV (t.B ++ [x])) (scal_whole hyt e) _ _ rfl rfl rfl (.inl rfl) (fun _ hh => by cases hh) (q2 e) rfl hE hH rfl hz h.over
      · simp [hz, n92, n34]
        exact hup
  · have hB : t.B = [] := by
      cases e : t.B with
      | nil => rfl
      | cons a r => rw [e] at hlow; simp at hlow
    have hx : x < 128 := by omega
    have hsz : szV x = 1 := if_pos hx
    have hf := how_first x h0
    rw [if_pos hsz] at hf
    have hs0 := h.st
    rw [hB] at hs0
    have e : howV (t.B ++ [x]) = 2 := by rw [hB]; exact hf.1
    have eo : ofV (t.B ++ [x]) = x := by rw [hB]; exact hf.2.1 hsz
    simp only [if_neg hlow, e, eo, hwp, non_low h0 hx]
    by_cases h92 : x = 92
    · simp [h92]
      exact { text := h.text, n := h.n, pre := h.pre, byt := h.byt, st := h.st, esc := rfl, escs := .inr (.inl rfl), hex2 := fun q => (by cases q), hex0 := fun _ => hH, hexl := h.hexl, hexd := h.hexd, wait := h.wait, waits := h.waits, over := h.over, b0 := fun q => absurd hB q, len := Nat.le_succ_of_le h.len, out := h.out }
    · by_cases hz : t.Wait = 0
      · by_cases h34 : x = 34
        · simp [hz, h34]
          exact { text := h.text, n := h.n, pre := h.pre, byt := h.byt, st := h.st, esc := h.esc, escs := h.escs, hex2 := h.hex2, hex0 := h.hex0, hexl := h.hexl, hexd := h.hexd, wait := h.wait.trans hz, waits := .inl rfl, over := rfl, b0 := fun q => absurd hB q, len := Nat.le_succ_of_le h.len, out := h.out }
        · simp [hz, h34, h92]
          have hsc : isScal x = true := by
            unfold isScal
            exact decide_eq_true (by omega)
          have hst2 := q2 e
          rw [← hB] at hst2
          have key : Sim (m + 1) ((s.say (encV x)).setr f' c' n' d') (t.say x) := h.say x hsc _ _ rfl rfl rfl h.pre h.byt hst2 rfl hE hH rfl hz h.over
          have hn := non_low h0 hx
          have g : ¬ isNon x = true := by rw [hn]; decide
          simp only [if_neg g]
          exact ⟨trivial, trivial, key⟩
      · simp [hz, h92]
        exact hup

end Go.Proofs.Ytkpeblpgfngjcaa.Pure
