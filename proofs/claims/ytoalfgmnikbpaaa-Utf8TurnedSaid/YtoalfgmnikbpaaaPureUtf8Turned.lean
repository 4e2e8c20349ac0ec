/- The law Utf8Turned: of whatever two numbers and whatever byte, unlike scalars have unlike bytes, none the beginning of the other, and a byte from 80 to BF (hexadecimal) begins no scalar; no condition. -/
import Derived.Test.YtoalfgmnikbpaaaPAllx11
import Derived.Test.YtoalfgmnikbpaaaLUtf
import Derived.Test.YtoalfgmnikbpaaaLRef
namespace Go.Proofs.Ytoalfgmnikbpaaa.Pure
open Go.RowKit Go.Proofs.Ytoalfgmnikbpaaa.PAll Go.Proofs.YtoalfgmnikbpaaaW.PrintWords Go.Proofs.YtoalfgmnikbpaaaW.PrintLast
set_option linter.unusedVariables false
set_option linter.unusedSimpArgs false

theorem u8_inj : ∀ {xs ys : List Int}, Byt xs → Byt ys → xs.map (fun n => UInt8.ofNat n.toNat) = ys.map (fun n => UInt8.ofNat n.toNat) → xs = ys := by
  intro xs
  induction xs with
  | nil => intro ys _ _ h; cases ys with
    | nil => rfl
    | cons y s => simp at h
  | cons x r ih =>
    intro ys hx hy h
    cases ys with
    | nil => simp at h
    | cons y s =>
      simp only [List.map_cons, List.cons.injEq] at h
      have h1 := hx x (by simp)
      have h2 := hy y (by simp)
      have h3 := congrArg UInt8.toNat h.1
      simp only [UInt8.toNat_ofNat'] at h3
      have e : x = y := by omega
      subst e
      rw [ih (fun a ha => hx a (by simp [ha])) (fun a ha => hy a (by simp [ha])) h.2]
theorem str_size (xs : List Int) : (strOfNums xs).size = xs.length := by simp [strOfNums, ByteArray.size]
theorem ext_eq {xs ys : List Int} (hx : Byt xs) (hy : Byt ys) (k : Nat) : (((strOfNums xs).extract 0 k).toList == ((strOfNums ys).extract 0 k).toList) = decide (xs.take k = ys.take k) := by
  rw [ByteArray.toList_eq, ByteArray.toList_eq, ByteArray.data_extract, ByteArray.data_extract]
  have e : ∀ zs : List Int, ((strOfNums zs).data.extract 0 k).toList = (zs.take k).map (fun n => UInt8.ofNat n.toNat) := by
    intro zs
    simp [strOfNums, List.extract, List.map_take]
  rw [e, e]
  by_cases h : xs.take k = ys.take k
  · simp [h]
  · rw [decide_eq_false h]
    simp only [beq_eq_false_iff_ne]
    exact fun hh => h (u8_inj (fun a ha => hx a (List.mem_of_mem_take ha)) (fun a ha => hy a (List.mem_of_mem_take ha)) hh)
theorem allV_acc : ∀ (r pre acc : List Int) (at_ : Int), (allV pre acc at_ r).2.2 = true → ∃ s, (allV pre acc at_ r).1 = acc ++ s := by
  intro r
  induction r with
  | nil =>
    intro pre acc at_ h
    simp only [allV] at h ⊢
    split at h
    · rename_i hp
      rw [if_pos hp]
      exact ⟨[], by simp⟩
    · simp at h
  | cons x r ih =>
    intro pre acc at_ h
    simp only [allV] at h ⊢
    split at h
    · rename_i hp
      rw [if_pos hp]
      obtain ⟨s, hs⟩ := ih _ _ _ h
      exact ⟨ofV (pre ++ [x]) :: s, by rw [hs]; simp⟩
    · rename_i hp
      rw [if_neg hp]
      split at h
      · rename_i hq
        rw [if_pos hq]
        exact ih _ _ _ h
      · simp at h
theorem enc_pre {x y : Int} (hx : isScal x = true) (hy : isScal y = true) (h : (encV x).take (encV y).length = encV y) : x = y := by
  have e : encV x = encV y ++ (encV x).drop (encV y).length := by
    have := List.take_append_drop (encV y).length (encV x)
    rw [h] at this
    exact this.symm
  have h1 := allV_enc x hx [] [] 0
  rw [List.append_nil, e] at h1
  have h2 := allV_enc y hy [] ((encV x).drop (encV y).length) 0
  rw [h1] at h2
  have h3 := allV_acc ((encV x).drop (encV y).length) [] ([] ++ [y]) (0 + ((encV y).length : Int)) (by rw [← h2]; simp [allV])
  obtain ⟨s, hs⟩ := h3
  rw [← h2] at hs
  simp [allV] at hs
  exact hs.1
theorem enc_pos {x : Int} (hx : isScal x = true) : 0 < (encV x).length := by
  unfold encV
  rw [if_pos hx]
  (repeat' split) <;> simp
theorem turned_first (K : Nat) (x : Int) (h0 : 0 ≤ x) (h1 : x ≤ 255) (hK : 100 ≤ K) : utf8_First.f K [(128 + Int.tmod x 64) % 256, x] = some (0, 0, false) := by
  have e : Int.tmod x 64 = x % 64 := Int.tmod_eq_emod_of_nonneg h0
  have hb : Byt [(128 + Int.tmod x 64) % 256, x] := by
    intro a ha
    simp only [List.mem_cons, List.not_mem_nil, or_false] at ha
    rcases ha with rfl | rfl <;> omega
  rw [first_val K _ hb (by simp) (by simp; omega)]
  have hz : szV ((128 + Int.tmod x 64) % 256) = 0 := by
    rw [e]
    unfold szV
    rw [if_neg (by omega), if_pos (by omega)]
  simp [scanV, howV, hz]
theorem Utf8Turned : orthoepylaw02_Utf8Turned.Pure := by
  intro n m x _ _ hx
  obtain ⟨K, hK⟩ : ∃ K : Nat, 400 ≤ K := ⟨400, Nat.le_refl _⟩
  refine ⟨K + 2, ?_⟩
  have hxx := wf_u8 hx
  have j1v : orthoepylaw02_Utf8Turned.j1 (K + 1) x false = some true := by
    simp only [orthoepylaw02_Utf8Turned.j1]
    rw [if_neg (by decide), turned_first K x hxx.1 hxx.2 (by omega)]
    simp [orthoepylaw02_awake.f]
  have j2v : orthoepylaw02_Utf8Turned.j2 (K + 1) x false = some true := by
    simp only [orthoepylaw02_Utf8Turned.j2]
    rw [if_neg (by decide), turned_first K x hxx.1 hxx.2 (by omega)]
    simp [orthoepylaw02_awake.f]
  obtain ⟨c, hc, hc0, hc1⟩ := rune_val n
  obtain ⟨d, hd, hd0, hd1⟩ := rune_val m
  have ja : orthoepylaw02_Utf8Turned.j0 (K + 2) x c d true = some true := by
    simp [orthoepylaw02_Utf8Turned.j0, orthoepylaw02_awake.f]
  unfold orthoepylaw02_Utf8Turned.f
  rw [hc, Option.bind_some, hd, Option.bind_some, ris_val, Option.bind_some]
  by_cases sc : isScal c = true
  · rw [if_pos sc, ris_val, Option.bind_some]
    by_cases sd : isScal d = true
    · have pc := enc_pos sc
      have pd := enc_pos sd
      have bc := (encV_byt c).1
      have bd := (encV_byt d).1
      rw [sd]
      simp only [orthoepylaw02_Utf8Turned.j0]
      rw [if_neg (by decide), bytes_val, Option.bind_some, bytes_val, Option.bind_some, str_size, str_size, ext_eq bc bd, ext_eq bc bd]
      by_cases hlt : ((encV d).length : Int) < ((encV c).length : Int)
      · rw [if_pos hlt, if_neg (by omega), if_pos (by omega), if_pos (by omega), if_pos (by omega)]
        have hne : c ≠ d := by
          intro h
          rw [h] at hlt
          omega
        have hnt : ¬ (encV c).take (encV d).length = (encV d).take (encV d).length := by
          rw [List.take_length]
          exact fun h => hne (enc_pre sc sd h)
        rw [Int.toNat_natCast, decide_eq_false hnt, show (c == d) = false from by simpa using hne]
        exact j1v
      · rw [if_neg hlt, if_neg (by omega), if_pos (by omega), if_pos (by omega), if_pos (by omega)]
        rw [Int.toNat_natCast]
        by_cases he : c = d
        · subst he
          rw [decide_eq_true rfl, show (c == c) = true from by simp]
          exact j2v
        · have hnt : ¬ (encV c).take (encV c).length = (encV d).take (encV c).length := by
            rw [List.take_length]
            exact fun h => he (enc_pre sd sc h.symm).symm
          rw [decide_eq_false hnt, show (c == d) = false from by simpa using he]
          exact j2v
    · rw [show isScal d = false from by simpa using sd]
      exact ja
  · rw [if_neg sc]
    exact ja

end Go.Proofs.Ytoalfgmnikbpaaa.Pure
