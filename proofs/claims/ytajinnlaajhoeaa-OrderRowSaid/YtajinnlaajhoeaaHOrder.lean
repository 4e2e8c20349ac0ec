/- order.Sort, order.Merge, order.Less. -/
import Derived.Test.YtajinnlaajhoeaaPAllx1
import Derived.Test.YtajinnlaajhoeaaPAllx2
import Derived.Test.YtajinnlaajhoeaaPAllx3
import Derived.Test.YtajinnlaajhoeaaPAllx4
import Derived.Test.YtajinnlaajhoeaaPAllx5
import Derived.Test.YtajinnlaajhoeaaHKit
import Derived.Test.YtajinnlaajhoeaaHMerge
import Derived.Lib.AppendZerosOnto
import Derived.Lib.Walk
import Derived.StillTailTactics
import Derived.BigQuiet
import Derived.Deep.QuietTactic
import Derived.Laws.IdiomStrings
import Derived.Outline
import Derived.OwnWalk
import Derived.MapKept
import Derived.Deep.RegionHeld3
import Derived.Deep.RegionLaw
import Derived.Deep.AppendLies
import Derived.Deep.DrawnRows
namespace Go.Proofs.Ytajinnlaajhoeaa.Pure
open Go.RowKit Go.Proofs.Ytajinnlaajhoeaa.PAll Go.Proofs.YtajinnlaajhoeaaW.PrintWords Go.Proofs.YtajinnlaajhoeaaW.PrintLast Go.Proofs.YtajinnlaajhoeaaW.PrintMore
set_option linter.unusedVariables false
set_option linter.unusedSimpArgs false

/-! ### The scalars of a text, walked -/
def bnums (s : ByteArray) : List Int := s.data.toList.map fun b => (b.toNat : Int)
theorem bnums_len (s : ByteArray) : (bnums s).length = s.size := by
  unfold bnums
  rw [List.length_map]
  rfl
theorem C_bytes (w : World) (s : ByteArray) (e : TypeId) (cap : Nat) (fr : Nat × Nat) (hs : s.size ≤ 9223372036854775807) :
    Kd.C (Kd.int .u8) (w.alloc (.cells (bytesRow s cap) e fr)) (some ⟨w.heap.size, 0, none⟩) (bnums s).length (bnums s) := by
  refine Kd.C_of_reads (enc := Value.int .u8) (d := (0 : Int)) (h1 := fun _ => rfl) ⟨rfl, by rw [bnums_len]; exact hs, fun _ => ⟨_, rfl, fun j hj => ?_⟩⟩
  have hb : (w.alloc (.cells (bytesRow s cap) e fr)).heap[w.heap.size]? = some (.cells (bytesRow s cap) e fr) := heap_alloc_new w _
  rw [add_plain, cell_of_row _ _ _ _ _ _ hb]
  have hj2 : j < s.size := by rw [bnums_len] at hj; exact hj
  have hj3 : j < s.data.size := hj2
  unfold bytesRow bnums
  rw [Array.getElem?_append_left (by simpa using hj3)]
  simp [hj3, List.getD_eq_getElem?_getD]
  exact ⟨s.data[j], Array.getElem?_eq_getElem hj3, by rw [Array.getElem?_eq_getElem hj3]; rfl⟩
set_option maxHeartbeats 4000000 in
set_option maxRecDepth 100000 in
theorem scalars_any (k : Nat) (s : ByteArray) (w : World) (hs : s.size ≤ 1000000) (L : List Int) (at_ : Int) (b : Bool) (hv : utf8_All.f k (bnums s) = some (L, at_, b)) :
    Calls Try.prog 25 #[.string s] w fun e w' => ∃ A c, e = .returned (.slice A L.length c) ∧ L.length ≤ c ∧ (Kd.int .i32).C w' A L.length L ∧ Below w.heap.size w w' := by
  have HV := Aside0.mk hv
  have hn : (bnums s).length = s.size := bnums_len s
  have HN := Aside0.mk hn
  have hcv := fun W : World => run_bytes_of_string (P := Try.prog) W 9 34 5 s Try.underlying9 Try.underlying34 Try.underlying5
  clear hn hv
  go_enter Try.func25, Try.ntmps25
  go_wp2_with (fail)
  have hC := Kd.C_drew (C_bytes w s 5 (grownCap w s.size 0 5) ((bytesRow s (grownCap w s.size 0 5)).size, (bytesRow s (grownCap w s.size 0 5)).size + 1) (by omega))
  have hcap : (bnums s).length ≤ grownCap w s.size 0 5 := by rw [HN.out]; exact grownCap_ge _ _ _ _
  have hcall := utf8_All.calls k _ _ (bnums s) L at_ b _ hC hcap HV.out
  rw [HN.out] at hcall
  refine hcall.mono ?_
  rintro e w1 ⟨v1, rfl, hr1, hB1⟩
  obtain ⟨A1, c1, e1⟩ := Kd.R_slice hr1
  subst e1
  have HR1 := Aside0.mk hr1
  have HB1 := Aside0.mk hB1
  clear hr1 hB1 hcall hcv
  go_wp2
  go_ret
  have hz : w.heap.size ≤ ((w.alloc (.cells (bytesRow s (grownCap w s.size 0 5)) 5 ((bytesRow s (grownCap w s.size 0 5)).size, (bytesRow s (grownCap w s.size 0 5)).size + 1))).drew).heap.size := by simp
  exact ⟨A1, c1, rfl, (Kd.R_reads' HR1.out).2.1, (Kd.R_reads' HR1.out).2.2, (((Below.refl w.heap.size w).alloc (Nat.le_refl _) _).drew).trans (HB1.out.mono hz)⟩

/-! ### The document's scalars of a text; is it right? -/
set_option maxHeartbeats 4000000 in
set_option maxRecDepth 100000 in
theorem oof_any (k : Nat) (s : ByteArray) (w : World) (hs : s.size ≤ 1000000) (L : List Int) (at_ : Int) (b : Bool) (hv : orthoepyref02_All.f k (bnums s) = some (L, at_, b)) :
    Calls Try.prog 22 #[.string s] w fun e w' => ∃ A c, e = .returned (.slice A L.length c) ∧ L.length ≤ c ∧ (Kd.int .i32).C w' A L.length L ∧ Below w.heap.size w w' := by
  have HV := Aside0.mk hv
  have hn : (bnums s).length = s.size := bnums_len s
  have HN := Aside0.mk hn
  have hcv := fun W : World => run_bytes_of_string (P := Try.prog) W 9 34 5 s Try.underlying9 Try.underlying34 Try.underlying5
  clear hn hv
  go_enter Try.func22, Try.ntmps22
  go_wp2_with (fail)
  have hC := Kd.C_drew (C_bytes w s 5 (grownCap w s.size 0 5) ((bytesRow s (grownCap w s.size 0 5)).size, (bytesRow s (grownCap w s.size 0 5)).size + 1) (by omega))
  have hcap : (bnums s).length ≤ grownCap w s.size 0 5 := by rw [HN.out]; exact grownCap_ge _ _ _ _
  have hcall := orthoepyref02_All.calls k _ _ (bnums s) L at_ b _ hC hcap HV.out
  rw [HN.out] at hcall
  refine hcall.mono ?_
  rintro e w1 ⟨v1, rfl, hr1, hB1⟩
  obtain ⟨A1, c1, e1⟩ := Kd.R_slice hr1
  subst e1
  have HR1 := Aside0.mk hr1
  have HB1 := Aside0.mk hB1
  clear hr1 hB1 hcall hcv
  go_wp2
  go_ret
  have hz : w.heap.size ≤ ((w.alloc (.cells (bytesRow s (grownCap w s.size 0 5)) 5 ((bytesRow s (grownCap w s.size 0 5)).size, (bytesRow s (grownCap w s.size 0 5)).size + 1))).drew).heap.size := by simp
  exact ⟨A1, c1, rfl, (Kd.R_reads' HR1.out).2.1, (Kd.R_reads' HR1.out).2.2, (((Below.refl w.heap.size w).alloc (Nat.le_refl _) _).drew).trans (HB1.out.mono hz)⟩
set_option maxHeartbeats 4000000 in
set_option maxRecDepth 100000 in
theorem oright_any (k : Nat) (s : ByteArray) (w : World) (hs : s.size ≤ 1000000) (L : List Int) (at_ : Int) (b : Bool) (hv : orthoepyref02_All.f k (bnums s) = some (L, at_, b)) :
    Calls Try.prog 23 #[.string s] w fun e w' => e = .returned (.bool b) ∧ Below w.heap.size w w' := by
  have HV := Aside0.mk hv
  have hn : (bnums s).length = s.size := bnums_len s
  have HN := Aside0.mk hn
  have hcv := fun W : World => run_bytes_of_string (P := Try.prog) W 9 34 5 s Try.underlying9 Try.underlying34 Try.underlying5
  clear hn hv
  go_enter Try.func23, Try.ntmps23
  go_wp2_with (fail)
  have hC := Kd.C_drew (C_bytes w s 5 (grownCap w s.size 0 5) ((bytesRow s (grownCap w s.size 0 5)).size, (bytesRow s (grownCap w s.size 0 5)).size + 1) (by omega))
  have hcap : (bnums s).length ≤ grownCap w s.size 0 5 := by rw [HN.out]; exact grownCap_ge _ _ _ _
  have hcall := orthoepyref02_All.calls k _ _ (bnums s) L at_ b _ hC hcap HV.out
  rw [HN.out] at hcall
  refine hcall.mono ?_
  rintro e w1 ⟨v1, rfl, hr1, hB1⟩
  obtain ⟨A1, c1, e1⟩ := Kd.R_slice hr1
  subst e1
  have HR1 := Aside0.mk hr1
  have HB1 := Aside0.mk hB1
  clear hr1 hB1 hcall hcv
  go_wp2
  go_ret
  have hz : w.heap.size ≤ ((w.alloc (.cells (bytesRow s (grownCap w s.size 0 5)) 5 ((bytesRow s (grownCap w s.size 0 5)).size, (bytesRow s (grownCap w s.size 0 5)).size + 1))).drew).heap.size := by simp
  exact ⟨rfl, (((Below.refl w.heap.size w).alloc (Nat.le_refl _) _).drew).trans (HB1.out.mono hz)⟩

/-! ### The scalars of a text, the caller's own -/
set_option maxHeartbeats 4000000 in
set_option maxRecDepth 100000 in
theorem scalars_own (k : Nat) (s : ByteArray) (w : World) (hs : s.size ≤ 1000000) (L : List Int) (at_ : Int) (b : Bool) (hv : utf8_All.f k (bnums s) = some (L, at_, b)) :
    Calls Try.prog 25 #[.string s] w fun e w' => ∃ A c, e = .returned (.slice A L.length c) ∧ Kd.R (Kd.int .i32) 21 w' w.heap.size (fun _ => True) (.slice A L.length c) L ∧ Below w.heap.size w w' := by
  have HV := Aside0.mk hv
  have hn : (bnums s).length = s.size := bnums_len s
  have HN := Aside0.mk hn
  have hcv := fun W : World => run_bytes_of_string (P := Try.prog) W 9 34 5 s Try.underlying9 Try.underlying34 Try.underlying5
  clear hn hv
  go_enter Try.func25, Try.ntmps25
  go_wp2_with (fail)
  have hC := Kd.C_drew (C_bytes w s 5 (grownCap w s.size 0 5) ((bytesRow s (grownCap w s.size 0 5)).size, (bytesRow s (grownCap w s.size 0 5)).size + 1) (by omega))
  have hcap : (bnums s).length ≤ grownCap w s.size 0 5 := by rw [HN.out]; exact grownCap_ge _ _ _ _
  have hcall := utf8_All.calls k _ _ (bnums s) L at_ b _ hC hcap HV.out
  rw [HN.out] at hcall
  refine hcall.mono ?_
  rintro e w1 ⟨v1, rfl, hr1, hB1⟩
  obtain ⟨A1, c1, e1⟩ := Kd.R_slice hr1
  subst e1
  have HR1 := Aside0.mk hr1
  have HB1 := Aside0.mk hB1
  clear hr1 hB1 hcall hcv
  go_wp2
  go_ret
  have hz : w.heap.size ≤ ((w.alloc (.cells (bytesRow s (grownCap w s.size 0 5)) 5 ((bytesRow s (grownCap w s.size 0 5)).size, (bytesRow s (grownCap w s.size 0 5)).size + 1))).drew).heap.size := by simp
  exact ⟨A1, c1, rfl, Kd.R_lower HR1.out hz, (((Below.refl w.heap.size w).alloc (Nat.le_refl _) _).drew).trans (HB1.out.mono hz)⟩

/-! ### order.Less, walked -/
set_option maxHeartbeats 4000000 in
set_option maxRecDepth 100000 in
theorem oless_any (k K : Nat) (a b : ByteArray) (w : World) (ha : a.size ≤ 1000000) (hb : b.size ≤ 1000000) (L M : List Int) (at_ at2 : Int) (b1 b2 : Bool) (hv : utf8_All.f k (bnums a) = some (L, at_, b1)) (hv2 : utf8_All.f k (bnums b) = some (M, at2, b2)) (r : Bool) (hl : order_less.f K 0 L 0 M = some r) :
    Calls Try.prog 12 #[.string a, .string b] w fun e w' => e = .returned (.bool r) ∧ Below w.heap.size w w' := by
  have HA := Aside0.mk (fun W => scalars_any k a W ha L at_ b1 hv)
  have HB := Aside0.mk (fun W => scalars_any k b W hb M at2 b2 hv2)
  have HL := Aside0.mk hl
  clear hv hv2 hl
  go_enter Try.func12, Try.ntmps12
  go_wp2_with (first
    | (go_at_call 25; (with_reducible refine (HA.out _).mono ?_); rintro e w1 ⟨A1, c1, rfl, h1, h2, h3⟩; have C1 := Aside0.mk h2; have B1 := Aside0.mk h3; clear h2 h3 HA)
    | (go_at_call 25; (with_reducible refine (HB.out _).mono ?_); rintro e w2 ⟨A2, c2, rfl, h4, h5, h6⟩; have C2 := Aside0.mk h5; have C1' := Aside0.mk (Kd.C_below C1.out h6); have B2 := Aside0.mk (B1.out.trans (h6.mono B1.out.size)); clear h5 h6 HB)
    | (go_at_call 24; (with_reducible refine (order_less.calls K 0 A1 c1 L 0 A2 c2 M r _ C1'.out h1 C2.out h4 HL.out).mono ?_); rintro e w3 ⟨rfl, h7⟩; have B3 := Aside0.mk (B2.out.trans (h7.mono B2.out.size)); clear h7))
  go_ret
  exact ⟨rfl, B3.out⟩

/-! ### A run of one item, made -/
theorem lit_one {W : World} {base : Nat} {ok : Nat → Prop} (x : S45) (v : Value) (hr : (Kd.int .i32).R 21 W base ok v x.f1) (hb : base ≤ W.heap.size) :
    (Kd.slice 45 k45).M (W.alloc (.cells #[.int .i64 x.f0, v] 45)) base (fun k => base ≤ k) [x] [.slice (some ⟨W.heap.size, 0, none⟩) 1 1] := by
  refine ⟨_, rfl, fun k hk => ?_, [.int .i64 x.f0, v], ?_, ?_⟩
  · have : W.heap.size = k := by simpa [Value.ownBlock] using hk
    omega
  · exact World.ownsRow_lit (base := base) (e := 45) (size := k45.sz) W #[.int .i64 x.f0, v] 1 hb (by simp [maxLen]) rfl
  · have hp : k45.M (W.alloc (.cells #[.int .i64 x.f0, v] 45)) base (fun k => base ≤ k ∧ some k ≠ (Value.slice (some ⟨W.heap.size, 0, none⟩) 1 1).ownBlock) x [.int .i64 x.f0, v] :=
      k45_mkM _ _ _ x (Kd.R_mono (Kd.R_alloc (Kd.R_bound hr) _) (fun k hk => ⟨hk.2.1, fun e => by
        have h1 : k = W.heap.size := by simpa [Value.ownBlock] using e
        have := hk.2.2.1
        omega⟩))
    exact (Reps.none _ _).snoc hp rfl

/-! ### order.Sort, walked -/
def runsOf (sc : ByteArray → List Int) : Nat → List ByteArray → List (List S45)
  | _, [] => []
  | i, s :: l => [⟨(i : Int), sc s⟩] :: runsOf sc (i + 1) l
theorem runsOf_snoc (sc : ByteArray → List Int) (s : ByteArray) : ∀ (l : List ByteArray) (i : Nat), runsOf sc i (l ++ [s]) = runsOf sc i l ++ [[⟨((i + l.length : Nat) : Int), sc s⟩]]
  | [], i => rfl
  | t :: l, i => by
    have := runsOf_snoc sc s l (i + 1)
    show [_] :: runsOf sc (i + 1) (l ++ [s]) = _
    rw [this, show i + 1 + l.length = i + (t :: l).length by simp; omega]
    rfl
theorem runsOf_len (sc : ByteArray → List Int) : ∀ (l : List ByteArray) (i : Nat), (runsOf sc i l).length = l.length ∧ (runsOf sc i l).flatten.length = l.length
  | [], _ => ⟨rfl, rfl⟩
  | t :: l, i => by
    have := runsOf_len sc l (i + 1)
    simp [runsOf, this.1]
    have h2 := this.2
    simp [List.length_flatten] at h2
    omega
set_option maxHeartbeats 8000000 in
set_option maxRecDepth 100000 in
theorem sort_any (k K N kp : Nat) (lt : S45 → S45 → Bool) (sc : ByteArray → List Int) (A : Option Addr) (cap : Nat) (ss : List ByteArray) (w : World) (hr : Kd.C Kd.string w A ss.length ss) (hc : ss.length ≤ cap) (hn : ss.length ≤ 1000) (hN : ss.length ≤ N)
    (hsz : ∀ s ∈ ss, s.size ≤ 1000000) (hsc : ∀ s ∈ ss, ∃ at_ b, utf8_All.f k (bnums s) = some (sc s, at_, b))
    (hlt : ∀ x ∈ (runsOf sc 0 ss).flatten, ∀ y ∈ (runsOf sc 0 ss).flatten, order_less.f K x.f0 x.f1 y.f0 y.f1 = some (lt x y)) (r : List Int) (hp : order_places.f kp (mergeV lt N (runsOf sc 0 ss)) = some r) :
    Calls Try.prog 15 #[.slice A ss.length cap] w fun e w' => ∃ v, e = .returned v ∧ Kd.R (Kd.int .i64) 3 w' w.heap.size (fun _ => True) v r ∧ Below w.heap.size w w' := by
  have HR := Aside0.mk hr
  have HSZ := Aside0.mk hsz
  have HSC := Aside0.mk hsc
  have HLT := Aside0.mk hlt
  have HP := Aside0.mk hp
  clear hr hsz hsc hlt hp
  go_enter Try.func15, Try.ntmps15
  go_wp2
  go_loopw [3, 8] (fun v i wr => ∃ (j : Nat) (nx : Value), j ≤ ss.length ∧ i = .int .i64 (j : Int) ∧ nx = v ∧ Aside0 (Kd.R (Kd.slice 45 k45) 48 wr w.heap.size (fun _ => True) nx (runsOf sc 0 (ss.take j))) ∧ Aside0 (Below w.heap.size w wr)) (fun _ i _ => ss.length - (intOf i).toNat)
  case atStart => exact ⟨0, _, Nat.zero_le _, rfl, rfl, ⟨Kd.R_nil _ _ _ _ _⟩, ⟨Below.refl _ _⟩⟩
  case round =>
    obtain ⟨j, nx, hj, rfl, rfl, HNX, HBW⟩ := hrel
    obtain ⟨wb, rfl⟩ : ∃ wb, wb = wr := ⟨_, rfl⟩
    by_cases hl : j < ss.length
    · have hd : decide (j < ss.length) = true := decide_eq_true hl
      obtain ⟨ad, rfl, h1⟩ := Kd.at_string HR.out (j : Int) (by omega) (by omega)
      rw [Int.toNat_natCast] at h1
      have hjj : ss[j]? = some (rdOf ByteArray.empty ss (j : Int)) := by
        unfold rdOf
        rw [Int.toNat_natCast, List.getD_eq_getElem?_getD, List.getElem?_eq_getElem hl]
        rfl
      have htk : ss.take (j + 1) = ss.take j ++ [rdOf ByteArray.empty ss (j : Int)] := by rw [List.take_add_one, hjj]; rfl
      have hm : rdOf ByteArray.empty ss (j : Int) ∈ ss := List.mem_of_getElem? hjj
      generalize rdOf ByteArray.empty ss (j : Int) = s at h1 htk hm
      have h1' := (HBW.out.cell (World.block_lt_of_cell? _ _ h1)).trans h1
      obtain ⟨at_, b, hv⟩ := HSC.out s hm
      have HS := Aside0.mk (fun W => scalars_own k s W (HSZ.out s hm) (sc s) at_ b hv)
      have htl : (ss.take j).length = j := by rw [List.length_take]; omega
      have hrl := (runsOf_len sc (ss.take j) 0).1
      have hlen : ((runsOf sc 0 (ss.take j)).length + 1) * 24 ≤ 140737488355328 := by omega
      have hsn := runsOf_snoc sc s (ss.take j) 0
      rw [htl, Nat.zero_add, ← htk] at hsn
      have HSN := Aside0.mk hsn
      clear h1 hjj htk hm hv htl hrl hsn
      go_wp2_with (first
        | (go_at_call 25; (with_reducible refine (HS.out _).mono ?_); rintro e w1 ⟨A1, c1, rfl, h2, h3⟩; have HB1 := Aside0.mk (HBW.out.trans (h3.mono HBW.out.size)); have HN1 := Aside0.mk (Kd.R_alloc (Kd.R_below HNX.out h3) (.cells #[.int .i64 (j : Int), .slice A1 (sc s).length c1] 45)); have HG1 := Aside0.mk h3.size; have HL1 := Aside0.mk (lit_one ⟨(j : Int), sc s⟩ _ h2 h3.size); clear h2 h3)
        | ((with_reducible refine gate_dst (N := 20) rfl ?_); refine Kd.R_append (Kd.slice 45 k45) (w0 := w) w.heap.size rfl (.tmp 13) (.tmp 19) 47 48 (.slice none 0 0) 24 rfl Try.underlying47 row_info rfl (Nat.succ_pos 0) (Nat.succ_pos 23) nx (runsOf sc 0 (ss.take j)) [⟨(j : Int), sc s⟩] _ (fun _ => True) (fun k => wb.heap.size ≤ k) rfl (by first | rfl | (go_simp; done) | (go_simp; rfl)) ((Kd.slice 45 k45).M_lower HBW.out.size HL1.out) (fun k hk => ⟨trivial, fun e => by have h1 := Kd.R_lt HNX.out k e.symm; omega⟩) (fun _ _ => trivial) HN1.out (below_alloc HB1.out _) (below_alloc HB1.out _).size hlen ?_; intro v8 w8 hr8 hb8 hg8 _))
      go_roundw
      case rel => exact ⟨j + 1, v8, by omega, by go_num, rfl, ⟨by rw [HSN.out]; exact hr8⟩, ⟨hb8⟩⟩
      case measure => simp [intOf]; omega
    · have hd : decide (j < ss.length) = false := decide_eq_false hl
      obtain rfl : j = ss.length := by omega
      rw [List.take_length] at HNX
      have hrl := runsOf_len sc ss 0
      obtain ⟨An, cn, rfl, hn1, hn2⟩ := Kd.R_reads HNX.out
      have HC := Aside0.mk (merge_any lt K N An cn (runsOf sc 0 ss) wb (by omega) hn2 hn1 (by omega) (by omega) HLT.out)
      clear hn2 hrl
      go_wp2_with (first
        | (go_at_call 28; (with_reducible refine HC.out.mono ?_); rintro e w2 ⟨A2, c2, rfl, h2, h3, h4⟩; have HB2 := Aside0.mk (HBW.out.trans (h4.mono HBW.out.size)); have HPL := Aside0.mk (order_places.calls kp A2 c2 (mergeV lt N (runsOf sc 0 ss)) r _ h3 h2 HP.out); clear h2 h3 h4 HC)
        | (go_at_call 27; (with_reducible refine HPL.out.mono ?_); rintro e w3 ⟨v3, rfl, h5, h6⟩; have HR5 := Aside0.mk (Kd.R_lower h5 HB2.out.size); have HB3 := Aside0.mk (HB2.out.trans (h6.mono HB2.out.size)); clear h5 h6))
      go_ret
      exact ⟨v3, rfl, HR5.out, HB3.out⟩

/-! ### order.items, order.Merge, walked (all places are places of the texts) -/
def itemsOf (sc : ByteArray → List Int) (ss : List ByteArray) (ps : List Int) : List S45 := ps.map fun p => ⟨p, sc (rdOf ByteArray.empty ss p)⟩
set_option maxHeartbeats 8000000 in
set_option maxRecDepth 100000 in
theorem items_any (k : Nat) (sc : ByteArray → List Int) (A : Option Addr) (cap : Nat) (ss : List ByteArray) (B : Option Addr) (cap2 : Nat) (ps : List Int) (w : World) (hr : Kd.C Kd.string w A ss.length ss) (hr2 : Kd.C (Kd.int .i64) w B ps.length ps) (hn : ps.length ≤ 1000)
    (hsz : ∀ s ∈ ss, s.size ≤ 1000000) (hsc : ∀ s ∈ ss, ∃ at_ b, utf8_All.f k (bnums s) = some (sc s, at_, b)) (hps : ∀ p ∈ ps, 0 ≤ p ∧ p < ss.length) :
    Calls Try.prog 29 #[.slice A ss.length cap, .slice B ps.length cap2] w fun e w' => ∃ v, e = .returned v ∧ Kd.R k45 45 w' w.heap.size (fun _ => True) v (itemsOf sc ss ps) ∧ Below w.heap.size w w' := by
  have HR := Aside0.mk hr
  have HR2 := Aside0.mk hr2
  have HSZ := Aside0.mk hsz
  have HSC := Aside0.mk hsc
  have HPS := Aside0.mk hps
  clear hr hr2 hsz hsc hps
  go_enter Try.func29, Try.ntmps29
  go_wp2
  go_loopw [5, 10] (fun v i wr => ∃ (j : Nat) (nx : Value), j ≤ ps.length ∧ i = .int .i64 (j : Int) ∧ nx = v ∧ Aside0 (Kd.R k45 45 wr w.heap.size (fun _ => True) nx (itemsOf sc ss (ps.take j))) ∧ Aside0 (Below w.heap.size w wr)) (fun _ i _ => ps.length - (intOf i).toNat)
  case atStart => exact ⟨0, _, Nat.zero_le _, rfl, rfl, ⟨Kd.R_nil _ _ _ _ _⟩, ⟨Below.refl _ _⟩⟩
  case round =>
    obtain ⟨j, nx, hj, rfl, rfl, HNX, HBW⟩ := hrel
    obtain ⟨wb, rfl⟩ : ∃ wb, wb = wr := ⟨_, rfl⟩
    by_cases hl : j < ps.length
    · have hd : decide (j < ps.length) = true := decide_eq_true hl
      obtain ⟨ad2, rfl, q1⟩ := Kd.at_int HR2.out (j : Int) (by omega) (by omega)
      rw [Int.toNat_natCast] at q1
      have hjj : ps[j]? = some (rd ps (j : Int)) := by
        unfold rd
        rw [Int.toNat_natCast, List.getD_eq_getElem?_getD, List.getElem?_eq_getElem hl]
        rfl
      have htk : ps.take (j + 1) = ps.take j ++ [rd ps (j : Int)] := by rw [List.take_add_one, hjj]; rfl
      have hpm := HPS.out _ (List.mem_of_getElem? hjj)
      generalize rd ps (j : Int) = p at q1 htk hpm
      have q1' := (HBW.out.cell (World.block_lt_of_cell? _ _ q1)).trans q1
      obtain ⟨ad, rfl, h1⟩ := Kd.at_string HR.out p hpm.1 hpm.2
      have hm : rdOf ByteArray.empty ss p ∈ ss := by
        unfold rdOf
        rw [List.getD_eq_getElem?_getD, List.getElem?_eq_getElem (show p.toNat < ss.length by omega)]
        exact List.getElem_mem _
      have hit : itemsOf sc ss (ps.take (j + 1)) = itemsOf sc ss (ps.take j) ++ [⟨p, sc (rdOf ByteArray.empty ss p)⟩] := by rw [htk]; simp [itemsOf]
      have hil : (itemsOf sc ss (ps.take j)).length ≤ j := by simp [itemsOf]; omega
      generalize rdOf ByteArray.empty ss p = s at h1 hm hit
      have h1' := (HBW.out.cell (World.block_lt_of_cell? _ _ h1)).trans h1
      obtain ⟨at_, b, hv⟩ := HSC.out s hm
      have HS := Aside0.mk (fun W => scalars_own k s W (HSZ.out s hm) (sc s) at_ b hv)
      have hg1 : decide ((0 : Int) ≤ p) = true := decide_eq_true hpm.1
      have hg2 : decide (p < (ss.length : Int)) = true := decide_eq_true hpm.2
      have hg3 := hpm.1
      have hg4 := hpm.2
      have hlen : ((itemsOf sc ss (ps.take j)).length + 1) * 32 ≤ 140737488355328 := by omega
      have HIT := Aside0.mk hit
      clear h1 q1 hjj htk hm hv hit hil hpm
      go_wp2_with (first
        | (go_at_call 25; (with_reducible refine (HS.out _).mono ?_); rintro e w1 ⟨A1, c1, rfl, h2, h3⟩; have HB1 := Aside0.mk (HBW.out.trans (h3.mono HBW.out.size)); have HN1 := Aside0.mk (Kd.R_below HNX.out h3); have HM1 := Aside0.mk (k45_mkM w1 w.heap.size (fun k => wb.heap.size ≤ k) ⟨p, sc s⟩ (Kd.R_lower (Kd.R_mono (Kd.R_bound h2) (fun k hk => hk.2.1)) HBW.out.size)); clear h2 h3)
        | ((with_reducible refine gate_dst (N := 31) rfl ?_); refine Kd.R_append k45 (w0 := w) w.heap.size rfl (.tmp 22) (.tmp 30) 48 45 (.agg #[.int .i64 0, .slice none 0 0]) 32 rfl Try.underlying48 item_info rfl (Nat.succ_pos 1) (Nat.succ_pos 31) nx (itemsOf sc ss (ps.take j)) ⟨p, sc s⟩ _ (fun _ => True) (fun k => wb.heap.size ≤ k) rfl (by first | rfl | (go_simp; done) | (go_simp; rfl)) HM1.out (fun k hk => ⟨trivial, fun e => by have h1 := Kd.R_lt HNX.out k e.symm; omega⟩) (fun _ _ => trivial) HN1.out HB1.out HB1.out.size hlen ?_; intro v8 w8 hr8 hb8 hg8 _))
      go_roundw
      case rel => exact ⟨j + 1, v8, by omega, by go_num, rfl, ⟨by rw [HIT.out]; exact hr8⟩, ⟨hb8⟩⟩
      case measure => simp [intOf]; omega
    · have hd : decide (j < ps.length) = false := decide_eq_false hl
      obtain rfl : j = ps.length := by omega
      rw [List.take_length] at HNX
      go_wp2
      go_ret
      exact ⟨nx, rfl, HNX.out, HBW.out⟩

/-! ### order.Merge, walked -/
theorem C_two (A0 A1 : Option Addr) (x0 x1 : List S45) (c0 c1 : Nat) (w : World) (h0 : x0.length ≤ c0) (h1 : x1.length ≤ c1) (g0 : Kd.C k45 w A0 x0.length x0) (g1 : Kd.C k45 w A1 x1.length x1) :
    (Kd.slice 45 k45).C (w.alloc (.cells #[.slice A0 x0.length c0, .slice A1 x1.length c1] 48)) (some ⟨w.heap.size, 0, none⟩) [x0, x1].length [x0, x1] := by
  have hb : Below w.heap.size w (w.alloc (.cells #[.slice A0 x0.length c0, .slice A1 x1.length c1] 48)) := below_alloc (Below.refl _ _) _
  have hn := heap_alloc_new w (.cells #[.slice A0 x0.length c0, .slice A1 x1.length c1] 48)
  have hcl : ∀ j u, (#[.slice A0 x0.length c0, .slice A1 x1.length c1] : Array Value)[j]? = some u → (w.alloc (.cells #[.slice A0 x0.length c0, .slice A1 x1.length c1] 48)).cell? ((⟨w.heap.size, 0, none⟩ : Addr).add j) = some u := fun j u hj => by
    rw [add_plain, cell_of_row _ _ _ _ _ _ hn]
    simpa using hj
  refine ⟨rfl, by simp, fun _ => ⟨_, rfl, fun j p hj => ?_⟩⟩
  match j, hj with
  | 0, hj =>
    obtain rfl : x0 = p := by simpa using hj
    exact ⟨[.slice A0 x0.length c0], rfl, ⟨A0, c0, rfl, h0, Kd.C_below g0 hb⟩, fun i u hi => by
      match i, hi with
      | 0, hi => exact hcl 0 u (by simpa using hi)⟩
  | 1, hj =>
    obtain rfl : x1 = p := by simpa using hj
    exact ⟨[.slice A1 x1.length c1], rfl, ⟨A1, c1, rfl, h1, Kd.C_below g1 hb⟩, fun i u hi => by
      match i, hi with
      | 0, hi => exact hcl 1 u (by simpa using hi)⟩
set_option maxHeartbeats 8000000 in
set_option maxRecDepth 100000 in
theorem omerge_any (k K kp : Nat) (lt : S45 → S45 → Bool) (sc : ByteArray → List Int) (A : Option Addr) (cap : Nat) (ss : List ByteArray) (B1 B2 : Option Addr) (d1 d2 : Nat) (ps qs : List Int) (w : World) (hr : Kd.C Kd.string w A ss.length ss) (hr1 : Kd.C (Kd.int .i64) w B1 ps.length ps) (hr2 : Kd.C (Kd.int .i64) w B2 qs.length qs) (hn1 : ps.length ≤ 1000) (hn2 : qs.length ≤ 1000)
    (hsz : ∀ s ∈ ss, s.size ≤ 1000000) (hsc : ∀ s ∈ ss, ∃ at_ b, utf8_All.f k (bnums s) = some (sc s, at_, b)) (hps : ∀ p ∈ ps, 0 ≤ p ∧ p < ss.length) (hqs : ∀ p ∈ qs, 0 ≤ p ∧ p < ss.length)
    (hlt : ∀ x ∈ [itemsOf sc ss ps, itemsOf sc ss qs].flatten, ∀ y ∈ [itemsOf sc ss ps, itemsOf sc ss qs].flatten, order_less.f K x.f0 x.f1 y.f0 y.f1 = some (lt x y)) (r : List Int) (hp : order_places.f kp (mergeV lt 2 [itemsOf sc ss ps, itemsOf sc ss qs]) = some r) :
    Calls Try.prog 18 #[.slice A ss.length cap, .slice B1 ps.length d1, .slice B2 qs.length d2] w fun e w' => ∃ v, e = .returned v ∧ Kd.R (Kd.int .i64) 3 w' w.heap.size (fun _ => True) v r ∧ Below w.heap.size w w' := by
  have HI1 := Aside0.mk (items_any k sc A cap ss B1 d1 ps w hr hr1 hn1 hsz hsc hps)
  have HI2 := Aside0.mk (fun (W : World) (hb : Below w.heap.size w W) => items_any k sc A cap ss B2 d2 qs W (Kd.C_below hr hb) (Kd.C_below hr2 hb) hn2 hsz hsc hqs)
  have hl1 : (itemsOf sc ss ps).length ≤ 1000 := by simp [itemsOf]; omega
  have hl2 : (itemsOf sc ss qs).length ≤ 1000 := by simp [itemsOf]; omega
  have HLT := Aside0.mk hlt
  have HP := Aside0.mk hp
  clear hr hr1 hr2 hsz hsc hps hqs hlt hp
  generalize itemsOf sc ss ps = X at *
  generalize itemsOf sc ss qs = Y at *
  go_enter Try.func18, Try.ntmps18
  go_wp2_with (first
    | (go_at_call 29; (with_reducible refine HI1.out.mono ?_); rintro e w1 ⟨v1, rfl, h1, hb1⟩; obtain ⟨X1, e1, rfl, k1, k2⟩ := Kd.R_reads h1; have C1 := Aside0.mk k2; have HB1 := Aside0.mk hb1; clear h1 k2 hb1 HI1)
    | (go_at_call 29; (with_reducible refine (HI2.out _ HB1.out).mono ?_); rintro e w2 ⟨v2, rfl, h2, hb2⟩; obtain ⟨Y1, e2, rfl, k3, k4⟩ := Kd.R_reads h2; have hcm := merge_any lt K 2 (some ⟨w2.heap.size, 0, none⟩) 2 [X, Y] (w2.alloc (.cells #[.slice X1 X.length e1, .slice Y1 Y.length e2] 48)) (Nat.le_refl _) (C_two X1 Y1 X Y e1 e2 w2 k1 k3 (Kd.C_below C1.out hb2) k4) (Nat.le_refl _) (by simp; omega) (by simp) HLT.out; have HC := Aside0.mk (show Calls Try.prog 28 #[.func (.func 24) #[] #[], .slice (some ⟨w2.heap.size, 0, none⟩) 2 2] (w2.alloc (.cells #[.slice X1 X.length e1, .slice Y1 Y.length e2] 48)) _ from hcm); have HB2 := Aside0.mk (below_alloc (HB1.out.trans (hb2.mono HB1.out.size)) (.cells #[.slice X1 X.length e1, .slice Y1 Y.length e2] 48)); clear h2 hb2 k4 hcm)
    | (go_at_call 28; refine HC.out.mono ?_; rintro e w3 ⟨A2, c2, rfl, h2, h3, h4⟩; have HB3 := Aside0.mk (HB2.out.trans (h4.mono HB2.out.size)); have HPL := Aside0.mk (order_places.calls kp A2 c2 (mergeV lt 2 [X, Y]) r _ h3 h2 HP.out); clear h2 h3 h4 HC)
    | (go_at_call 27; (with_reducible refine HPL.out.mono ?_); rintro e w4 ⟨v3, rfl, h5, h6⟩; have HR5 := Aside0.mk (Kd.R_lower h5 HB3.out.size); have HB4 := Aside0.mk (HB3.out.trans (h6.mono HB3.out.size)); clear h5 h6))
  go_ret
  exact ⟨v3, rfl, HR5.out, HB4.out⟩

end Go.Proofs.Ytajinnlaajhoeaa.Pure
