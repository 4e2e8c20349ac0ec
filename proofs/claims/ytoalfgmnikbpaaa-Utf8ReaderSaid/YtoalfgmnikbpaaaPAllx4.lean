-- The machine's side of laws, written by a program of this session (wip/gen/pp.sh). Lean checks it.
import Derived.Test.YtoalfgmnikbpaaaPAllx0
import Derived.Test.YtoalfgmnikbpaaaPAllx1
import Derived.Test.YtoalfgmnikbpaaaPAllx2
import Derived.Test.YtoalfgmnikbpaaaPAllx3
namespace Go.Proofs.Ytoalfgmnikbpaaa.PAll
open Go.RowKit Go.Proofs.YtoalfgmnikbpaaaW.PrintWords Go.Proofs.YtoalfgmnikbpaaaW.PrintLast Go.Proofs.YtoalfgmnikbpaaaW.PrintMore
attribute [local go_sem] max2_int min2_int max_two min_two max_three min_three max_four min_four   -- for this text's walks alone
set_option linter.unusedVariables false
set_option linter.unusedSimpArgs false

/-! ### orthoepylaw02_awake0: function 8 -/
def orthoepylaw02_awake0.f (k : Nat)  : Option (Bool) := (utf8_Bytes.f 233).bind fun t164 => ((utf8_First.f k (([195, 40] : List Int))).bind fun bt170 => ((utf8_First.f k (([237, 160] : List Int))).bind fun bt176 => ((utf8_All.f k (([97, 195, 169] : List Int))).bind fun bt182 => ((utf8_New.f).bind fun bt187 => ((utf8_Reader_Push.f k bt187.1 bt187.2.1 bt187.2.2.1 bt187.2.2.2 195).bind fun bt192 => ((utf8_Reader_Left.f bt192.2.2.1 bt192.2.2.2.1 bt192.2.2.2.2.1 bt192.2.2.2.2.2).bind fun bt198 => ((utf8_Reader_Push.f k bt198.2.1 bt198.2.2.1 bt198.2.2.2.1 bt198.2.2.2.2 169).bind fun bt203 => (if (t164.length : Int) = 2 then (if 0 < (t164.length : Int) then (if (rd t164 0) = 195 then (if 1 < (t164.length : Int) then (if (rd t164 1) = 169 then (if bt170.2.1 = 1 then (if bt170.2.2 = true then (some false) else (if bt176.2.1 = 1 then (if bt176.2.2 = true then (some false) else (if (bt182.1.length : Int) = 2 then (if bt182.2.1 = 3 then (if bt182.2.2 = true then (if bt192.2.1 = 1 then (if bt198.1 = 1 then (if bt203.1 = 233 then (if bt203.2.1 = 2 then ((utf8_Text.f k bt182.1).bind fun t211 => (some ((strOfNums t211).toList == ([97, 195, 169] : List UInt8)))) else (some false)) else (some false)) else (some false)) else (some false)) else (some false)) else (some false)) else (some false))) else (some false))) else (some false)) else (some false)) else (none)) else (some false)) else (none)) else (some false)))))))))
theorem orthoepylaw02_awake0.mono : ∀ k, LeO (orthoepylaw02_awake0.f k ) (orthoepylaw02_awake0.f (k + 1) ) := by
  intro  k
  unfold orthoepylaw02_awake0.f
  repeat' first
      | (with_reducible exact utf8_All.mono _ _)
      | (with_reducible exact utf8_First.mono _ _)
      | (with_reducible exact utf8_Reader_Push.mono _ _ _ _ _ _)
      | (with_reducible exact utf8_Text.mono _ _)
      | (with_reducible exact LeO.refl _)
      | (with_reducible exact LeO.none _)
      | (with_reducible refine LeO.ite ?_ ?_)
      | (with_reducible refine LeO.bind ?_ (fun _ => ?_))
      | exact utf8_All.mono _ _
      | exact utf8_First.mono _ _
      | exact utf8_Reader_Push.mono _ _ _ _ _ _
      | exact utf8_Text.mono _ _
      | exact LeO.none _
      | refine LeO.ite ?_ ?_
      | refine LeO.bind ?_ (fun _ => ?_)
set_option maxHeartbeats 8000000 in
set_option maxRecDepth 100000 in
theorem orthoepylaw02_awake0.calls (k : Nat)  (r : Bool) (w : World) (h : orthoepylaw02_awake0.f k  = some r) (hT_ : Aside0 (r = true)) :
    Calls Try.prog 8 #[] w fun e w' => e = .returned (.bool r) ∧ Below w.heap.size w w' := by
  have HB := Aside0.mk (Below.refl w.heap.size w)
  have H : ((utf8_Bytes.f 233).bind fun t164 => ((utf8_First.f k (([195, 40] : List Int))).bind fun bt170 => ((utf8_First.f k (([237, 160] : List Int))).bind fun bt176 => ((utf8_All.f k (([97, 195, 169] : List Int))).bind fun bt182 => ((utf8_New.f).bind fun bt187 => ((utf8_Reader_Push.f k bt187.1 bt187.2.1 bt187.2.2.1 bt187.2.2.2 195).bind fun bt192 => ((utf8_Reader_Left.f bt192.2.2.1 bt192.2.2.2.1 bt192.2.2.2.2.1 bt192.2.2.2.2.2).bind fun bt198 => ((utf8_Reader_Push.f k bt198.2.1 bt198.2.2.1 bt198.2.2.2.1 bt198.2.2.2.2 169).bind fun bt203 => (if (t164.length : Int) = 2 then (if 0 < (t164.length : Int) then (if (rd t164 0) = 195 then (if 1 < (t164.length : Int) then (if (rd t164 1) = 169 then (if bt170.2.1 = 1 then (if bt170.2.2 = true then (some false) else (if bt176.2.1 = 1 then (if bt176.2.2 = true then (some false) else (if (bt182.1.length : Int) = 2 then (if bt182.2.1 = 3 then (if bt182.2.2 = true then (if bt192.2.1 = 1 then (if bt198.1 = 1 then (if bt203.1 = 233 then (if bt203.2.1 = 2 then ((utf8_Text.f k bt182.1).bind fun t211 => (some ((strOfNums t211).toList == ([97, 195, 169] : List UInt8)))) else (some false)) else (some false)) else (some false)) else (some false)) else (some false)) else (some false)) else (some false))) else (some false))) else (some false)) else (some false)) else (none)) else (some false)) else (none)) else (some false)))))))))) = some r := h
  clear h
  replace H := Option.bind_eq_some_iff.mp H
  obtain ⟨t164, A10, H⟩ := H
  replace H : ((utf8_First.f k (([195, 40] : List Int))).bind fun bt170 => ((utf8_First.f k (([237, 160] : List Int))).bind fun bt176 => ((utf8_All.f k (([97, 195, 169] : List Int))).bind fun bt182 => ((utf8_New.f).bind fun bt187 => ((utf8_Reader_Push.f k bt187.1 bt187.2.1 bt187.2.2.1 bt187.2.2.2 195).bind fun bt192 => ((utf8_Reader_Left.f bt192.2.2.1 bt192.2.2.2.1 bt192.2.2.2.2.1 bt192.2.2.2.2.2).bind fun bt198 => ((utf8_Reader_Push.f k bt198.2.1 bt198.2.2.1 bt198.2.2.2.1 bt198.2.2.2.2 169).bind fun bt203 => (if (t164.length : Int) = 2 then (if 0 < (t164.length : Int) then (if (rd t164 0) = 195 then (if 1 < (t164.length : Int) then (if (rd t164 1) = 169 then (if bt170.2.1 = 1 then (if bt170.2.2 = true then (some false) else (if bt176.2.1 = 1 then (if bt176.2.2 = true then (some false) else (if (bt182.1.length : Int) = 2 then (if bt182.2.1 = 3 then (if bt182.2.2 = true then (if bt192.2.1 = 1 then (if bt198.1 = 1 then (if bt203.1 = 233 then (if bt203.2.1 = 2 then ((utf8_Text.f k bt182.1).bind fun t211 => (some ((strOfNums t211).toList == ([97, 195, 169] : List UInt8)))) else (some false)) else (some false)) else (some false)) else (some false)) else (some false)) else (some false)) else (some false))) else (some false))) else (some false)) else (some false)) else (none)) else (some false)) else (none)) else (some false))))))))) = some r := H
  have A1 := Aside0.mk A10
  clear A10
  obtain ⟨y167, hy167⟩ : ∃ y_ : List Int, y_ = (([195, 40] : List Int)) := ⟨_, rfl⟩
  replace H : ((utf8_First.f k y167).bind fun bt170 => ((utf8_First.f k (([237, 160] : List Int))).bind fun bt176 => ((utf8_All.f k (([97, 195, 169] : List Int))).bind fun bt182 => ((utf8_New.f).bind fun bt187 => ((utf8_Reader_Push.f k bt187.1 bt187.2.1 bt187.2.2.1 bt187.2.2.2 195).bind fun bt192 => ((utf8_Reader_Left.f bt192.2.2.1 bt192.2.2.2.1 bt192.2.2.2.2.1 bt192.2.2.2.2.2).bind fun bt198 => ((utf8_Reader_Push.f k bt198.2.1 bt198.2.2.1 bt198.2.2.2.1 bt198.2.2.2.2 169).bind fun bt203 => (if (t164.length : Int) = 2 then (if 0 < (t164.length : Int) then (if (rd t164 0) = 195 then (if 1 < (t164.length : Int) then (if (rd t164 1) = 169 then (if bt170.2.1 = 1 then (if bt170.2.2 = true then (some false) else (if bt176.2.1 = 1 then (if bt176.2.2 = true then (some false) else (if (bt182.1.length : Int) = 2 then (if bt182.2.1 = 3 then (if bt182.2.2 = true then (if bt192.2.1 = 1 then (if bt198.1 = 1 then (if bt203.1 = 233 then (if bt203.2.1 = 2 then ((utf8_Text.f k bt182.1).bind fun t211 => (some ((strOfNums t211).toList == ([97, 195, 169] : List UInt8)))) else (some false)) else (some false)) else (some false)) else (some false)) else (some false)) else (some false)) else (some false))) else (some false))) else (some false)) else (some false)) else (none)) else (some false)) else (none)) else (some false))))))))) = some r := by first | (rw [hy167]; with_reducible exact H) | (have H2_ := (Option.bind_some _ _).symm.trans H; rw [hy167]; with_reducible exact H2_) | (have H2_ := (Option.bind_some _ _).symm.trans H; with_reducible exact H2_) | with_reducible exact H | (rw [hy167]; exact H) | exact H
  have Ny167 := Aside0.mk hy167
  clear hy167
  replace H := Option.bind_eq_some_iff.mp H
  obtain ⟨⟨t170, t171, t172⟩, A20, H⟩ := H
  replace H : ((utf8_First.f k (([237, 160] : List Int))).bind fun bt176 => ((utf8_All.f k (([97, 195, 169] : List Int))).bind fun bt182 => ((utf8_New.f).bind fun bt187 => ((utf8_Reader_Push.f k bt187.1 bt187.2.1 bt187.2.2.1 bt187.2.2.2 195).bind fun bt192 => ((utf8_Reader_Left.f bt192.2.2.1 bt192.2.2.2.1 bt192.2.2.2.2.1 bt192.2.2.2.2.2).bind fun bt198 => ((utf8_Reader_Push.f k bt198.2.1 bt198.2.2.1 bt198.2.2.2.1 bt198.2.2.2.2 169).bind fun bt203 => (if (t164.length : Int) = 2 then (if 0 < (t164.length : Int) then (if (rd t164 0) = 195 then (if 1 < (t164.length : Int) then (if (rd t164 1) = 169 then (if t171 = 1 then (if t172 = true then (some false) else (if bt176.2.1 = 1 then (if bt176.2.2 = true then (some false) else (if (bt182.1.length : Int) = 2 then (if bt182.2.1 = 3 then (if bt182.2.2 = true then (if bt192.2.1 = 1 then (if bt198.1 = 1 then (if bt203.1 = 233 then (if bt203.2.1 = 2 then ((utf8_Text.f k bt182.1).bind fun t211 => (some ((strOfNums t211).toList == ([97, 195, 169] : List UInt8)))) else (some false)) else (some false)) else (some false)) else (some false)) else (some false)) else (some false)) else (some false))) else (some false))) else (some false)) else (some false)) else (none)) else (some false)) else (none)) else (some false)))))))) = some r := H
  have A2 := Aside0.mk A20
  clear A20
  obtain ⟨y173, hy173⟩ : ∃ y_ : List Int, y_ = (([237, 160] : List Int)) := ⟨_, rfl⟩
  replace H : ((utf8_First.f k y173).bind fun bt176 => ((utf8_All.f k (([97, 195, 169] : List Int))).bind fun bt182 => ((utf8_New.f).bind fun bt187 => ((utf8_Reader_Push.f k bt187.1 bt187.2.1 bt187.2.2.1 bt187.2.2.2 195).bind fun bt192 => ((utf8_Reader_Left.f bt192.2.2.1 bt192.2.2.2.1 bt192.2.2.2.2.1 bt192.2.2.2.2.2).bind fun bt198 => ((utf8_Reader_Push.f k bt198.2.1 bt198.2.2.1 bt198.2.2.2.1 bt198.2.2.2.2 169).bind fun bt203 => (if (t164.length : Int) = 2 then (if 0 < (t164.length : Int) then (if (rd t164 0) = 195 then (if 1 < (t164.length : Int) then (if (rd t164 1) = 169 then (if t171 = 1 then (if t172 = true then (some false) else (if bt176.2.1 = 1 then (if bt176.2.2 = true then (some false) else (if (bt182.1.length : Int) = 2 then (if bt182.2.1 = 3 then (if bt182.2.2 = true then (if bt192.2.1 = 1 then (if bt198.1 = 1 then (if bt203.1 = 233 then (if bt203.2.1 = 2 then ((utf8_Text.f k bt182.1).bind fun t211 => (some ((strOfNums t211).toList == ([97, 195, 169] : List UInt8)))) else (some false)) else (some false)) else (some false)) else (some false)) else (some false)) else (some false)) else (some false))) else (some false))) else (some false)) else (some false)) else (none)) else (some false)) else (none)) else (some false)))))))) = some r := by first | (rw [hy173]; with_reducible exact H) | (have H2_ := (Option.bind_some _ _).symm.trans H; rw [hy173]; with_reducible exact H2_) | (have H2_ := (Option.bind_some _ _).symm.trans H; with_reducible exact H2_) | with_reducible exact H | (rw [hy173]; exact H) | exact H
  have Ny173 := Aside0.mk hy173
  clear hy173
  replace H := Option.bind_eq_some_iff.mp H
  obtain ⟨⟨t176, t177, t178⟩, A30, H⟩ := H
  replace H : ((utf8_All.f k (([97, 195, 169] : List Int))).bind fun bt182 => ((utf8_New.f).bind fun bt187 => ((utf8_Reader_Push.f k bt187.1 bt187.2.1 bt187.2.2.1 bt187.2.2.2 195).bind fun bt192 => ((utf8_Reader_Left.f bt192.2.2.1 bt192.2.2.2.1 bt192.2.2.2.2.1 bt192.2.2.2.2.2).bind fun bt198 => ((utf8_Reader_Push.f k bt198.2.1 bt198.2.2.1 bt198.2.2.2.1 bt198.2.2.2.2 169).bind fun bt203 => (if (t164.length : Int) = 2 then (if 0 < (t164.length : Int) then (if (rd t164 0) = 195 then (if 1 < (t164.length : Int) then (if (rd t164 1) = 169 then (if t171 = 1 then (if t172 = true then (some false) else (if t177 = 1 then (if t178 = true then (some false) else (if (bt182.1.length : Int) = 2 then (if bt182.2.1 = 3 then (if bt182.2.2 = true then (if bt192.2.1 = 1 then (if bt198.1 = 1 then (if bt203.1 = 233 then (if bt203.2.1 = 2 then ((utf8_Text.f k bt182.1).bind fun t211 => (some ((strOfNums t211).toList == ([97, 195, 169] : List UInt8)))) else (some false)) else (some false)) else (some false)) else (some false)) else (some false)) else (some false)) else (some false))) else (some false))) else (some false)) else (some false)) else (none)) else (some false)) else (none)) else (some false))))))) = some r := H
  have A3 := Aside0.mk A30
  clear A30
  obtain ⟨y179, hy179⟩ : ∃ y_ : List Int, y_ = (([97, 195, 169] : List Int)) := ⟨_, rfl⟩
  replace H : ((utf8_All.f k y179).bind fun bt182 => ((utf8_New.f).bind fun bt187 => ((utf8_Reader_Push.f k bt187.1 bt187.2.1 bt187.2.2.1 bt187.2.2.2 195).bind fun bt192 => ((utf8_Reader_Left.f bt192.2.2.1 bt192.2.2.2.1 bt192.2.2.2.2.1 bt192.2.2.2.2.2).bind fun bt198 => ((utf8_Reader_Push.f k bt198.2.1 bt198.2.2.1 bt198.2.2.2.1 bt198.2.2.2.2 169).bind fun bt203 => (if (t164.length : Int) = 2 then (if 0 < (t164.length : Int) then (if (rd t164 0) = 195 then (if 1 < (t164.length : Int) then (if (rd t164 1) = 169 then (if t171 = 1 then (if t172 = true then (some false) else (if t177 = 1 then (if t178 = true then (some false) else (if (bt182.1.length : Int) = 2 then (if bt182.2.1 = 3 then (if bt182.2.2 = true then (if bt192.2.1 = 1 then (if bt198.1 = 1 then (if bt203.1 = 233 then (if bt203.2.1 = 2 then ((utf8_Text.f k bt182.1).bind fun t211 => (some ((strOfNums t211).toList == ([97, 195, 169] : List UInt8)))) else (some false)) else (some false)) else (some false)) else (some false)) else (some false)) else (some false)) else (some false))) else (some false))) else (some false)) else (some false)) else (none)) else (some false)) else (none)) else (some false))))))) = some r := by first | (rw [hy179]; with_reducible exact H) | (have H2_ := (Option.bind_some _ _).symm.trans H; rw [hy179]; with_reducible exact H2_) | (have H2_ := (Option.bind_some _ _).symm.trans H; with_reducible exact H2_) | with_reducible exact H | (rw [hy179]; exact H) | exact H
  have Ny179 := Aside0.mk hy179
  clear hy179
  replace H := Option.bind_eq_some_iff.mp H
  obtain ⟨⟨t182, t183, t184⟩, A40, H⟩ := H
  replace H : ((utf8_New.f).bind fun bt187 => ((utf8_Reader_Push.f k bt187.1 bt187.2.1 bt187.2.2.1 bt187.2.2.2 195).bind fun bt192 => ((utf8_Reader_Left.f bt192.2.2.1 bt192.2.2.2.1 bt192.2.2.2.2.1 bt192.2.2.2.2.2).bind fun bt198 => ((utf8_Reader_Push.f k bt198.2.1 bt198.2.2.1 bt198.2.2.2.1 bt198.2.2.2.2 169).bind fun bt203 => (if (t164.length : Int) = 2 then (if 0 < (t164.length : Int) then (if (rd t164 0) = 195 then (if 1 < (t164.length : Int) then (if (rd t164 1) = 169 then (if t171 = 1 then (if t172 = true then (some false) else (if t177 = 1 then (if t178 = true then (some false) else (if (t182.length : Int) = 2 then (if t183 = 3 then (if t184 = true then (if bt192.2.1 = 1 then (if bt198.1 = 1 then (if bt203.1 = 233 then (if bt203.2.1 = 2 then ((utf8_Text.f k t182).bind fun t211 => (some ((strOfNums t211).toList == ([97, 195, 169] : List UInt8)))) else (some false)) else (some false)) else (some false)) else (some false)) else (some false)) else (some false)) else (some false))) else (some false))) else (some false)) else (some false)) else (none)) else (some false)) else (none)) else (some false)))))) = some r := H
  have A4 := Aside0.mk A40
  clear A40
  replace H := Option.bind_eq_some_iff.mp H
  obtain ⟨⟨t187, t188, t189, t190⟩, A50, H⟩ := H
  replace H : ((utf8_Reader_Push.f k t187 t188 t189 t190 195).bind fun bt192 => ((utf8_Reader_Left.f bt192.2.2.1 bt192.2.2.2.1 bt192.2.2.2.2.1 bt192.2.2.2.2.2).bind fun bt198 => ((utf8_Reader_Push.f k bt198.2.1 bt198.2.2.1 bt198.2.2.2.1 bt198.2.2.2.2 169).bind fun bt203 => (if (t164.length : Int) = 2 then (if 0 < (t164.length : Int) then (if (rd t164 0) = 195 then (if 1 < (t164.length : Int) then (if (rd t164 1) = 169 then (if t171 = 1 then (if t172 = true then (some false) else (if t177 = 1 then (if t178 = true then (some false) else (if (t182.length : Int) = 2 then (if t183 = 3 then (if t184 = true then (if bt192.2.1 = 1 then (if bt198.1 = 1 then (if bt203.1 = 233 then (if bt203.2.1 = 2 then ((utf8_Text.f k t182).bind fun t211 => (some ((strOfNums t211).toList == ([97, 195, 169] : List UInt8)))) else (some false)) else (some false)) else (some false)) else (some false)) else (some false)) else (some false)) else (some false))) else (some false))) else (some false)) else (some false)) else (none)) else (some false)) else (none)) else (some false))))) = some r := H
  have A5 := Aside0.mk A50
  clear A50
  replace H := Option.bind_eq_some_iff.mp H
  obtain ⟨⟨t192, t193, t194, t195, t196, t197⟩, A60, H⟩ := H
  replace H : ((utf8_Reader_Left.f t194 t195 t196 t197).bind fun bt198 => ((utf8_Reader_Push.f k bt198.2.1 bt198.2.2.1 bt198.2.2.2.1 bt198.2.2.2.2 169).bind fun bt203 => (if (t164.length : Int) = 2 then (if 0 < (t164.length : Int) then (if (rd t164 0) = 195 then (if 1 < (t164.length : Int) then (if (rd t164 1) = 169 then (if t171 = 1 then (if t172 = true then (some false) else (if t177 = 1 then (if t178 = true then (some false) else (if (t182.length : Int) = 2 then (if t183 = 3 then (if t184 = true then (if t193 = 1 then (if bt198.1 = 1 then (if bt203.1 = 233 then (if bt203.2.1 = 2 then ((utf8_Text.f k t182).bind fun t211 => (some ((strOfNums t211).toList == ([97, 195, 169] : List UInt8)))) else (some false)) else (some false)) else (some false)) else (some false)) else (some false)) else (some false)) else (some false))) else (some false))) else (some false)) else (some false)) else (none)) else (some false)) else (none)) else (some false)))) = some r := H
  have A6 := Aside0.mk A60
  clear A60
  replace H := Option.bind_eq_some_iff.mp H
  obtain ⟨⟨t198, t199, t200, t201, t202⟩, A70, H⟩ := H
  replace H : ((utf8_Reader_Push.f k t199 t200 t201 t202 169).bind fun bt203 => (if (t164.length : Int) = 2 then (if 0 < (t164.length : Int) then (if (rd t164 0) = 195 then (if 1 < (t164.length : Int) then (if (rd t164 1) = 169 then (if t171 = 1 then (if t172 = true then (some false) else (if t177 = 1 then (if t178 = true then (some false) else (if (t182.length : Int) = 2 then (if t183 = 3 then (if t184 = true then (if t193 = 1 then (if t198 = 1 then (if bt203.1 = 233 then (if bt203.2.1 = 2 then ((utf8_Text.f k t182).bind fun t211 => (some ((strOfNums t211).toList == ([97, 195, 169] : List UInt8)))) else (some false)) else (some false)) else (some false)) else (some false)) else (some false)) else (some false)) else (some false))) else (some false))) else (some false)) else (some false)) else (none)) else (some false)) else (none)) else (some false))) = some r := H
  have A7 := Aside0.mk A70
  clear A70
  replace H := Option.bind_eq_some_iff.mp H
  obtain ⟨⟨t203, t204, t205, t206, t207, t208⟩, A80, H⟩ := H
  replace H : (if (t164.length : Int) = 2 then (if 0 < (t164.length : Int) then (if (rd t164 0) = 195 then (if 1 < (t164.length : Int) then (if (rd t164 1) = 169 then (if t171 = 1 then (if t172 = true then (some false) else (if t177 = 1 then (if t178 = true then (some false) else (if (t182.length : Int) = 2 then (if t183 = 3 then (if t184 = true then (if t193 = 1 then (if t198 = 1 then (if t203 = 233 then (if t204 = 2 then ((utf8_Text.f k t182).bind fun t211 => (some ((strOfNums t211).toList == ([97, 195, 169] : List UInt8)))) else (some false)) else (some false)) else (some false)) else (some false)) else (some false)) else (some false)) else (some false))) else (some false))) else (some false)) else (some false)) else (none)) else (some false)) else (none)) else (some false)) = some r := H
  have A8 := Aside0.mk A80
  clear A80
  by_cases c9 : (t164.length : Int) = 2
  · rw [if_pos c9] at H
    have c9b0 : ((t164.length : Int) == 2) = true := beq_iff_eq.mpr c9
    have c9b1 : ((t164.length : Int) != 2) = false := bne_eq_false_iff_eq.mpr c9
    clear c9
    by_cases c10 : 0 < (t164.length : Int)
    · rw [if_pos c10] at H
      have c10b0 : decide (0 < (t164.length : Int)) = true := decide_eq_true c10
      have c10b1 : decide (0 < t164.length) = true := decide_eq_true (by omega)
      clear c10
      by_cases c11 : (rd t164 0) = 195
      · rw [if_pos c11] at H
        have c11b0 : ((rd t164 0) == 195) = true := beq_iff_eq.mpr c11
        have c11b1 : ((rd t164 0) != 195) = false := bne_eq_false_iff_eq.mpr c11
        clear c11
        by_cases c12 : 1 < (t164.length : Int)
        · rw [if_pos c12] at H
          have c12b0 : decide (1 < (t164.length : Int)) = true := decide_eq_true c12
          have c12b1 : decide (1 < t164.length) = true := decide_eq_true (by omega)
          clear c12
          by_cases c13 : (rd t164 1) = 169
          · rw [if_pos c13] at H
            have c13b0 : ((rd t164 1) == 169) = true := beq_iff_eq.mpr c13
            have c13b1 : ((rd t164 1) != 169) = false := bne_eq_false_iff_eq.mpr c13
            clear c13
            by_cases c14 : t171 = 1
            · rw [if_pos c14] at H
              have c14b0 : (t171 == 1) = true := beq_iff_eq.mpr c14
              have c14b1 : (t171 != 1) = false := bne_eq_false_iff_eq.mpr c14
              clear c14
              by_cases c15 : t172 = true
              · subst c15
                have H1 : (some false) = some r := by rw [if_pos rfl] at H; exact H
                clear H
                have H := H1
                clear H1
                obtain rfl := Option.some.inj H
                exact absurd hT_.out (by decide)
              · replace c15 := Bool.eq_false_iff.mpr c15
                subst c15
                have H1 : (if t177 = 1 then (if t178 = true then (some false) else (if (t182.length : Int) = 2 then (if t183 = 3 then (if t184 = true then (if t193 = 1 then (if t198 = 1 then (if t203 = 233 then (if t204 = 2 then ((utf8_Text.f k t182).bind fun t211 => (some ((strOfNums t211).toList == ([97, 195, 169] : List UInt8)))) else (some false)) else (some false)) else (some false)) else (some false)) else (some false)) else (some false)) else (some false))) else (some false)) = some r := by rw [if_neg (show ¬ (false = true) by decide)] at H; exact H
                clear H
                have H := H1
                clear H1
                by_cases c16 : t177 = 1
                · rw [if_pos c16] at H
                  have c16b0 : (t177 == 1) = true := beq_iff_eq.mpr c16
                  have c16b1 : (t177 != 1) = false := bne_eq_false_iff_eq.mpr c16
                  clear c16
                  by_cases c17 : t178 = true
                  · subst c17
                    have H1 : (some false) = some r := by rw [if_pos rfl] at H; exact H
                    clear H
                    have H := H1
                    clear H1
                    obtain rfl := Option.some.inj H
                    exact absurd hT_.out (by decide)
                  · replace c17 := Bool.eq_false_iff.mpr c17
                    subst c17
                    have H1 : (if (t182.length : Int) = 2 then (if t183 = 3 then (if t184 = true then (if t193 = 1 then (if t198 = 1 then (if t203 = 233 then (if t204 = 2 then ((utf8_Text.f k t182).bind fun t211 => (some ((strOfNums t211).toList == ([97, 195, 169] : List UInt8)))) else (some false)) else (some false)) else (some false)) else (some false)) else (some false)) else (some false)) else (some false)) = some r := by rw [if_neg (show ¬ (false = true) by decide)] at H; exact H
                    clear H
                    have H := H1
                    clear H1
                    by_cases c18 : (t182.length : Int) = 2
                    · rw [if_pos c18] at H
                      have c18b0 : ((t182.length : Int) == 2) = true := beq_iff_eq.mpr c18
                      have c18b1 : ((t182.length : Int) != 2) = false := bne_eq_false_iff_eq.mpr c18
                      clear c18
                      by_cases c19 : t183 = 3
                      · rw [if_pos c19] at H
                        have c19b0 : (t183 == 3) = true := beq_iff_eq.mpr c19
                        have c19b1 : (t183 != 3) = false := bne_eq_false_iff_eq.mpr c19
                        clear c19
                        by_cases c20 : t184 = true
                        · subst c20
                          have H1 : (if t193 = 1 then (if t198 = 1 then (if t203 = 233 then (if t204 = 2 then ((utf8_Text.f k t182).bind fun t211 => (some ((strOfNums t211).toList == ([97, 195, 169] : List UInt8)))) else (some false)) else (some false)) else (some false)) else (some false)) = some r := by rw [if_pos rfl] at H; exact H
                          clear H
                          have H := H1
                          clear H1
                          by_cases c21 : t193 = 1
                          · rw [if_pos c21] at H
                            have c21b0 : (t193 == 1) = true := beq_iff_eq.mpr c21
                            have c21b1 : (t193 != 1) = false := bne_eq_false_iff_eq.mpr c21
                            clear c21
                            by_cases c22 : t198 = 1
                            · rw [if_pos c22] at H
                              have c22b0 : (t198 == 1) = true := beq_iff_eq.mpr c22
                              have c22b1 : (t198 != 1) = false := bne_eq_false_iff_eq.mpr c22
                              clear c22
                              by_cases c23 : t203 = 233
                              · rw [if_pos c23] at H
                                have c23b0 : (t203 == 233) = true := beq_iff_eq.mpr c23
                                have c23b1 : (t203 != 233) = false := bne_eq_false_iff_eq.mpr c23
                                clear c23
                                by_cases c24 : t204 = 2
                                · rw [if_pos c24] at H
                                  have c24b0 : (t204 == 2) = true := beq_iff_eq.mpr c24
                                  have c24b1 : (t204 != 2) = false := bne_eq_false_iff_eq.mpr c24
                                  clear c24
                                  replace H := Option.bind_eq_some_iff.mp H
                                  obtain ⟨t211, A250, H⟩ := H
                                  replace H : (some ((strOfNums t211).toList == ([97, 195, 169] : List UInt8))) = some r := H
                                  have A25 := Aside0.mk A250
                                  clear A250
                                  obtain rfl := Option.some.inj H
                                  go_enter Try.func8, Try.ntmps8
                                  go_wp2_with (first | ((with_reducible refine gate_callee (f := 16) rfl ?_); refine goesL_ (some 17) rfl rfl Try.func16 (by kernel_rfl) rfl #[.int .i32 233] rfl (by (try simp only [List.map_toArray, List.map_cons, List.map_nil]); first | done | rfl | (simp only [List.length_drop, List.length_take]; rfl)) ?_; (with_reducible refine (utf8_Bytes.calls 233 t164 _ A1.out).mono ?_); rintro e w26 ⟨v165, rfl, ho0, hb⟩; refine ⟨_, rfl, ?_⟩; have n0_ := Aside0.mk (Kd.R_lower ho0 (below_size (by repeat (first | (with_reducible first | exact HB.out | apply below_alloc | apply pw_below_drewN | apply below_drew1) | exact HB.out)))); have n1_ := Aside0.mk (below_step (by repeat (first | (with_reducible first | exact HB.out | apply below_alloc | apply pw_below_drewN | apply below_drew1) | exact HB.out)) hb); clear HB; have HO166 := n0_; have HB := n1_; clear n0_ n1_; (try clear hb); (try clear hb2); (try clear hk); (try clear hi); (try clear ho0)) | ((with_reducible refine gate_dst (N := 19) rfl ?_); (try (refine gate_guard (by rfl) ?_; dsimp only)); refine Kd.R_lit (Kd.int .u8) _ 5 ?hg (N := 19) ?hd (xs := ([195, 40] : List Int)) (inner := [.int .u8 195, .int .u8 40]) (ok := fun _ => True) (okp := fun _ => True) ?hr ?hp (fun _ hk => hk) trivial (Below.refl _ _) (Nat.le_refl _) (by simp) ?_; (case hd => rfl); (case hg => rfl); (case hr => first | (go_simp; done) | (go_simp; rfl)); (case hp => exact (Reps.one (show Kd.M (Kd.int .u8) _ _ _ 195 [.int .u8 195] from rfl) (Reps.one (show Kd.M (Kd.int .u8) _ _ _ 40 [.int .u8 40] from rfl) (Reps.none _ _)))); intro v168 w27 ho28 hb hg_ hnew_; clear hg_ hnew_; (first | rw [← Ny167.out] at ho28 | (simp only [Int.reduceToNat] at ho28; rw [← Ny167.out] at ho28)); have n0_ := Aside0.mk (Kd.R_elder' (by (with_reducible repeat (first | apply Kd.R_alloc | apply Kd.R_drewN | apply Kd.R_drew)); exact HO166.out) (Kd.R_base ho28) hb); have n1_ := Aside0.mk (Kd.R_lower (Kd.R_new' ho28 (Kd.R_lt (by (with_reducible repeat (first | apply Kd.R_alloc | apply Kd.R_drewN | apply Kd.R_drew)); exact HO166.out))) (below_size (by repeat (first | (with_reducible first | exact HB.out | apply below_alloc | apply pw_below_drewN | apply below_drew1) | exact HB.out)))); have n2_ := Aside0.mk (below_step (by repeat (first | (with_reducible first | exact HB.out | apply below_alloc | apply pw_below_drewN | apply below_drew1) | exact HB.out)) hb); clear HO166; clear HB; have HO166 := n0_; have HO169 := n1_; have HB := n2_; clear n0_ n1_ n2_; clear hb ho28; obtain ⟨Ao29, co29, eo29⟩ := Kd.R_slice HO169.out; subst eo29) | ((with_reducible refine gate_callee (f := 9) rfl ?_); refine goesL_ (some 20) rfl rfl Try.func9 (by kernel_rfl) rfl #[.slice Ao29 y167.length co29] rfl (by (try simp only [List.map_toArray, List.map_cons, List.map_nil]); first | done | rfl | (simp only [List.length_drop, List.length_take]; rfl)) ?_; (with_reducible refine (utf8_First.calls k _ _ y167 t170 t171 false _ ?side1 ?side2 A2.out).mono ?_); (case side1 => repeat (first | exact (Kd.R_reads' HO169.out).2.2 | (with_reducible refine Kd.C_alloc ?_ _) | (with_reducible refine Kd.C_drewN ?_ _) | (with_reducible refine Kd.C_drew ?_))); (case side2 => exact (Kd.R_reads' HO169.out).2.1); rintro e w30 ⟨rfl, hb⟩; refine ⟨_, rfl, ?_⟩; have n0_ := Aside0.mk (Kd.R_below (by (with_reducible repeat (first | apply Kd.R_alloc | apply Kd.R_drewN | apply Kd.R_drew)); exact HO166.out) hb); have n1_ := Aside0.mk (Kd.R_below (by (with_reducible repeat (first | apply Kd.R_alloc | apply Kd.R_drewN | apply Kd.R_drew)); exact HO169.out) hb); have n2_ := Aside0.mk (below_step (by repeat (first | (with_reducible first | exact HB.out | apply below_alloc | apply pw_below_drewN | apply below_drew1) | exact HB.out)) hb); clear HO166; clear HO169; clear HB; have HO166 := n0_; have HO169 := n1_; have HB := n2_; clear n0_ n1_ n2_; (try clear hb); (try clear hb2); (try clear hk); (try clear hi)) | ((with_reducible refine gate_dst (N := 25) rfl ?_); (try (refine gate_guard (by rfl) ?_; dsimp only)); refine Kd.R_lit (Kd.int .u8) _ 5 ?hg (N := 25) ?hd (xs := ([237, 160] : List Int)) (inner := [.int .u8 237, .int .u8 160]) (ok := fun _ => True) (okp := fun _ => True) ?hr ?hp (fun _ hk => hk) trivial (Below.refl _ _) (Nat.le_refl _) (by simp) ?_; (case hd => rfl); (case hg => rfl); (case hr => first | (go_simp; done) | (go_simp; rfl)); (case hp => exact (Reps.one (show Kd.M (Kd.int .u8) _ _ _ 237 [.int .u8 237] from rfl) (Reps.one (show Kd.M (Kd.int .u8) _ _ _ 160 [.int .u8 160] from rfl) (Reps.none _ _)))); intro v174 w31 ho32 hb hg_ hnew_; clear hg_ hnew_; (first | rw [← Ny173.out] at ho32 | (simp only [Int.reduceToNat] at ho32; rw [← Ny173.out] at ho32)); have n0_ := Aside0.mk (Kd.R_elder' (by (with_reducible repeat (first | apply Kd.R_alloc | apply Kd.R_drewN | apply Kd.R_drew)); exact HO166.out) (Kd.R_base ho32) hb); have n1_ := Aside0.mk (Kd.R_elder' (by (with_reducible repeat (first | apply Kd.R_alloc | apply Kd.R_drewN | apply Kd.R_drew)); exact HO169.out) (Kd.R_base ho32) hb); have n2_ := Aside0.mk (Kd.R_lower (Kd.R_new' (Kd.R_new' ho32 (Kd.R_lt (by (with_reducible repeat (first | apply Kd.R_alloc | apply Kd.R_drewN | apply Kd.R_drew)); exact HO166.out))) (Kd.R_lt (by (with_reducible repeat (first | apply Kd.R_alloc | apply Kd.R_drewN | apply Kd.R_drew)); exact HO169.out))) (below_size (by repeat (first | (with_reducible first | exact HB.out | apply below_alloc | apply pw_below_drewN | apply below_drew1) | exact HB.out)))); have n3_ := Aside0.mk (below_step (by repeat (first | (with_reducible first | exact HB.out | apply below_alloc | apply pw_below_drewN | apply below_drew1) | exact HB.out)) hb); clear HO166; clear HO169; clear HB; have HO166 := n0_; have HO169 := n1_; have HO175 := n2_; have HB := n3_; clear n0_ n1_ n2_ n3_; clear hb ho32; obtain ⟨Ao33, co33, eo33⟩ := Kd.R_slice HO175.out; subst eo33) | ((with_reducible refine gate_callee (f := 9) rfl ?_); refine goesL_ (some 26) rfl rfl Try.func9 (by kernel_rfl) rfl #[.slice Ao33 y173.length co33] rfl (by (try simp only [List.map_toArray, List.map_cons, List.map_nil]); first | done | rfl | (simp only [List.length_drop, List.length_take]; rfl)) ?_; (with_reducible refine (utf8_First.calls k _ _ y173 t176 t177 false _ ?side1 ?side2 A3.out).mono ?_); (case side1 => repeat (first | exact (Kd.R_reads' HO175.out).2.2 | (with_reducible refine Kd.C_alloc ?_ _) | (with_reducible refine Kd.C_drewN ?_ _) | (with_reducible refine Kd.C_drew ?_))); (case side2 => exact (Kd.R_reads' HO175.out).2.1); rintro e w34 ⟨rfl, hb⟩; refine ⟨_, rfl, ?_⟩; have n0_ := Aside0.mk (Kd.R_below (by (with_reducible repeat (first | apply Kd.R_alloc | apply Kd.R_drewN | apply Kd.R_drew)); exact HO166.out) hb); have n1_ := Aside0.mk (Kd.R_below (by (with_reducible repeat (first | apply Kd.R_alloc | apply Kd.R_drewN | apply Kd.R_drew)); exact HO169.out) hb); have n2_ := Aside0.mk (Kd.R_below (by (with_reducible repeat (first | apply Kd.R_alloc | apply Kd.R_drewN | apply Kd.R_drew)); exact HO175.out) hb); have n3_ := Aside0.mk (below_step (by repeat (first | (with_reducible first | exact HB.out | apply below_alloc | apply pw_below_drewN | apply below_drew1) | exact HB.out)) hb); clear HO166; clear HO169; clear HO175; clear HB; have HO166 := n0_; have HO169 := n1_; have HO175 := n2_; have HB := n3_; clear n0_ n1_ n2_ n3_; (try clear hb); (try clear hb2); (try clear hk); (try clear hi)) | ((with_reducible refine gate_dst (N := 31) rfl ?_); (try (refine gate_guard (by rfl) ?_; dsimp only)); refine Kd.V_litconv _ 5 ?hg (N := 31) (N2 := 32) ?hd (xs := ([97, 195, 169] : List Int)) (inner := [.int .u8 97, .int .u8 195, .int .u8 169]) (ok := fun k_ => w34.heap.size ≤ k_) ?hr ?hi ?hf (Below.refl _ _) (Nat.le_refl _) (by simp) ?hg2 ?hd2 22 ?ho2 Try.underlying22 Try.underlying5 ?hN ?_; (case hd => rfl); (case hg => rfl); (case hg2 => rfl); (case hd2 => rfl); (case ho2 => rfl); (case hN => (simp; done)); (case hi => rfl); (case hf => first | exact Nat.le_refl _ | (simp; done) | (simp; omega)); (case hr => first | (go_simp; done) | (go_simp; rfl)); intro v180 w35 ho36 hb hg_ hnew_; clear hg_ hnew_; (first | rw [← Ny179.out] at ho36 | (simp only [Int.reduceToNat] at ho36; rw [← Ny179.out] at ho36)); have n0_ := Aside0.mk (Kd.R_below (by (with_reducible repeat (first | apply Kd.R_alloc | apply Kd.R_drewN | apply Kd.R_drew)); exact HO166.out) hb); have n1_ := Aside0.mk (Kd.R_below (by (with_reducible repeat (first | apply Kd.R_alloc | apply Kd.R_drewN | apply Kd.R_drew)); exact HO169.out) hb); have n2_ := Aside0.mk (Kd.R_below (by (with_reducible repeat (first | apply Kd.R_alloc | apply Kd.R_drewN | apply Kd.R_drew)); exact HO175.out) hb); have n3_ := Aside0.mk (Kd.V_lower (Kd.V_mono (ok' := fun k_ => some k_ ≠ (v165 : Value).ownBlock ∧ some k_ ≠ (.slice Ao29 y167.length co29 : Value).ownBlock ∧ some k_ ≠ (.slice Ao33 y173.length co33 : Value).ownBlock) ho36 (fun k_ hk_ => ⟨(Kd.fresh' (Kd.R_lt (by (with_reducible repeat (first | apply Kd.R_alloc | apply Kd.R_drewN | apply Kd.R_drew)); exact HO166.out)) k_ hk_), (Kd.fresh' (Kd.R_lt (by (with_reducible repeat (first | apply Kd.R_alloc | apply Kd.R_drewN | apply Kd.R_drew)); exact HO169.out)) k_ hk_), (Kd.fresh' (Kd.R_lt (by (with_reducible repeat (first | apply Kd.R_alloc | apply Kd.R_drewN | apply Kd.R_drew)); exact HO175.out)) k_ hk_)⟩)) (below_size (by repeat (first | (with_reducible first | exact HB.out | apply below_alloc | apply pw_below_drewN | apply below_drew1) | exact HB.out)))); have n4_ := Aside0.mk (below_step (by repeat (first | (with_reducible first | exact HB.out | apply below_alloc | apply pw_below_drewN | apply below_drew1) | exact HB.out)) hb); clear HO166; clear HO169; clear HO175; clear HB; have HO166 := n0_; have HO169 := n1_; have HO175 := n2_; have HO181 := n3_; have HB := n4_; clear n0_ n1_ n2_ n3_ n4_; clear hb ho36; obtain ⟨Ao37, co37, eo37⟩ := Kd.V_slice HO181.out; subst eo37) | ((with_reducible refine gate_callee (f := 11) rfl ?_); refine goesL_ (some 33) rfl rfl Try.func11 (by kernel_rfl) rfl #[.slice Ao37 y179.length co37] rfl (by (try simp only [List.map_toArray, List.map_cons, List.map_nil]); first | done | rfl | (simp only [List.length_drop, List.length_take]; rfl)) ?_; (with_reducible refine (utf8_All.calls k _ _ y179 t182 t183 true _ ?side1 ?side2 A4.out).mono ?_); (case side1 => repeat (first | exact (Kd.V_reads' HO181.out).2.2 | (with_reducible refine Kd.C_alloc ?_ _) | (with_reducible refine Kd.C_drewN ?_ _) | (with_reducible refine Kd.C_drew ?_))); (case side2 => exact (Kd.V_reads' HO181.out).2.1); rintro e w38 ⟨v185, rfl, ho0, hb⟩; refine ⟨_, rfl, ?_⟩; have n0_ := Aside0.mk (Kd.R_below (by (with_reducible repeat (first | apply Kd.R_alloc | apply Kd.R_drewN | apply Kd.R_drew)); exact HO166.out) hb); have n1_ := Aside0.mk (Kd.R_below (by (with_reducible repeat (first | apply Kd.R_alloc | apply Kd.R_drewN | apply Kd.R_drew)); exact HO169.out) hb); have n2_ := Aside0.mk (Kd.R_below (by (with_reducible repeat (first | apply Kd.R_alloc | apply Kd.R_drewN | apply Kd.R_drew)); exact HO175.out) hb); have n3_ := Aside0.mk (Kd.V_elder' (by (with_reducible repeat (first | apply Kd.V_alloc | apply Kd.V_drewN | apply Kd.V_drew)); exact HO181.out) (Kd.R_base ho0) hb); have n4_ := Aside0.mk (Kd.R_lower ho0 (below_size (by repeat (first | (with_reducible first | exact HB.out | apply below_alloc | apply pw_below_drewN | apply below_drew1) | exact HB.out)))); have n5_ := Aside0.mk (below_step (by repeat (first | (with_reducible first | exact HB.out | apply below_alloc | apply pw_below_drewN | apply below_drew1) | exact HB.out)) hb); clear HO166; clear HO169; clear HO175; clear HO181; clear HB; have HO166 := n0_; have HO169 := n1_; have HO175 := n2_; have HO181 := n3_; have HO186 := n4_; have HB := n5_; clear n0_ n1_ n2_ n3_ n4_ n5_; (try clear hb); (try clear hb2); (try clear hk); (try clear hi); (try clear ho0)) | ((with_reducible refine gate_callee (f := 20) rfl ?_); refine goesL_ (some 37) rfl rfl Try.func20 (by kernel_rfl) rfl #[] rfl (by (try simp only [List.map_toArray, List.map_cons, List.map_nil]); first | done | rfl | (simp only [List.length_drop, List.length_take]; rfl)) ?_; (with_reducible refine (utf8_New.calls  t187 t188 t189 t190 w _ ?side1 A5.out).mono ?_); (case side1 => repeat (first | (with_reducible first | exact HB.out | apply below_alloc | apply pw_below_drewN | apply below_drew1) | exact HB.out)); rintro e w39 ⟨g191, rfl, hi, hb, hb2⟩; refine ⟨_, rfl, ?_⟩; have n0_ := Aside0.mk (Kd.R_below (by (with_reducible repeat (first | apply Kd.R_alloc | apply Kd.R_drewN | apply Kd.R_drew)); exact HO166.out) hb2); have n1_ := Aside0.mk (Kd.R_below (by (with_reducible repeat (first | apply Kd.R_alloc | apply Kd.R_drewN | apply Kd.R_drew)); exact HO169.out) hb2); have n2_ := Aside0.mk (Kd.R_below (by (with_reducible repeat (first | apply Kd.R_alloc | apply Kd.R_drewN | apply Kd.R_drew)); exact HO175.out) hb2); have n3_ := Aside0.mk (Kd.R_below (by (with_reducible repeat (first | apply Kd.R_alloc | apply Kd.R_drewN | apply Kd.R_drew)); exact HO186.out) hb2); have n4_ := Aside0.mk (hb); have n5_ := Aside0.mk (hi); clear HO166; clear HO169; clear HO175; clear HO186; clear HB; have HO166 := n0_; have HO169 := n1_; have HO175 := n2_; have HO186 := n3_; have HB := n4_; have HI191 := n5_; clear n0_ n1_ n2_ n3_ n4_ n5_; (try clear hb); (try clear hb2); (try clear hk); (try clear hi)) | ((with_reducible refine gate_callee (f := 21) rfl ?_); refine goesL_ (some 42) rfl rfl Try.func21 (by kernel_rfl) rfl #[.pointer (some ⟨g191, 0, none⟩), .int .u8 195] rfl (by (try simp only [List.map_toArray, List.map_cons, List.map_nil]); first | done | rfl | (simp only [List.length_drop, List.length_take]; rfl)) ?_; (with_reducible refine (utf8_Reader_Push.calls k g191 t187 t188 t189 t190 195 t192 t193 t194 t195 t196 t197 w _ ?side1 ?side2 A6.out).mono ?_); (case side1 => repeat (first | (with_reducible first | exact HI191.out | apply IsS53.alloc | apply IsS53.drewN | apply IsS53.drew | apply IsS53.set_0 | apply IsS53.set_1 | apply IsS53.set_2 | apply IsS53.set_3) | exact HI191.out)); (case side2 => repeat (first | (with_reducible first | exact HB.out | apply below_alloc | apply pw_below_drewN | apply below_drew1 | refine below_set ?_ (IsS53.ge HI191.out)) | exact HB.out)); rintro e w40 ⟨rfl, hi, hb, hk⟩; refine ⟨_, rfl, ?_⟩; have n0_ := Aside0.mk (Kd.R_mono (Kd.R_keep (IsS53.apart (show IsS53 w _ g191 t187 t188 t189 t190 from by repeat (first | (with_reducible first | exact HI191.out | apply IsS53.alloc | apply IsS53.drewN | apply IsS53.drew | apply IsS53.set_0 | apply IsS53.set_1 | apply IsS53.set_2 | apply IsS53.set_3) | exact HI191.out)) (by (with_reducible repeat (first | apply Kd.R_alloc | apply Kd.R_drewN | apply Kd.R_drew)); exact HO166.out) (by decide)) hk (fun _ h => h.2)) (fun _ h => h.1)); have n1_ := Aside0.mk (Kd.R_mono (Kd.R_keep (IsS53.apart (show IsS53 w _ g191 t187 t188 t189 t190 from by repeat (first | (with_reducible first | exact HI191.out | apply IsS53.alloc | apply IsS53.drewN | apply IsS53.drew | apply IsS53.set_0 | apply IsS53.set_1 | apply IsS53.set_2 | apply IsS53.set_3) | exact HI191.out)) (by (with_reducible repeat (first | apply Kd.R_alloc | apply Kd.R_drewN | apply Kd.R_drew)); exact HO169.out) (by decide)) hk (fun _ h => h.2)) (fun _ h => h.1)); have n2_ := Aside0.mk (Kd.R_mono (Kd.R_keep (IsS53.apart (show IsS53 w _ g191 t187 t188 t189 t190 from by repeat (first | (with_reducible first | exact HI191.out | apply IsS53.alloc | apply IsS53.drewN | apply IsS53.drew | apply IsS53.set_0 | apply IsS53.set_1 | apply IsS53.set_2 | apply IsS53.set_3) | exact HI191.out)) (by (with_reducible repeat (first | apply Kd.R_alloc | apply Kd.R_drewN | apply Kd.R_drew)); exact HO175.out) (by decide)) hk (fun _ h => h.2)) (fun _ h => h.1)); have n3_ := Aside0.mk (Kd.R_mono (Kd.R_keep (IsS53.apart (show IsS53 w _ g191 t187 t188 t189 t190 from by repeat (first | (with_reducible first | exact HI191.out | apply IsS53.alloc | apply IsS53.drewN | apply IsS53.drew | apply IsS53.set_0 | apply IsS53.set_1 | apply IsS53.set_2 | apply IsS53.set_3) | exact HI191.out)) (by (with_reducible repeat (first | apply Kd.R_alloc | apply Kd.R_drewN | apply Kd.R_drew)); exact HO186.out) (by decide)) hk (fun _ h => h.2)) (fun _ h => h.1)); have n4_ := Aside0.mk (hb); have n5_ := Aside0.mk (hi); clear HO166; clear HO169; clear HO175; clear HO186; clear HB; clear HI191; have HO166 := n0_; have HO169 := n1_; have HO175 := n2_; have HO186 := n3_; have HB := n4_; have HI191 := n5_; clear n0_ n1_ n2_ n3_ n4_ n5_; (try clear hb); (try clear hb2); (try clear hk); (try clear hi)) | ((with_reducible refine gate_callee (f := 23) rfl ?_); refine goesL_ (some 46) rfl rfl Try.func23 (by kernel_rfl) rfl #[.pointer (some ⟨g191, 0, none⟩)] rfl (by (try simp only [List.map_toArray, List.map_cons, List.map_nil]); first | done | rfl | (simp only [List.length_drop, List.length_take]; rfl)) ?_; (with_reducible refine (utf8_Reader_Left.calls g191 t194 t195 t196 t197 t198 t199 t200 t201 t202 w _ ?side1 ?side2 A7.out).mono ?_); (case side1 => repeat (first | (with_reducible first | exact HI191.out | apply IsS53.alloc | apply IsS53.drewN | apply IsS53.drew | apply IsS53.set_0 | apply IsS53.set_1 | apply IsS53.set_2 | apply IsS53.set_3) | exact HI191.out)); (case side2 => repeat (first | (with_reducible first | exact HB.out | apply below_alloc | apply pw_below_drewN | apply below_drew1 | refine below_set ?_ (IsS53.ge HI191.out)) | exact HB.out)); rintro e w41 ⟨rfl, hi, hb, hk⟩; refine ⟨_, rfl, ?_⟩; have n0_ := Aside0.mk (Kd.R_mono (Kd.R_keep (IsS53.apart (show IsS53 w _ g191 t194 t195 t196 t197 from by repeat (first | (with_reducible first | exact HI191.out | apply IsS53.alloc | apply IsS53.drewN | apply IsS53.drew | apply IsS53.set_0 | apply IsS53.set_1 | apply IsS53.set_2 | apply IsS53.set_3) | exact HI191.out)) (by (with_reducible repeat (first | apply Kd.R_alloc | apply Kd.R_drewN | apply Kd.R_drew)); exact HO166.out) (by decide)) hk (fun _ h => h.2)) (fun _ h => h.1)); have n1_ := Aside0.mk (Kd.R_mono (Kd.R_keep (IsS53.apart (show IsS53 w _ g191 t194 t195 t196 t197 from by repeat (first | (with_reducible first | exact HI191.out | apply IsS53.alloc | apply IsS53.drewN | apply IsS53.drew | apply IsS53.set_0 | apply IsS53.set_1 | apply IsS53.set_2 | apply IsS53.set_3) | exact HI191.out)) (by (with_reducible repeat (first | apply Kd.R_alloc | apply Kd.R_drewN | apply Kd.R_drew)); exact HO169.out) (by decide)) hk (fun _ h => h.2)) (fun _ h => h.1)); have n2_ := Aside0.mk (Kd.R_mono (Kd.R_keep (IsS53.apart (show IsS53 w _ g191 t194 t195 t196 t197 from by repeat (first | (with_reducible first | exact HI191.out | apply IsS53.alloc | apply IsS53.drewN | apply IsS53.drew | apply IsS53.set_0 | apply IsS53.set_1 | apply IsS53.set_2 | apply IsS53.set_3) | exact HI191.out)) (by (with_reducible repeat (first | apply Kd.R_alloc | apply Kd.R_drewN | apply Kd.R_drew)); exact HO175.out) (by decide)) hk (fun _ h => h.2)) (fun _ h => h.1)); have n3_ := Aside0.mk (Kd.R_mono (Kd.R_keep (IsS53.apart (show IsS53 w _ g191 t194 t195 t196 t197 from by repeat (first | (with_reducible first | exact HI191.out | apply IsS53.alloc | apply IsS53.drewN | apply IsS53.drew | apply IsS53.set_0 | apply IsS53.set_1 | apply IsS53.set_2 | apply IsS53.set_3) | exact HI191.out)) (by (with_reducible repeat (first | apply Kd.R_alloc | apply Kd.R_drewN | apply Kd.R_drew)); exact HO186.out) (by decide)) hk (fun _ h => h.2)) (fun _ h => h.1)); have n4_ := Aside0.mk (hb); have n5_ := Aside0.mk (hi); clear HO166; clear HO169; clear HO175; clear HO186; clear HB; clear HI191; have HO166 := n0_; have HO169 := n1_; have HO175 := n2_; have HO186 := n3_; have HB := n4_; have HI191 := n5_; clear n0_ n1_ n2_ n3_ n4_ n5_; (try clear hb); (try clear hb2); (try clear hk); (try clear hi)) | ((with_reducible refine gate_callee (f := 21) rfl ?_); refine goesL_ (some 49) rfl rfl Try.func21 (by kernel_rfl) rfl #[.pointer (some ⟨g191, 0, none⟩), .int .u8 169] rfl (by (try simp only [List.map_toArray, List.map_cons, List.map_nil]); first | done | rfl | (simp only [List.length_drop, List.length_take]; rfl)) ?_; (with_reducible refine (utf8_Reader_Push.calls k g191 t199 t200 t201 t202 169 t203 t204 t205 t206 t207 t208 w _ ?side1 ?side2 A8.out).mono ?_); (case side1 => repeat (first | (with_reducible first | exact HI191.out | apply IsS53.alloc | apply IsS53.drewN | apply IsS53.drew | apply IsS53.set_0 | apply IsS53.set_1 | apply IsS53.set_2 | apply IsS53.set_3) | exact HI191.out)); (case side2 => repeat (first | (with_reducible first | exact HB.out | apply below_alloc | apply pw_below_drewN | apply below_drew1 | refine below_set ?_ (IsS53.ge HI191.out)) | exact HB.out)); rintro e w42 ⟨rfl, hi, hb, hk⟩; refine ⟨_, rfl, ?_⟩; have n0_ := Aside0.mk (Kd.R_mono (Kd.R_keep (IsS53.apart (show IsS53 w _ g191 t199 t200 t201 t202 from by repeat (first | (with_reducible first | exact HI191.out | apply IsS53.alloc | apply IsS53.drewN | apply IsS53.drew | apply IsS53.set_0 | apply IsS53.set_1 | apply IsS53.set_2 | apply IsS53.set_3) | exact HI191.out)) (by (with_reducible repeat (first | apply Kd.R_alloc | apply Kd.R_drewN | apply Kd.R_drew)); exact HO166.out) (by decide)) hk (fun _ h => h.2)) (fun _ h => h.1)); have n1_ := Aside0.mk (Kd.R_mono (Kd.R_keep (IsS53.apart (show IsS53 w _ g191 t199 t200 t201 t202 from by repeat (first | (with_reducible first | exact HI191.out | apply IsS53.alloc | apply IsS53.drewN | apply IsS53.drew | apply IsS53.set_0 | apply IsS53.set_1 | apply IsS53.set_2 | apply IsS53.set_3) | exact HI191.out)) (by (with_reducible repeat (first | apply Kd.R_alloc | apply Kd.R_drewN | apply Kd.R_drew)); exact HO169.out) (by decide)) hk (fun _ h => h.2)) (fun _ h => h.1)); have n2_ := Aside0.mk (Kd.R_mono (Kd.R_keep (IsS53.apart (show IsS53 w _ g191 t199 t200 t201 t202 from by repeat (first | (with_reducible first | exact HI191.out | apply IsS53.alloc | apply IsS53.drewN | apply IsS53.drew | apply IsS53.set_0 | apply IsS53.set_1 | apply IsS53.set_2 | apply IsS53.set_3) | exact HI191.out)) (by (with_reducible repeat (first | apply Kd.R_alloc | apply Kd.R_drewN | apply Kd.R_drew)); exact HO175.out) (by decide)) hk (fun _ h => h.2)) (fun _ h => h.1)); have n3_ := Aside0.mk (Kd.R_mono (Kd.R_keep (IsS53.apart (show IsS53 w _ g191 t199 t200 t201 t202 from by repeat (first | (with_reducible first | exact HI191.out | apply IsS53.alloc | apply IsS53.drewN | apply IsS53.drew | apply IsS53.set_0 | apply IsS53.set_1 | apply IsS53.set_2 | apply IsS53.set_3) | exact HI191.out)) (by (with_reducible repeat (first | apply Kd.R_alloc | apply Kd.R_drewN | apply Kd.R_drew)); exact HO186.out) (by decide)) hk (fun _ h => h.2)) (fun _ h => h.1)); have n4_ := Aside0.mk (hb); have n5_ := Aside0.mk (hi); clear HO166; clear HO169; clear HO175; clear HO186; clear HB; clear HI191; have HO166 := n0_; have HO169 := n1_; have HO175 := n2_; have HO186 := n3_; have HB := n4_; have HI191 := n5_; clear n0_ n1_ n2_ n3_ n4_ n5_; (try clear hb); (try clear hb2); (try clear hk); (try clear hi); obtain ⟨Ao43, co43, eo43⟩ := Kd.R_slice HO166.out; subst eo43; have p209 : 0 ≤ (0 : Int) := (by omega); have q209 : 0 < (t164.length : Int) := of_decide_eq_true (by first | (with_reducible assumption) | assumption); obtain ⟨ad209, e209, hx209_0⟩ := Kd.at_int (Kd.R_reads' HO166.out).2.2 0 p209 q209; cases e209; have qi209 : (0 < t164.length) = True := eq_true (by omega); (try rw [show ((0 : Int)).toNat = 0 from rfl] at hx209_0); (try rw [Addr.add_zero'] at hx209_0); replace p209 := eq_true p209; replace q209 := eq_true q209; have p210 : 0 ≤ (1 : Int) := (by omega); have q210 : 1 < (t164.length : Int) := of_decide_eq_true (by first | (with_reducible assumption) | assumption); obtain ⟨ad210, e210, hx210_0⟩ := Kd.at_int (Kd.R_reads' HO166.out).2.2 1 p210 q210; obtain rfl : ad209 = ad210 := (by injection e210); (try simp only [show (1 : Int).toNat = 1 from rfl, Nat.reduceMul, Nat.reduceEqDiff, Go.Addr.add, ↓reduceIte] at hx210_0); have qi210 : (1 < t164.length) = True := eq_true (by omega); (try rw [show ((1 : Int)).toNat = 1 from rfl] at hx210_0); replace p210 := eq_true p210; replace q210 := eq_true q210; obtain ⟨Ao44, co44, eo44⟩ := Kd.R_slice HO186.out; subst eo44) | (go_at_call 14; (with_reducible refine (utf8_Text.calls k _ _ t182 t211 _ ?side1 ?side2 A25.out).mono ?_); (case side1 => repeat (first | exact (Kd.R_reads' HO186.out).2.2 | (with_reducible refine Kd.C_alloc ?_ _) | (with_reducible refine Kd.C_drewN ?_ _) | (with_reducible refine Kd.C_drew ?_))); (case side2 => exact (Kd.R_reads' HO186.out).2.1); rintro e w45 ⟨v212, rfl, ho0, hb⟩; have n0_ := Aside0.mk (Kd.R_elder' (by (with_reducible repeat (first | apply Kd.R_alloc | apply Kd.R_drewN | apply Kd.R_drew)); exact HO166.out) (Kd.R_base ho0) hb); have n1_ := Aside0.mk (Kd.R_elder' (by (with_reducible repeat (first | apply Kd.R_alloc | apply Kd.R_drewN | apply Kd.R_drew)); exact HO169.out) (Kd.R_base ho0) hb); have n2_ := Aside0.mk (Kd.R_elder' (by (with_reducible repeat (first | apply Kd.R_alloc | apply Kd.R_drewN | apply Kd.R_drew)); exact HO175.out) (Kd.R_base ho0) hb); have n3_ := Aside0.mk (Kd.R_below (by (with_reducible repeat (first | apply Kd.R_alloc | apply Kd.R_drewN | apply Kd.R_drew)); exact HO186.out) hb); have n4_ := Aside0.mk (Kd.R_lower (Kd.R_new' (Kd.R_new' (Kd.R_new' ho0 (Kd.R_lt (by (with_reducible repeat (first | apply Kd.R_alloc | apply Kd.R_drewN | apply Kd.R_drew)); exact HO166.out))) (Kd.R_lt (by (with_reducible repeat (first | apply Kd.R_alloc | apply Kd.R_drewN | apply Kd.R_drew)); exact HO169.out))) (Kd.R_lt (by (with_reducible repeat (first | apply Kd.R_alloc | apply Kd.R_drewN | apply Kd.R_drew)); exact HO175.out))) (below_size (by repeat (first | (with_reducible first | exact HB.out | apply below_alloc | apply pw_below_drewN | apply below_drew1 | refine below_set ?_ (IsS53.ge HI191.out)) | exact HB.out)))); have n5_ := Aside0.mk (IsS53.below (by repeat (first | (with_reducible first | exact HI191.out | apply IsS53.alloc | apply IsS53.drewN | apply IsS53.drew | apply IsS53.set_0 | apply IsS53.set_1 | apply IsS53.set_2 | apply IsS53.set_3) | exact HI191.out)) hb); have n6_ := Aside0.mk (below_step (by repeat (first | (with_reducible first | exact HB.out | apply below_alloc | apply pw_below_drewN | apply below_drew1 | refine below_set ?_ (IsS53.ge HI191.out)) | exact HB.out)) hb); clear HO166; clear HO169; clear HO175; clear HO186; clear HI191; clear HB; have HO166 := n0_; have HO169 := n1_; have HO175 := n2_; have HO186 := n3_; have HO213 := n4_; have HI191 := n5_; have HB := n6_; clear n0_ n1_ n2_ n3_ n4_ n5_ n6_; (try clear hb); (try clear hb2); (try clear hk); (try clear hi); (try clear ho0); have hcv46 := own_string (P := Try.prog) Try.underlying22 Try.underlying5 Try.underlying9 (Kd.own_of_R HO213.out)))
                                  go_ret
                                  exact ⟨by first | rfl | (simp [errW_none, errW_some] <;> rfl) | (simp [*, errW_none, errW_some] <;> rfl), by repeat (first | (with_reducible first | exact HB.out | apply below_alloc | apply pw_below_drewN | apply below_drew1 | refine below_set ?_ (IsS53.ge HI191.out)) | exact HB.out)⟩
                                · rw [if_neg c24] at H
                                  have c24b0 : (t204 == 2) = false := beq_eq_false_iff_ne.mpr c24
                                  have c24b1 : (t204 != 2) = true := bne_iff_ne.mpr c24
                                  obtain rfl := Option.some.inj H
                                  exact absurd hT_.out (by decide)
                              · rw [if_neg c23] at H
                                have c23b0 : (t203 == 233) = false := beq_eq_false_iff_ne.mpr c23
                                have c23b1 : (t203 != 233) = true := bne_iff_ne.mpr c23
                                obtain rfl := Option.some.inj H
                                exact absurd hT_.out (by decide)
                            · rw [if_neg c22] at H
                              have c22b0 : (t198 == 1) = false := beq_eq_false_iff_ne.mpr c22
                              have c22b1 : (t198 != 1) = true := bne_iff_ne.mpr c22
                              obtain rfl := Option.some.inj H
                              exact absurd hT_.out (by decide)
                          · rw [if_neg c21] at H
                            have c21b0 : (t193 == 1) = false := beq_eq_false_iff_ne.mpr c21
                            have c21b1 : (t193 != 1) = true := bne_iff_ne.mpr c21
                            obtain rfl := Option.some.inj H
                            exact absurd hT_.out (by decide)
                        · replace c20 := Bool.eq_false_iff.mpr c20
                          subst c20
                          have H1 : (some false) = some r := by rw [if_neg (show ¬ (false = true) by decide)] at H; exact H
                          clear H
                          have H := H1
                          clear H1
                          obtain rfl := Option.some.inj H
                          exact absurd hT_.out (by decide)
                      · rw [if_neg c19] at H
                        have c19b0 : (t183 == 3) = false := beq_eq_false_iff_ne.mpr c19
                        have c19b1 : (t183 != 3) = true := bne_iff_ne.mpr c19
                        obtain rfl := Option.some.inj H
                        exact absurd hT_.out (by decide)
                    · rw [if_neg c18] at H
                      have c18b0 : ((t182.length : Int) == 2) = false := beq_eq_false_iff_ne.mpr c18
                      have c18b1 : ((t182.length : Int) != 2) = true := bne_iff_ne.mpr c18
                      obtain rfl := Option.some.inj H
                      exact absurd hT_.out (by decide)
                · rw [if_neg c16] at H
                  have c16b0 : (t177 == 1) = false := beq_eq_false_iff_ne.mpr c16
                  have c16b1 : (t177 != 1) = true := bne_iff_ne.mpr c16
                  obtain rfl := Option.some.inj H
                  exact absurd hT_.out (by decide)
            · rw [if_neg c14] at H
              have c14b0 : (t171 == 1) = false := beq_eq_false_iff_ne.mpr c14
              have c14b1 : (t171 != 1) = true := bne_iff_ne.mpr c14
              obtain rfl := Option.some.inj H
              exact absurd hT_.out (by decide)
          · rw [if_neg c13] at H
            have c13b0 : ((rd t164 1) == 169) = false := beq_eq_false_iff_ne.mpr c13
            have c13b1 : ((rd t164 1) != 169) = true := bne_iff_ne.mpr c13
            obtain rfl := Option.some.inj H
            exact absurd hT_.out (by decide)
        · rw [if_neg c12] at H
          exact absurd H (by simp)
      · rw [if_neg c11] at H
        have c11b0 : ((rd t164 0) == 195) = false := beq_eq_false_iff_ne.mpr c11
        have c11b1 : ((rd t164 0) != 195) = true := bne_iff_ne.mpr c11
        obtain rfl := Option.some.inj H
        exact absurd hT_.out (by decide)
    · rw [if_neg c10] at H
      exact absurd H (by simp)
  · rw [if_neg c9] at H
    have c9b0 : ((t164.length : Int) == 2) = false := beq_eq_false_iff_ne.mpr c9
    have c9b1 : ((t164.length : Int) != 2) = true := bne_iff_ne.mpr c9
    obtain rfl := Option.some.inj H
    exact absurd hT_.out (by decide)
/-! ### orthoepylaw02_awake: function 8, its one answer -/
def orthoepylaw02_awake.f : Option (Bool) := some true
theorem orthoepylaw02_awake.calls (r : Bool) (w : World) (h : orthoepylaw02_awake.f = some r) :
    Calls Try.prog 8 #[] w fun e w' => e = .returned (.bool r) ∧ Below w.heap.size w w' := by
  obtain rfl := Option.some.inj h
  exact orthoepylaw02_awake0.calls 60 true w (by decide +kernel) ⟨rfl⟩

/-! ### orthoepyref02_long: function 32 -/
mutual
def orthoepyref02_long.j0 : Nat → Int → Bool → Option (Int)
  | 0, _, _ => none
  | k + 1, x0, x6 => if x6 = true then (some 2) else (if x0 ≥ 224 then (orthoepyref02_long.j1 k x0 (decide (x0 ≤ 239))) else (orthoepyref02_long.j1 k x0 false))
def orthoepyref02_long.j1 : Nat → Int → Bool → Option (Int)
  | 0, _, _ => none
  | k + 1, x0, x13 => if x13 = true then (some 3) else (if x0 ≥ 240 then (if x0 ≤ 244 then (some 4) else (some 0)) else (some 0))
end
def orthoepyref02_long.f (k : Nat) (a0 : Int) : Option (Int) := if a0 < 128 then (some 1) else (if a0 ≥ 194 then (orthoepyref02_long.j0 k a0 (decide (a0 ≤ 223))) else (orthoepyref02_long.j0 k a0 false))
theorem orthoepyref02_long.mono_l : ∀ k, (∀ y0 y1, LeO (orthoepyref02_long.j0 k y0 y1) (orthoepyref02_long.j0 (k + 1) y0 y1)) ∧ (∀ y0 y1, LeO (orthoepyref02_long.j1 k y0 y1) (orthoepyref02_long.j1 (k + 1) y0 y1))
  | 0 => ⟨fun _ _ r h => by simp [orthoepyref02_long.j0] at h, fun _ _ r h => by simp [orthoepyref02_long.j1] at h⟩
  | k + 1 => by
    obtain ⟨ih0, ih1⟩ := orthoepyref02_long.mono_l k
    refine ⟨?_, ?_⟩
    · intro y0 y1
      unfold orthoepyref02_long.j0
      repeat' first
      | (with_reducible exact ih0 _ _)
      | (with_reducible exact ih1 _ _)
      | (with_reducible exact LeO.refl _)
      | (with_reducible exact LeO.none _)
      | (with_reducible refine LeO.ite ?_ ?_)
      | (with_reducible refine LeO.bind ?_ (fun _ => ?_))
      | exact ih0 _ _
      | exact ih1 _ _
      | exact LeO.none _
      | refine LeO.ite ?_ ?_
      | refine LeO.bind ?_ (fun _ => ?_)
    · intro y0 y1
      unfold orthoepyref02_long.j1
      repeat' first
      | (with_reducible exact ih0 _ _)
      | (with_reducible exact ih1 _ _)
      | (with_reducible exact LeO.refl _)
      | (with_reducible exact LeO.none _)
      | (with_reducible refine LeO.ite ?_ ?_)
      | (with_reducible refine LeO.bind ?_ (fun _ => ?_))
      | exact ih0 _ _
      | exact ih1 _ _
      | exact LeO.none _
      | refine LeO.ite ?_ ?_
      | refine LeO.bind ?_ (fun _ => ?_)
theorem orthoepyref02_long.mono : ∀ a0 k, LeO (orthoepyref02_long.f k a0) (orthoepyref02_long.f (k + 1) a0) := by
  intro a0 k
  obtain ⟨ih0, ih1⟩ := orthoepyref02_long.mono_l k
  unfold orthoepyref02_long.f
  repeat' first
      | (with_reducible exact ih0 _ _)
      | (with_reducible exact ih1 _ _)
      | (with_reducible exact LeO.refl _)
      | (with_reducible exact LeO.none _)
      | (with_reducible refine LeO.ite ?_ ?_)
      | (with_reducible refine LeO.bind ?_ (fun _ => ?_))
      | exact ih0 _ _
      | exact ih1 _ _
      | exact LeO.none _
      | refine LeO.ite ?_ ?_
      | refine LeO.bind ?_ (fun _ => ?_)
set_option maxHeartbeats 8000000 in
set_option maxRecDepth 100000 in
theorem orthoepyref02_long.calls (k : Nat) (a0 : Int) (r : Int) (w : World) (h : orthoepyref02_long.f k a0 = some r) :
    Calls Try.prog 32 #[.int .u8 a0] w fun e w' => e = .returned (.int .i64 r) ∧ Drawn0 w w' := by
  have H : (if a0 < 128 then (some 1) else (if a0 ≥ 194 then (orthoepyref02_long.j0 k a0 (decide (a0 ≤ 223))) else (orthoepyref02_long.j0 k a0 false))) = some r := h
  clear h
  by_cases c2 : a0 < 128
  · rw [if_pos c2] at H
    have c2b0 : decide (a0 < 128) = true := decide_eq_true c2
    clear c2
    obtain rfl := Option.some.inj H
    go_enter Try.func32, Try.ntmps32
    go_wp2
    go_ret
    exact ⟨by first | rfl | (simp; done) | (simp [*]; done), by repeat (first | exact Drawn0.refl _ | apply Drawn0.step)⟩
  · rw [if_neg c2] at H
    have c2b0 : decide (a0 < 128) = false := decide_eq_false c2
    clear c2
    have HC3 := Aside0.mk H
    clear H
    go_enter Try.func32, Try.ntmps32
    go_upto_region 3 with (fail)
    go_cut [6] (fun v6 wc => ∃ (kq : Nat) (x6_2 : Bool), v6 = .bool x6_2 ∧ Aside0 (orthoepyref02_long.j0 kq a0 x6_2 = some r) ∧ Aside0 (kq ≤ k) ∧ Drawn0 w wc)
    case first =>
      have H := HC3.out
      clear HC3
      by_cases c4 : a0 ≥ 194
      · rw [if_pos c4] at H
        have c4b0 : decide (194 ≤ a0) = true := decide_eq_true c4
        clear c4
        (first | rw [c4b0] | (simp only [i64_w, i32_w]; rw [c4b0]) | skip)
        have H' := Aside0.mk H
        clear H
        go_wp2
        go_meet
        case rel => exact ⟨_, (decide (a0 ≤ 223)), (by first | rfl | (simp; done) | (simp [*]; done)), H', ⟨by first | omega | exact Nat.le_refl _⟩, by repeat (first | exact Drawn0.refl _ | apply Drawn0.step)⟩
      · rw [if_neg c4] at H
        have c4b0 : decide (194 ≤ a0) = false := decide_eq_false c4
        clear c4
        (first | rw [c4b0] | (simp only [i64_w, i32_w]; rw [c4b0]) | skip)
        have H' := Aside0.mk H
        clear H
        go_wp2
        go_meet
        case rel => exact ⟨_, (false), (by first | rfl | (simp; done) | (simp [*]; done)), H', ⟨by first | omega | exact Nat.le_refl _⟩, by repeat (first | exact Drawn0.refl _ | apply Drawn0.step)⟩
    case rest =>
      clear HC3
      try clear c2
      try clear c2b0
      try clear p2
      try clear c3
      try clear c4
      try clear c4b0
      obtain ⟨kq, x6_2, rfl, HA, HJ2, ⟨mc2, rfl⟩⟩ := hcut
      cases kq with
      | zero => exact absurd HA.out (by simp [orthoepyref02_long.j0])
      | succ kj2 =>
        have H := HA.out
        clear HA
        simp only [orthoepyref02_long.j0] at H
        by_cases c5 : x6_2 = true
        · subst c5
          have H1 : (some 2) = some r := by rw [if_pos rfl] at H; exact H
          clear H
          have H := H1
          clear H1
          obtain rfl := Option.some.inj H
          go_wp2
          go_ret
          exact ⟨by first | rfl | (simp; done) | (simp [*]; done), by repeat (first | exact Drawn0.refl _ | apply Drawn0.step)⟩
        · replace c5 := Bool.eq_false_iff.mpr c5
          subst c5
          have H1 : (if a0 ≥ 224 then (orthoepyref02_long.j1 kj2 a0 (decide (a0 ≤ 239))) else (orthoepyref02_long.j1 kj2 a0 false)) = some r := by rw [if_neg (show ¬ (false = true) by decide)] at H; exact H
          clear H
          have H := H1
          clear H1
          have HC6 := Aside0.mk H
          clear H
          go_upto_region 5 with (fail)
          go_cut [13] (fun v13 wc => ∃ (kq : Nat) (x13_5 : Bool), v13 = .bool x13_5 ∧ Aside0 (orthoepyref02_long.j1 kq a0 x13_5 = some r) ∧ Aside0 (kq ≤ kj2) ∧ Drawn0 w wc)
          case first =>
            have H := HC6.out
            clear HC6
            by_cases c7 : a0 ≥ 224
            · rw [if_pos c7] at H
              have c7b0 : decide (224 ≤ a0) = true := decide_eq_true c7
              clear c7
              (first | rw [c7b0] | (simp only [i64_w, i32_w]; rw [c7b0]) | skip)
              have H' := Aside0.mk H
              clear H
              go_wp2
              go_meet
              case rel => exact ⟨_, (decide (a0 ≤ 239)), (by first | rfl | (simp; done) | (simp [*]; done)), H', ⟨by have := HJ2.out; first | omega | exact Nat.le_refl _⟩, by repeat (first | exact Drawn0.refl _ | apply Drawn0.step)⟩
            · rw [if_neg c7] at H
              have c7b0 : decide (224 ≤ a0) = false := decide_eq_false c7
              clear c7
              (first | rw [c7b0] | (simp only [i64_w, i32_w]; rw [c7b0]) | skip)
              have H' := Aside0.mk H
              clear H
              go_wp2
              go_meet
              case rel => exact ⟨_, (false), (by first | rfl | (simp; done) | (simp [*]; done)), H', ⟨by have := HJ2.out; first | omega | exact Nat.le_refl _⟩, by repeat (first | exact Drawn0.refl _ | apply Drawn0.step)⟩
          case rest =>
            clear HC6
            try clear c2
            try clear c2b0
            try clear p2
            try clear c3
            try clear c4
            try clear c4b0
            try clear c5
            try clear c7
            try clear c7b0
            try clear p2
            obtain ⟨kq, x13_5, rfl, HA, HJ5, ⟨mc5, rfl⟩⟩ := hcut
            cases kq with
            | zero => exact absurd HA.out (by simp [orthoepyref02_long.j1])
            | succ kj5 =>
              have H := HA.out
              clear HA
              simp only [orthoepyref02_long.j1] at H
              by_cases c8 : x13_5 = true
              · subst c8
                have H1 : (some 3) = some r := by rw [if_pos rfl] at H; exact H
                clear H
                have H := H1
                clear H1
                obtain rfl := Option.some.inj H
                go_wp2
                go_ret
                exact ⟨by first | rfl | (simp; done) | (simp [*]; done), by repeat (first | exact Drawn0.refl _ | apply Drawn0.step)⟩
              · replace c8 := Bool.eq_false_iff.mpr c8
                subst c8
                have H1 : (if a0 ≥ 240 then (if a0 ≤ 244 then (some 4) else (some 0)) else (some 0)) = some r := by rw [if_neg (show ¬ (false = true) by decide)] at H; exact H
                clear H
                have H := H1
                clear H1
                by_cases c9 : a0 ≥ 240
                · rw [if_pos c9] at H
                  have c9b0 : decide (240 ≤ a0) = true := decide_eq_true c9
                  clear c9
                  by_cases c10 : a0 ≤ 244
                  · rw [if_pos c10] at H
                    have c10b0 : decide (a0 ≤ 244) = true := decide_eq_true c10
                    clear c10
                    obtain rfl := Option.some.inj H
                    go_wp2
                    go_ret
                    exact ⟨by first | rfl | (simp; done) | (simp [*]; done), by repeat (first | exact Drawn0.refl _ | apply Drawn0.step)⟩
                  · rw [if_neg c10] at H
                    have c10b0 : decide (a0 ≤ 244) = false := decide_eq_false c10
                    clear c10
                    obtain rfl := Option.some.inj H
                    go_wp2
                    go_ret
                    exact ⟨by first | rfl | (simp; done) | (simp [*]; done), by repeat (first | exact Drawn0.refl _ | apply Drawn0.step)⟩
                · rw [if_neg c9] at H
                  have c9b0 : decide (240 ≤ a0) = false := decide_eq_false c9
                  clear c9
                  obtain rfl := Option.some.inj H
                  go_wp2
                  go_ret
                  exact ⟨by first | rfl | (simp; done) | (simp [*]; done), by repeat (first | exact Drawn0.refl _ | apply Drawn0.step)⟩

/-! ### orthoepyref02_second: function 33 -/
def orthoepyref02_second.f (a0 : Int) (a1 : Int) : Option (Bool) := if a0 = 224 then (if a1 ≥ 160 then (some (decide (a1 ≤ 191))) else (some false)) else (if a0 = 237 then (if a1 ≥ 128 then (some (decide (a1 ≤ 159))) else (some false)) else (if a0 = 240 then (if a1 ≥ 144 then (some (decide (a1 ≤ 191))) else (some false)) else (if a0 = 244 then (if a1 ≥ 128 then (some (decide (a1 ≤ 143))) else (some false)) else (if a1 ≥ 128 then (some (decide (a1 ≤ 191))) else (some false)))))
set_option maxHeartbeats 8000000 in
set_option maxRecDepth 100000 in
theorem orthoepyref02_second.calls (a0 : Int) (a1 : Int) (r : Bool) (w : World) (h : orthoepyref02_second.f a0 a1 = some r) :
    Calls Try.prog 33 #[.int .u8 a0, .int .u8 a1] w fun e w' => e = .returned (.bool r) ∧ Drawn0 w w' := by
  have H : (if a0 = 224 then (if a1 ≥ 160 then (some (decide (a1 ≤ 191))) else (some false)) else (if a0 = 237 then (if a1 ≥ 128 then (some (decide (a1 ≤ 159))) else (some false)) else (if a0 = 240 then (if a1 ≥ 144 then (some (decide (a1 ≤ 191))) else (some false)) else (if a0 = 244 then (if a1 ≥ 128 then (some (decide (a1 ≤ 143))) else (some false)) else (if a1 ≥ 128 then (some (decide (a1 ≤ 191))) else (some false)))))) = some r := h
  clear h
  by_cases c3 : a0 = 224
  · rw [if_pos c3] at H
    have c3b0 : (a0 == 224) = true := beq_iff_eq.mpr c3
    have c3b1 : (a0 != 224) = false := bne_eq_false_iff_eq.mpr c3
    clear c3
    by_cases c4 : a1 ≥ 160
    · rw [if_pos c4] at H
      have c4b0 : decide (160 ≤ a1) = true := decide_eq_true c4
      clear c4
      obtain rfl := Option.some.inj H
      go_enter Try.func33, Try.ntmps33
      go_wp2
      go_ret
      exact ⟨by first | rfl | (simp; done) | (simp [*]; done), by repeat (first | exact Drawn0.refl _ | apply Drawn0.step)⟩
    · rw [if_neg c4] at H
      have c4b0 : decide (160 ≤ a1) = false := decide_eq_false c4
      clear c4
      obtain rfl := Option.some.inj H
      go_enter Try.func33, Try.ntmps33
      go_wp2
      go_ret
      exact ⟨by first | rfl | (simp; done) | (simp [*]; done), by repeat (first | exact Drawn0.refl _ | apply Drawn0.step)⟩
  · rw [if_neg c3] at H
    have c3b0 : (a0 == 224) = false := beq_eq_false_iff_ne.mpr c3
    have c3b1 : (a0 != 224) = true := bne_iff_ne.mpr c3
    by_cases c5 : a0 = 237
    · rw [if_pos c5] at H
      have c5b0 : (a0 == 237) = true := beq_iff_eq.mpr c5
      have c5b1 : (a0 != 237) = false := bne_eq_false_iff_eq.mpr c5
      clear c5
      by_cases c6 : a1 ≥ 128
      · rw [if_pos c6] at H
        have c6b0 : decide (128 ≤ a1) = true := decide_eq_true c6
        clear c6
        obtain rfl := Option.some.inj H
        go_enter Try.func33, Try.ntmps33
        go_wp2
        go_ret
        exact ⟨by first | rfl | (simp; done) | (simp [*]; done), by repeat (first | exact Drawn0.refl _ | apply Drawn0.step)⟩
      · rw [if_neg c6] at H
        have c6b0 : decide (128 ≤ a1) = false := decide_eq_false c6
        clear c6
        obtain rfl := Option.some.inj H
        go_enter Try.func33, Try.ntmps33
        go_wp2
        go_ret
        exact ⟨by first | rfl | (simp; done) | (simp [*]; done), by repeat (first | exact Drawn0.refl _ | apply Drawn0.step)⟩
    · rw [if_neg c5] at H
      have c5b0 : (a0 == 237) = false := beq_eq_false_iff_ne.mpr c5
      have c5b1 : (a0 != 237) = true := bne_iff_ne.mpr c5
      by_cases c7 : a0 = 240
      · rw [if_pos c7] at H
        have c7b0 : (a0 == 240) = true := beq_iff_eq.mpr c7
        have c7b1 : (a0 != 240) = false := bne_eq_false_iff_eq.mpr c7
        clear c7
        by_cases c8 : a1 ≥ 144
        · rw [if_pos c8] at H
          have c8b0 : decide (144 ≤ a1) = true := decide_eq_true c8
          clear c8
          obtain rfl := Option.some.inj H
          go_enter Try.func33, Try.ntmps33
          go_wp2
          go_ret
          exact ⟨by first | rfl | (simp; done) | (simp [*]; done), by repeat (first | exact Drawn0.refl _ | apply Drawn0.step)⟩
        · rw [if_neg c8] at H
          have c8b0 : decide (144 ≤ a1) = false := decide_eq_false c8
          clear c8
          obtain rfl := Option.some.inj H
          go_enter Try.func33, Try.ntmps33
          go_wp2
          go_ret
          exact ⟨by first | rfl | (simp; done) | (simp [*]; done), by repeat (first | exact Drawn0.refl _ | apply Drawn0.step)⟩
      · rw [if_neg c7] at H
        have c7b0 : (a0 == 240) = false := beq_eq_false_iff_ne.mpr c7
        have c7b1 : (a0 != 240) = true := bne_iff_ne.mpr c7
        by_cases c9 : a0 = 244
        · rw [if_pos c9] at H
          have c9b0 : (a0 == 244) = true := beq_iff_eq.mpr c9
          have c9b1 : (a0 != 244) = false := bne_eq_false_iff_eq.mpr c9
          clear c9
          by_cases c10 : a1 ≥ 128
          · rw [if_pos c10] at H
            have c10b0 : decide (128 ≤ a1) = true := decide_eq_true c10
            clear c10
            obtain rfl := Option.some.inj H
            go_enter Try.func33, Try.ntmps33
            go_wp2
            go_ret
            exact ⟨by first | rfl | (simp; done) | (simp [*]; done), by repeat (first | exact Drawn0.refl _ | apply Drawn0.step)⟩
          · rw [if_neg c10] at H
            have c10b0 : decide (128 ≤ a1) = false := decide_eq_false c10
            clear c10
            obtain rfl := Option.some.inj H
            go_enter Try.func33, Try.ntmps33
            go_wp2
            go_ret
            exact ⟨by first | rfl | (simp; done) | (simp [*]; done), by repeat (first | exact Drawn0.refl _ | apply Drawn0.step)⟩
        · rw [if_neg c9] at H
          have c9b0 : (a0 == 244) = false := beq_eq_false_iff_ne.mpr c9
          have c9b1 : (a0 != 244) = true := bne_iff_ne.mpr c9
          by_cases c11 : a1 ≥ 128
          · rw [if_pos c11] at H
            have c11b0 : decide (128 ≤ a1) = true := decide_eq_true c11
            clear c11
            obtain rfl := Option.some.inj H
            go_enter Try.func33, Try.ntmps33
            go_wp2
            go_ret
            exact ⟨by first | rfl | (simp; done) | (simp [*]; done), by repeat (first | exact Drawn0.refl _ | apply Drawn0.step)⟩
          · rw [if_neg c11] at H
            have c11b0 : decide (128 ≤ a1) = false := decide_eq_false c11
            clear c11
            obtain rfl := Option.some.inj H
            go_enter Try.func33, Try.ntmps33
            go_wp2
            go_ret
            exact ⟨by first | rfl | (simp; done) | (simp [*]; done), by repeat (first | exact Drawn0.refl _ | apply Drawn0.step)⟩

end Go.Proofs.Ytoalfgmnikbpaaa.PAll
