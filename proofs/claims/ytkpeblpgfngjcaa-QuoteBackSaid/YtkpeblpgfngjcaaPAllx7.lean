-- The machine's side of laws, written by a program of this session (wip/gen/pp.sh). Lean checks it.
import Derived.Test.YtkpeblpgfngjcaaPAllx0
namespace Go.Proofs.Ytkpeblpgfngjcaa.PAll
open Go.RowKit Go.Proofs.YtkpeblpgfngjcaaW.PrintWords Go.Proofs.YtkpeblpgfngjcaaW.PrintLast
set_option linter.unusedVariables false
set_option linter.unusedSimpArgs false

/-! ### orthoepyref01_Split: function 39 -/
def orthoepyref01_Split.f (a0 : Int) : Option (Int × Int × Bool) := if a0 < 65536 then (some (0, 0, false)) else (if a0 > 1114111 then (some (0, 0, false)) else (some (IntKind.u16.wrap (wrap32 (55296 + (wrap32 (Int.tdiv (wrap32 (a0 - 65536)) 1024)))), IntKind.u16.wrap (wrap32 (56320 + (Int.tmod (wrap32 (a0 - 65536)) 1024))), true)))
set_option maxHeartbeats 8000000 in
set_option maxRecDepth 100000 in
theorem orthoepyref01_Split.calls (a0 : Int) (r1 : Int) (r2 : Int) (r3 : Bool) (w : World) (h : orthoepyref01_Split.f a0 = some (r1, r2, r3)) :
    Calls Try.prog 39 #[.int .i32 a0] w fun e w' => e = .returned (.tuple #[.int .u16 r1, .int .u16 r2, .bool r3]) ∧ Drawn0 w w' := by
  have H : (if a0 < 65536 then (some (0, 0, false)) else (if a0 > 1114111 then (some (0, 0, false)) else (some (IntKind.u16.wrap (wrap32 (55296 + (wrap32 (Int.tdiv (wrap32 (a0 - 65536)) 1024)))), IntKind.u16.wrap (wrap32 (56320 + (Int.tmod (wrap32 (a0 - 65536)) 1024))), true)))) = some (r1, r2, r3) := h
  clear h
  by_cases c2 : a0 < 65536
  · rw [if_pos c2] at H
    have c2b0 : decide (a0 < 65536) = true := decide_eq_true c2
    clear c2
    simp only [Option.some.injEq, Prod.mk.injEq] at H
    obtain ⟨rfl, rfl, rfl⟩ := H
    go_enter Try.func39, Try.ntmps39
    go_wp2
    go_ret3
    exact ⟨by first | rfl | (simp; done) | (simp [*]; done), by repeat (first | exact Drawn0.refl _ | apply Drawn0.step)⟩
  · rw [if_neg c2] at H
    have c2b0 : decide (a0 < 65536) = false := decide_eq_false c2
    clear c2
    by_cases c3 : a0 > 1114111
    · rw [if_pos c3] at H
      have c3b0 : decide (1114111 < a0) = true := decide_eq_true c3
      clear c3
      simp only [Option.some.injEq, Prod.mk.injEq] at H
      obtain ⟨rfl, rfl, rfl⟩ := H
      go_enter Try.func39, Try.ntmps39
      go_wp2
      go_ret3
      exact ⟨by first | rfl | (simp; done) | (simp [*]; done), by repeat (first | exact Drawn0.refl _ | apply Drawn0.step)⟩
    · rw [if_neg c3] at H
      have c3b0 : decide (1114111 < a0) = false := decide_eq_false c3
      clear c3
      simp only [Option.some.injEq, Prod.mk.injEq] at H
      obtain ⟨rfl, rfl, rfl⟩ := H
      go_enter Try.func39, Try.ntmps39
      go_wp2
      go_ret3
      exact ⟨by first | rfl | (simp; done) | (simp [*]; done), by repeat (first | exact Drawn0.refl _ | apply Drawn0.step)⟩

-- NOT PRINTED: function 40 (orthoepylaw00_four)

-- NOT PRINTED: function 21 (orthoepylaw00_Quoted)

-- NOT PRINTED: function 6 (orthoepylaw22_QuoteOdd)

-- NOT PRINTED: function 7 (orthoepylaw22_QuoteJoins)

-- NOT PRINTED: function 8 (orthoepylaw22_QuoteScalars)

-- NOT PRINTED: function 9 (orthoepylaw22_QuoteApart)

end Go.Proofs.Ytkpeblpgfngjcaa.PAll
