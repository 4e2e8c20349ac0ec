/-
  No cell of these rows narrows 'for every input' (looked for: loops, veiled, ifaces, maps, wideKeys, modest, calm, conditions, laid).
  DERIVED. THE GIVEN ROWS OF THIS SEAT. 7 by the template 'for every input the law returns true; each argument reads behind the call as it read before'; 0 by the template 'total and deterministic' (their statements: YtajinnlaajhoeaaTotals.lean).
  GIVEN WITH THE SEED: the statements are not yours to turn. If you find one false, say at which input.
  Laid BY PROGRAM, IN A SANDBOX (cutbox-rows.mjs): the forced cells as the released guide's own fill.sh prints them over the translation eea05ea2c830d889… (all of the seat's roots in one cut). By AI agents, Wed Nov 11 2026. No macro, syntax, notation, axiom, sorry.
-/
import Derived.Test.YtajinnlaajhoeaaChecked
import GoSem.Claim
import GoSem.ClaimJoined
import GoSem.ClaimMapViews
import Derived.JoinedTies
import Derived.KernelRfl
namespace Go.Proofs.Ytajinnlaajhoeaa
/- THE CELL 'sum', in the pinned program and in every row, IS THE sha256 OF THE DUMP (.gsa) THAT YtajinnlaajhoeaaProg.lean LOADS. Nothing in Lean hashes anything: it is a label: what it is worth is what the hold of that sum in a sandbox is worth. -/
noncomputable def Try.pinned : Pinned := { name := "ytajinnlaajhoeaa", sum := "eea05ea2c830d889c8dd2c643f71492a5f2a0251b6cb21f8c8e6a0dc73c4377c", checked := Try.checked }
namespace Rows
def none {H : Type} : Left H := { results := [], args := [] }

/-- 'orthoepylaw21.OrderAll': WHATEVER THE INPUT: true; the input reads as it did. -/
def orderAllSpec : ChangeSpec := { name := "orderAll", fn := fun _ => fun
  | [d1, d2, d3] => { results := [.lit (.bool true)], args := [d1, d2, d3] }
  | _ => none }
def orderAllRow : OpenClaim := { program := "ytajinnlaajhoeaa", sum := "eea05ea2c830d889c8dd2c643f71492a5f2a0251b6cb21f8c8e6a0dc73c4377c", func := "orthoepy/orthoepylaw21.OrderAll", spec := "orderAll", unfollowed := true, recurses := true, apart := false }
def OrderAllSaid : Prop := orderAllRow.holds Try.pinned (OpenSpec.ofChange orderAllSpec)

/-- ITS FALSE NEIGHBOUR: 'it returns false'. Refute it at one input. -/
def orderAllWrong : ChangeSpec := { name := "orderAll", fn := fun _ => fun
  | [d1, d2, d3] => { results := [.lit (.bool false)], args := [d1, d2, d3] }
  | _ => none }
def OrderAllWrongFalsely : Prop := orderAllRow.holds Try.pinned (OpenSpec.ofChange orderAllWrong)

/-- 'orthoepylaw21.OrderRow': WHATEVER THE INPUT: true; the input reads as it did. -/
def orderRowSpec : ChangeSpec := { name := "orderRow", fn := fun _ => fun
  | [d] => { results := [.lit (.bool true)], args := [d] }
  | _ => none }
def orderRowRow : OpenClaim := { program := "ytajinnlaajhoeaa", sum := "eea05ea2c830d889c8dd2c643f71492a5f2a0251b6cb21f8c8e6a0dc73c4377c", func := "orthoepy/orthoepylaw21.OrderRow", spec := "orderRow", unfollowed := true, recurses := true, apart := false }
def OrderRowSaid : Prop := orderRowRow.holds Try.pinned (OpenSpec.ofChange orderRowSpec)

/-- ITS FALSE NEIGHBOUR: 'it returns false'. Refute it at one input. -/
def orderRowWrong : ChangeSpec := { name := "orderRow", fn := fun _ => fun
  | [d] => { results := [.lit (.bool false)], args := [d] }
  | _ => none }
def OrderRowWrongFalsely : Prop := orderRowRow.holds Try.pinned (OpenSpec.ofChange orderRowWrong)

/-- 'orthoepylaw21.OrderMerge': WHATEVER THE INPUT: true; the input reads as it did. -/
def orderMergeSpec : ChangeSpec := { name := "orderMerge", fn := fun _ => fun
  | [d1, d2] => { results := [.lit (.bool true)], args := [d1, d2] }
  | _ => none }
def orderMergeRow : OpenClaim := { program := "ytajinnlaajhoeaa", sum := "eea05ea2c830d889c8dd2c643f71492a5f2a0251b6cb21f8c8e6a0dc73c4377c", func := "orthoepy/orthoepylaw21.OrderMerge", spec := "orderMerge", unfollowed := true, recurses := true, apart := false }
def OrderMergeSaid : Prop := orderMergeRow.holds Try.pinned (OpenSpec.ofChange orderMergeSpec)

/-- ITS FALSE NEIGHBOUR: 'it returns false'. Refute it at one input. -/
def orderMergeWrong : ChangeSpec := { name := "orderMerge", fn := fun _ => fun
  | [d1, d2] => { results := [.lit (.bool false)], args := [d1, d2] }
  | _ => none }
def OrderMergeWrongFalsely : Prop := orderMergeRow.holds Try.pinned (OpenSpec.ofChange orderMergeWrong)

/-- 'orthoepylaw21.OrderMerges': WHATEVER THE INPUT: true; the input reads as it did. -/
def orderMergesSpec : ChangeSpec := { name := "orderMerges", fn := fun _ => fun
  | [d1, d2, d3] => { results := [.lit (.bool true)], args := [d1, d2, d3] }
  | _ => none }
def orderMergesRow : OpenClaim := { program := "ytajinnlaajhoeaa", sum := "eea05ea2c830d889c8dd2c643f71492a5f2a0251b6cb21f8c8e6a0dc73c4377c", func := "orthoepy/orthoepylaw21.OrderMerges", spec := "orderMerges", unfollowed := true, recurses := true, apart := false }
def OrderMergesSaid : Prop := orderMergesRow.holds Try.pinned (OpenSpec.ofChange orderMergesSpec)

/-- ITS FALSE NEIGHBOUR: 'it returns false'. Refute it at one input. -/
def orderMergesWrong : ChangeSpec := { name := "orderMerges", fn := fun _ => fun
  | [d1, d2, d3] => { results := [.lit (.bool false)], args := [d1, d2, d3] }
  | _ => none }
def OrderMergesWrongFalsely : Prop := orderMergesRow.holds Try.pinned (OpenSpec.ofChange orderMergesWrong)

/-- 'orthoepylaw21.OrderTurned': WHATEVER THE INPUT: true; the input reads as it did. -/
def orderTurnedSpec : ChangeSpec := { name := "orderTurned", fn := fun _ => fun
  | [d1, d2] => { results := [.lit (.bool true)], args := [d1, d2] }
  | _ => none }
def orderTurnedRow : OpenClaim := { program := "ytajinnlaajhoeaa", sum := "eea05ea2c830d889c8dd2c643f71492a5f2a0251b6cb21f8c8e6a0dc73c4377c", func := "orthoepy/orthoepylaw21.OrderTurned", spec := "orderTurned", unfollowed := true, recurses := true, apart := false }
def OrderTurnedSaid : Prop := orderTurnedRow.holds Try.pinned (OpenSpec.ofChange orderTurnedSpec)

/-- ITS FALSE NEIGHBOUR: 'it returns false'. Refute it at one input. -/
def orderTurnedWrong : ChangeSpec := { name := "orderTurned", fn := fun _ => fun
  | [d1, d2] => { results := [.lit (.bool false)], args := [d1, d2] }
  | _ => none }
def OrderTurnedWrongFalsely : Prop := orderTurnedRow.holds Try.pinned (OpenSpec.ofChange orderTurnedWrong)

/-- 'orthoepylaw21.OrderThree': WHATEVER THE INPUT: true; the input reads as it did. -/
def orderThreeSpec : ChangeSpec := { name := "orderThree", fn := fun _ => fun
  | [d1, d2, d3] => { results := [.lit (.bool true)], args := [d1, d2, d3] }
  | _ => none }
def orderThreeRow : OpenClaim := { program := "ytajinnlaajhoeaa", sum := "eea05ea2c830d889c8dd2c643f71492a5f2a0251b6cb21f8c8e6a0dc73c4377c", func := "orthoepy/orthoepylaw21.OrderThree", spec := "orderThree", unfollowed := true, recurses := true, apart := false }
def OrderThreeSaid : Prop := orderThreeRow.holds Try.pinned (OpenSpec.ofChange orderThreeSpec)

/-- ITS FALSE NEIGHBOUR: 'it returns false'. Refute it at one input. -/
def orderThreeWrong : ChangeSpec := { name := "orderThree", fn := fun _ => fun
  | [d1, d2, d3] => { results := [.lit (.bool false)], args := [d1, d2, d3] }
  | _ => none }
def OrderThreeWrongFalsely : Prop := orderThreeRow.holds Try.pinned (OpenSpec.ofChange orderThreeWrong)

/-- 'orthoepylaw21.OrderScalars': WHATEVER THE INPUT: true; the input reads as it did. -/
def orderScalarsSpec : ChangeSpec := { name := "orderScalars", fn := fun _ => fun
  | [d1, d2, d3] => { results := [.lit (.bool true)], args := [d1, d2, d3] }
  | _ => none }
def orderScalarsRow : OpenClaim := { program := "ytajinnlaajhoeaa", sum := "eea05ea2c830d889c8dd2c643f71492a5f2a0251b6cb21f8c8e6a0dc73c4377c", func := "orthoepy/orthoepylaw21.OrderScalars", spec := "orderScalars", unfollowed := true, recurses := true, apart := false }
def OrderScalarsSaid : Prop := orderScalarsRow.holds Try.pinned (OpenSpec.ofChange orderScalarsSpec)

/-- ITS FALSE NEIGHBOUR: 'it returns false'. Refute it at one input. -/
def orderScalarsWrong : ChangeSpec := { name := "orderScalars", fn := fun _ => fun
  | [d1, d2, d3] => { results := [.lit (.bool false)], args := [d1, d2, d3] }
  | _ => none }
def OrderScalarsWrongFalsely : Prop := orderScalarsRow.holds Try.pinned (OpenSpec.ofChange orderScalarsWrong)

/- THE SECOND FORM. 'bulk': how many values and letters a reading holds, each counted each time it is reached (what is shared counts as often as it is met; a slice's spare places count too). A statement '..UptoSaid' is the law's where the arguments, and the package variables that the reading takes, are together of bulk at most 1048576: NARROWER than '..Said'. Prove '..Said' where nothing that the law and all that it calls make is longer than what came in: it says more and counts as full. Else prove '..UptoSaid'. A law counts once. -/
mutual
def uptoBulk {H : Type} : DataW H → Nat
  | .lit (.string bytes) => bytes.length + 1
  | .lit _ => 1
  | .nil => 1
  | .ptr d => uptoBulk d + 1
  | .slice elems spare => uptoBulkAll elems + uptoBulkAll spare + 1
  | .agg parts => uptoBulkAll parts + 1
  | .iface _ d => uptoBulk d + 1
  | .map entries => uptoBulkEntries entries + 1
  | .held _ => 1
def uptoBulkAll {H : Type} : List (DataW H) → Nat
  | [] => 0
  | d :: r => uptoBulk d + uptoBulkAll r
def uptoBulkEntries {H : Type} : List (Lit × DataW H) → Nat
  | [] => 0
  | x :: r => uptoBulkEntry x + uptoBulkEntries r
def uptoBulkEntry {H : Type} : Lit × DataW H → Nat
  | (.string bytes, d) => bytes.length + uptoBulk d + 1
  | (_, d) => uptoBulk d + 1
 end
def uptoSmall : (H : Type) → List (DataW H) → Bool := fun _ ds => decide (uptoBulkAll ds ≤ 1048576)
def OpenSpec.upto (s : _root_.Go.ChangeSpec) : _root_.Go.OpenSpec := { _root_.Go.OpenSpec.ofChange s with cond := some uptoSmall }

/-- 'orthoepylaw21.OrderAll', WHERE WHAT IT READS IS OF BULK AT MOST 1048576: true; the input reads as it did. -/
def orderAllUptoRow : OpenClaim := { program := "ytajinnlaajhoeaa", sum := "eea05ea2c830d889c8dd2c643f71492a5f2a0251b6cb21f8c8e6a0dc73c4377c", func := "orthoepy/orthoepylaw21.OrderAll", spec := "orderAll", unfollowed := true, recurses := true, apart := false, narrowed := true }
def OrderAllUptoSaid : Prop := orderAllUptoRow.holds Try.pinned (OpenSpec.upto orderAllSpec)

/-- 'orthoepylaw21.OrderRow', WHERE WHAT IT READS IS OF BULK AT MOST 1048576: true; the input reads as it did. -/
def orderRowUptoRow : OpenClaim := { program := "ytajinnlaajhoeaa", sum := "eea05ea2c830d889c8dd2c643f71492a5f2a0251b6cb21f8c8e6a0dc73c4377c", func := "orthoepy/orthoepylaw21.OrderRow", spec := "orderRow", unfollowed := true, recurses := true, apart := false, narrowed := true }
def OrderRowUptoSaid : Prop := orderRowUptoRow.holds Try.pinned (OpenSpec.upto orderRowSpec)

/-- 'orthoepylaw21.OrderMerge', WHERE WHAT IT READS IS OF BULK AT MOST 1048576: true; the input reads as it did. -/
def orderMergeUptoRow : OpenClaim := { program := "ytajinnlaajhoeaa", sum := "eea05ea2c830d889c8dd2c643f71492a5f2a0251b6cb21f8c8e6a0dc73c4377c", func := "orthoepy/orthoepylaw21.OrderMerge", spec := "orderMerge", unfollowed := true, recurses := true, apart := false, narrowed := true }
def OrderMergeUptoSaid : Prop := orderMergeUptoRow.holds Try.pinned (OpenSpec.upto orderMergeSpec)

/-- 'orthoepylaw21.OrderMerges', WHERE WHAT IT READS IS OF BULK AT MOST 1048576: true; the input reads as it did. -/
def orderMergesUptoRow : OpenClaim := { program := "ytajinnlaajhoeaa", sum := "eea05ea2c830d889c8dd2c643f71492a5f2a0251b6cb21f8c8e6a0dc73c4377c", func := "orthoepy/orthoepylaw21.OrderMerges", spec := "orderMerges", unfollowed := true, recurses := true, apart := false, narrowed := true }
def OrderMergesUptoSaid : Prop := orderMergesUptoRow.holds Try.pinned (OpenSpec.upto orderMergesSpec)

/-- 'orthoepylaw21.OrderTurned', WHERE WHAT IT READS IS OF BULK AT MOST 1048576: true; the input reads as it did. -/
def orderTurnedUptoRow : OpenClaim := { program := "ytajinnlaajhoeaa", sum := "eea05ea2c830d889c8dd2c643f71492a5f2a0251b6cb21f8c8e6a0dc73c4377c", func := "orthoepy/orthoepylaw21.OrderTurned", spec := "orderTurned", unfollowed := true, recurses := true, apart := false, narrowed := true }
def OrderTurnedUptoSaid : Prop := orderTurnedUptoRow.holds Try.pinned (OpenSpec.upto orderTurnedSpec)

/-- 'orthoepylaw21.OrderThree', WHERE WHAT IT READS IS OF BULK AT MOST 1048576: true; the input reads as it did. -/
def orderThreeUptoRow : OpenClaim := { program := "ytajinnlaajhoeaa", sum := "eea05ea2c830d889c8dd2c643f71492a5f2a0251b6cb21f8c8e6a0dc73c4377c", func := "orthoepy/orthoepylaw21.OrderThree", spec := "orderThree", unfollowed := true, recurses := true, apart := false, narrowed := true }
def OrderThreeUptoSaid : Prop := orderThreeUptoRow.holds Try.pinned (OpenSpec.upto orderThreeSpec)

/-- 'orthoepylaw21.OrderScalars', WHERE WHAT IT READS IS OF BULK AT MOST 1048576: true; the input reads as it did. -/
def orderScalarsUptoRow : OpenClaim := { program := "ytajinnlaajhoeaa", sum := "eea05ea2c830d889c8dd2c643f71492a5f2a0251b6cb21f8c8e6a0dc73c4377c", func := "orthoepy/orthoepylaw21.OrderScalars", spec := "orderScalars", unfollowed := true, recurses := true, apart := false, narrowed := true }
def OrderScalarsUptoSaid : Prop := orderScalarsUptoRow.holds Try.pinned (OpenSpec.upto orderScalarsSpec)

end Rows
end Go.Proofs.Ytajinnlaajhoeaa
