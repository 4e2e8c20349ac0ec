/-
  No cell of these rows narrows 'for every input' (looked for: loops, veiled, ifaces, maps, wideKeys, modest, calm, conditions, laid).
  DERIVED. THE GIVEN ROWS OF THIS SEAT. 4 by the template 'for every input the law returns true; each argument reads behind the call as it read before'; 0 by the template 'total and deterministic' (their statements: YtmkpaoakobabnaaTotals.lean).
  GIVEN WITH THE SEED: the statements are not yours to turn. If you find one false, say at which input.
  Laid BY PROGRAM, IN A SANDBOX (cutbox-rows.mjs): the forced cells as the released guide's own fill.sh prints them over the translation 5db623d82b4d33f1… (all of the seat's roots in one cut). By AI agents, Wed Nov 11 2026. No macro, syntax, notation, axiom, sorry.
-/
import Derived.Test.YtmkpaoakobabnaaChecked
import GoSem.Claim
import GoSem.ClaimJoined
import GoSem.ClaimMapViews
import Derived.JoinedTies
import Derived.KernelRfl
namespace Go.Proofs.Ytmkpaoakobabnaa
/- THE CELL 'sum', in the pinned program and in every row, IS THE sha256 OF THE DUMP (.gsa) THAT YtmkpaoakobabnaaProg.lean LOADS. Nothing in Lean hashes anything: it is a label: what it is worth is what the hold of that sum in a sandbox is worth. -/
noncomputable def Try.pinned : Pinned := { name := "ytmkpaoakobabnaa", sum := "5db623d82b4d33f1915964930c88a8cc69c0e223462370ebc6e5e67291fc9aea", checked := Try.checked }
namespace Rows
def none {H : Type} : Left H := { results := [], args := [] }

/-- 'orthoepylaw01.ScalarAll': WHATEVER THE INPUT: true; the input reads as it did. -/
def scalarAllSpec : ChangeSpec := { name := "scalarAll", fn := fun _ => fun
  | [d1, d2, d3] => { results := [.lit (.bool true)], args := [d1, d2, d3] }
  | _ => none }
def scalarAllRow : OpenClaim := { program := "ytmkpaoakobabnaa", sum := "5db623d82b4d33f1915964930c88a8cc69c0e223462370ebc6e5e67291fc9aea", func := "orthoepy/orthoepylaw01.ScalarAll", spec := "scalarAll", apart := false }
def ScalarAllSaid : Prop := scalarAllRow.holds Try.pinned (OpenSpec.ofChange scalarAllSpec)

/-- ITS FALSE NEIGHBOUR: 'it returns false'. Refute it at one input. -/
def scalarAllWrong : ChangeSpec := { name := "scalarAll", fn := fun _ => fun
  | [d1, d2, d3] => { results := [.lit (.bool false)], args := [d1, d2, d3] }
  | _ => none }
def ScalarAllWrongFalsely : Prop := scalarAllRow.holds Try.pinned (OpenSpec.ofChange scalarAllWrong)

/-- 'orthoepylaw01.ScalarBack': WHATEVER THE INPUT: true; the input reads as it did. -/
def scalarBackSpec : ChangeSpec := { name := "scalarBack", fn := fun _ => fun
  | [d1, d2, d3] => { results := [.lit (.bool true)], args := [d1, d2, d3] }
  | _ => none }
def scalarBackRow : OpenClaim := { program := "ytmkpaoakobabnaa", sum := "5db623d82b4d33f1915964930c88a8cc69c0e223462370ebc6e5e67291fc9aea", func := "orthoepy/orthoepylaw01.ScalarBack", spec := "scalarBack", apart := false }
def ScalarBackSaid : Prop := scalarBackRow.holds Try.pinned (OpenSpec.ofChange scalarBackSpec)

/-- ITS FALSE NEIGHBOUR: 'it returns false'. Refute it at one input. -/
def scalarBackWrong : ChangeSpec := { name := "scalarBack", fn := fun _ => fun
  | [d1, d2, d3] => { results := [.lit (.bool false)], args := [d1, d2, d3] }
  | _ => none }
def ScalarBackWrongFalsely : Prop := scalarBackRow.holds Try.pinned (OpenSpec.ofChange scalarBackWrong)

/-- 'orthoepylaw01.ScalarOrder': WHATEVER THE INPUT: true; the input reads as it did. -/
def scalarOrderSpec : ChangeSpec := { name := "scalarOrder", fn := fun _ => fun
  | [d1, d2] => { results := [.lit (.bool true)], args := [d1, d2] }
  | _ => none }
def scalarOrderRow : OpenClaim := { program := "ytmkpaoakobabnaa", sum := "5db623d82b4d33f1915964930c88a8cc69c0e223462370ebc6e5e67291fc9aea", func := "orthoepy/orthoepylaw01.ScalarOrder", spec := "scalarOrder", apart := false }
def ScalarOrderSaid : Prop := scalarOrderRow.holds Try.pinned (OpenSpec.ofChange scalarOrderSpec)

/-- ITS FALSE NEIGHBOUR: 'it returns false'. Refute it at one input. -/
def scalarOrderWrong : ChangeSpec := { name := "scalarOrder", fn := fun _ => fun
  | [d1, d2] => { results := [.lit (.bool false)], args := [d1, d2] }
  | _ => none }
def ScalarOrderWrongFalsely : Prop := scalarOrderRow.holds Try.pinned (OpenSpec.ofChange scalarOrderWrong)

/-- 'orthoepylaw01.ScalarNonchars': WHATEVER THE INPUT: true; the input reads as it did. -/
def scalarNoncharsSpec : ChangeSpec := { name := "scalarNonchars", fn := fun _ => fun
  | [d] => { results := [.lit (.bool true)], args := [d] }
  | _ => none }
def scalarNoncharsRow : OpenClaim := { program := "ytmkpaoakobabnaa", sum := "5db623d82b4d33f1915964930c88a8cc69c0e223462370ebc6e5e67291fc9aea", func := "orthoepy/orthoepylaw01.ScalarNonchars", spec := "scalarNonchars", apart := false }
def ScalarNoncharsSaid : Prop := scalarNoncharsRow.holds Try.pinned (OpenSpec.ofChange scalarNoncharsSpec)

/-- ITS FALSE NEIGHBOUR: 'it returns false'. Refute it at one input. -/
def scalarNoncharsWrong : ChangeSpec := { name := "scalarNonchars", fn := fun _ => fun
  | [d] => { results := [.lit (.bool false)], args := [d] }
  | _ => none }
def ScalarNoncharsWrongFalsely : Prop := scalarNoncharsRow.holds Try.pinned (OpenSpec.ofChange scalarNoncharsWrong)

/- THE SECOND FORM. 'bulk': how many values and letters a reading holds, each counted each time it is reached (what is shared counts as often as it is met; a slice's spare places count too). A statement '..UptoSaid' is the law's where the arguments, and the package variables that the reading takes, are together of bulk at most 1048576: NARROWER than '..Said'. Prove '..Said' where nothing that the law and all that it calls make is longer than what came in: it says more and counts as full. Else prove '..UptoSaid'. A law counts once. -/
mutual
def uptoBulk {H : Type} : DataW H → Nat
  | .lit (.string bytes) => bytes.length + 1
  | .lit _ => 1
  | .nil => 1
  | .ptr d => uptoBulk d + 1
  | .slice elems spare => uptoBulkAll elems + uptoBulkAll spare + 1
  | .agg parts => uptoBulkAll parts + 1
  | .iface _ d => uptoBulk d + 1
  | .map entries => uptoBulkEntries entries + 1
  | .held _ => 1
def uptoBulkAll {H : Type} : List (DataW H) → Nat
  | [] => 0
  | d :: r => uptoBulk d + uptoBulkAll r
def uptoBulkEntries {H : Type} : List (Lit × DataW H) → Nat
  | [] => 0
  | x :: r => uptoBulkEntry x + uptoBulkEntries r
def uptoBulkEntry {H : Type} : Lit × DataW H → Nat
  | (.string bytes, d) => bytes.length + uptoBulk d + 1
  | (_, d) => uptoBulk d + 1
 end
def uptoSmall : (H : Type) → List (DataW H) → Bool := fun _ ds => decide (uptoBulkAll ds ≤ 1048576)
def OpenSpec.upto (s : _root_.Go.ChangeSpec) : _root_.Go.OpenSpec := { _root_.Go.OpenSpec.ofChange s with cond := some uptoSmall }

/-- 'orthoepylaw01.ScalarAll', WHERE WHAT IT READS IS OF BULK AT MOST 1048576: true; the input reads as it did. -/
def scalarAllUptoRow : OpenClaim := { program := "ytmkpaoakobabnaa", sum := "5db623d82b4d33f1915964930c88a8cc69c0e223462370ebc6e5e67291fc9aea", func := "orthoepy/orthoepylaw01.ScalarAll", spec := "scalarAll", apart := false, narrowed := true }
def ScalarAllUptoSaid : Prop := scalarAllUptoRow.holds Try.pinned (OpenSpec.upto scalarAllSpec)

/-- 'orthoepylaw01.ScalarBack', WHERE WHAT IT READS IS OF BULK AT MOST 1048576: true; the input reads as it did. -/
def scalarBackUptoRow : OpenClaim := { program := "ytmkpaoakobabnaa", sum := "5db623d82b4d33f1915964930c88a8cc69c0e223462370ebc6e5e67291fc9aea", func := "orthoepy/orthoepylaw01.ScalarBack", spec := "scalarBack", apart := false, narrowed := true }
def ScalarBackUptoSaid : Prop := scalarBackUptoRow.holds Try.pinned (OpenSpec.upto scalarBackSpec)

/-- 'orthoepylaw01.ScalarOrder', WHERE WHAT IT READS IS OF BULK AT MOST 1048576: true; the input reads as it did. -/
def scalarOrderUptoRow : OpenClaim := { program := "ytmkpaoakobabnaa", sum := "5db623d82b4d33f1915964930c88a8cc69c0e223462370ebc6e5e67291fc9aea", func := "orthoepy/orthoepylaw01.ScalarOrder", spec := "scalarOrder", apart := false, narrowed := true }
def ScalarOrderUptoSaid : Prop := scalarOrderUptoRow.holds Try.pinned (OpenSpec.upto scalarOrderSpec)

/-- 'orthoepylaw01.ScalarNonchars', WHERE WHAT IT READS IS OF BULK AT MOST 1048576: true; the input reads as it did. -/
def scalarNoncharsUptoRow : OpenClaim := { program := "ytmkpaoakobabnaa", sum := "5db623d82b4d33f1915964930c88a8cc69c0e223462370ebc6e5e67291fc9aea", func := "orthoepy/orthoepylaw01.ScalarNonchars", spec := "scalarNonchars", apart := false, narrowed := true }
def ScalarNoncharsUptoSaid : Prop := scalarNoncharsUptoRow.holds Try.pinned (OpenSpec.upto scalarNoncharsSpec)

end Rows
end Go.Proofs.Ytmkpaoakobabnaa
