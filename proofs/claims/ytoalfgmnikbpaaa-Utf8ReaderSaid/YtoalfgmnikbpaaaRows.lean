/-
  No cell of these rows narrows 'for every input' (looked for: loops, veiled, ifaces, maps, wideKeys, modest, calm, conditions, laid).
  DERIVED. THE GIVEN ROWS OF THIS SEAT. 5 by the template 'for every input the law returns true; each argument reads behind the call as it read before'; 0 by the template 'total and deterministic' (their statements: YtoalfgmnikbpaaaTotals.lean).
  GIVEN WITH THE SEED: the statements are not yours to turn. If you find one false, say at which input.
  Laid BY PROGRAM, IN A SANDBOX (cutbox-rows.mjs): the forced cells as the released guide's own fill.sh prints them over the translation 45a724856f3a59b2… (all of the seat's roots in one cut). By AI agents, Wed Nov 11 2026. No macro, syntax, notation, axiom, sorry.
-/
import Derived.Test.YtoalfgmnikbpaaaChecked
import GoSem.Claim
import GoSem.ClaimJoined
import GoSem.ClaimMapViews
import Derived.JoinedTies
import Derived.KernelRfl
namespace Go.Proofs.Ytoalfgmnikbpaaa
/- THE CELL 'sum', in the pinned program and in every row, IS THE sha256 OF THE DUMP (.gsa) THAT YtoalfgmnikbpaaaProg.lean LOADS. Nothing in Lean hashes anything: it is a label: what it is worth is what the hold of that sum in a sandbox is worth. -/
noncomputable def Try.pinned : Pinned := { name := "ytoalfgmnikbpaaa", sum := "45a724856f3a59b2d20a46f6513c8ffdca1a26f0a4fc2a7e63557255212ca4d8", checked := Try.checked }
namespace Rows
def none {H : Type} : Left H := { results := [], args := [] }

/-- 'orthoepylaw02.Utf8All': WHATEVER THE INPUT: true; the input reads as it did. -/
def utf8AllSpec : ChangeSpec := { name := "utf8All", fn := fun _ => fun
  | [d1, d2, d3] => { results := [.lit (.bool true)], args := [d1, d2, d3] }
  | _ => none }
def utf8AllRow : OpenClaim := { program := "ytoalfgmnikbpaaa", sum := "45a724856f3a59b2d20a46f6513c8ffdca1a26f0a4fc2a7e63557255212ca4d8", func := "orthoepy/orthoepylaw02.Utf8All", spec := "utf8All", apart := false }
def Utf8AllSaid : Prop := utf8AllRow.holds Try.pinned (OpenSpec.ofChange utf8AllSpec)

/-- ITS FALSE NEIGHBOUR: 'it returns false'. Refute it at one input. -/
def utf8AllWrong : ChangeSpec := { name := "utf8All", fn := fun _ => fun
  | [d1, d2, d3] => { results := [.lit (.bool false)], args := [d1, d2, d3] }
  | _ => none }
def Utf8AllWrongFalsely : Prop := utf8AllRow.holds Try.pinned (OpenSpec.ofChange utf8AllWrong)

/-- 'orthoepylaw02.Utf8Back': WHATEVER THE INPUT: true; the input reads as it did. -/
def utf8BackSpec : ChangeSpec := { name := "utf8Back", fn := fun _ => fun
  | [d] => { results := [.lit (.bool true)], args := [d] }
  | _ => none }
def utf8BackRow : OpenClaim := { program := "ytoalfgmnikbpaaa", sum := "45a724856f3a59b2d20a46f6513c8ffdca1a26f0a4fc2a7e63557255212ca4d8", func := "orthoepy/orthoepylaw02.Utf8Back", spec := "utf8Back", apart := false }
def Utf8BackSaid : Prop := utf8BackRow.holds Try.pinned (OpenSpec.ofChange utf8BackSpec)

/-- ITS FALSE NEIGHBOUR: 'it returns false'. Refute it at one input. -/
def utf8BackWrong : ChangeSpec := { name := "utf8Back", fn := fun _ => fun
  | [d] => { results := [.lit (.bool false)], args := [d] }
  | _ => none }
def Utf8BackWrongFalsely : Prop := utf8BackRow.holds Try.pinned (OpenSpec.ofChange utf8BackWrong)

/-- 'orthoepylaw02.Utf8Longest': WHATEVER THE INPUT: true; the input reads as it did. -/
def utf8LongestSpec : ChangeSpec := { name := "utf8Longest", fn := fun _ => fun
  | [d1, d2] => { results := [.lit (.bool true)], args := [d1, d2] }
  | _ => none }
def utf8LongestRow : OpenClaim := { program := "ytoalfgmnikbpaaa", sum := "45a724856f3a59b2d20a46f6513c8ffdca1a26f0a4fc2a7e63557255212ca4d8", func := "orthoepy/orthoepylaw02.Utf8Longest", spec := "utf8Longest", apart := false }
def Utf8LongestSaid : Prop := utf8LongestRow.holds Try.pinned (OpenSpec.ofChange utf8LongestSpec)

/-- ITS FALSE NEIGHBOUR: 'it returns false'. Refute it at one input. -/
def utf8LongestWrong : ChangeSpec := { name := "utf8Longest", fn := fun _ => fun
  | [d1, d2] => { results := [.lit (.bool false)], args := [d1, d2] }
  | _ => none }
def Utf8LongestWrongFalsely : Prop := utf8LongestRow.holds Try.pinned (OpenSpec.ofChange utf8LongestWrong)

/-- 'orthoepylaw02.Utf8Reader': WHATEVER THE INPUT: true; the input reads as it did. -/
def utf8ReaderSpec : ChangeSpec := { name := "utf8Reader", fn := fun _ => fun
  | [d] => { results := [.lit (.bool true)], args := [d] }
  | _ => none }
def utf8ReaderRow : OpenClaim := { program := "ytoalfgmnikbpaaa", sum := "45a724856f3a59b2d20a46f6513c8ffdca1a26f0a4fc2a7e63557255212ca4d8", func := "orthoepy/orthoepylaw02.Utf8Reader", spec := "utf8Reader", apart := false }
def Utf8ReaderSaid : Prop := utf8ReaderRow.holds Try.pinned (OpenSpec.ofChange utf8ReaderSpec)

/-- ITS FALSE NEIGHBOUR: 'it returns false'. Refute it at one input. -/
def utf8ReaderWrong : ChangeSpec := { name := "utf8Reader", fn := fun _ => fun
  | [d] => { results := [.lit (.bool false)], args := [d] }
  | _ => none }
def Utf8ReaderWrongFalsely : Prop := utf8ReaderRow.holds Try.pinned (OpenSpec.ofChange utf8ReaderWrong)

/-- 'orthoepylaw02.Utf8Turned': WHATEVER THE INPUT: true; the input reads as it did. -/
def utf8TurnedSpec : ChangeSpec := { name := "utf8Turned", fn := fun _ => fun
  | [d1, d2, d3] => { results := [.lit (.bool true)], args := [d1, d2, d3] }
  | _ => none }
def utf8TurnedRow : OpenClaim := { program := "ytoalfgmnikbpaaa", sum := "45a724856f3a59b2d20a46f6513c8ffdca1a26f0a4fc2a7e63557255212ca4d8", func := "orthoepy/orthoepylaw02.Utf8Turned", spec := "utf8Turned", apart := false }
def Utf8TurnedSaid : Prop := utf8TurnedRow.holds Try.pinned (OpenSpec.ofChange utf8TurnedSpec)

/-- ITS FALSE NEIGHBOUR: 'it returns false'. Refute it at one input. -/
def utf8TurnedWrong : ChangeSpec := { name := "utf8Turned", fn := fun _ => fun
  | [d1, d2, d3] => { results := [.lit (.bool false)], args := [d1, d2, d3] }
  | _ => none }
def Utf8TurnedWrongFalsely : Prop := utf8TurnedRow.holds Try.pinned (OpenSpec.ofChange utf8TurnedWrong)

/- THE SECOND FORM. 'bulk': how many values and letters a reading holds, each counted each time it is reached (what is shared counts as often as it is met; a slice's spare places count too). A statement '..UptoSaid' is the law's where the arguments, and the package variables that the reading takes, are together of bulk at most 1048576: NARROWER than '..Said'. Prove '..Said' where nothing that the law and all that it calls make is longer than what came in: it says more and counts as full. Else prove '..UptoSaid'. A law counts once. -/
mutual
def uptoBulk {H : Type} : DataW H → Nat
  | .lit (.string bytes) => bytes.length + 1
  | .lit _ => 1
  | .nil => 1
  | .ptr d => uptoBulk d + 1
  | .slice elems spare => uptoBulkAll elems + uptoBulkAll spare + 1
  | .agg parts => uptoBulkAll parts + 1
  | .iface _ d => uptoBulk d + 1
  | .map entries => uptoBulkEntries entries + 1
  | .held _ => 1
def uptoBulkAll {H : Type} : List (DataW H) → Nat
  | [] => 0
  | d :: r => uptoBulk d + uptoBulkAll r
def uptoBulkEntries {H : Type} : List (Lit × DataW H) → Nat
  | [] => 0
  | x :: r => uptoBulkEntry x + uptoBulkEntries r
def uptoBulkEntry {H : Type} : Lit × DataW H → Nat
  | (.string bytes, d) => bytes.length + uptoBulk d + 1
  | (_, d) => uptoBulk d + 1
 end
def uptoSmall : (H : Type) → List (DataW H) → Bool := fun _ ds => decide (uptoBulkAll ds ≤ 1048576)
def OpenSpec.upto (s : _root_.Go.ChangeSpec) : _root_.Go.OpenSpec := { _root_.Go.OpenSpec.ofChange s with cond := some uptoSmall }

/-- 'orthoepylaw02.Utf8All', WHERE WHAT IT READS IS OF BULK AT MOST 1048576: true; the input reads as it did. -/
def utf8AllUptoRow : OpenClaim := { program := "ytoalfgmnikbpaaa", sum := "45a724856f3a59b2d20a46f6513c8ffdca1a26f0a4fc2a7e63557255212ca4d8", func := "orthoepy/orthoepylaw02.Utf8All", spec := "utf8All", apart := false, narrowed := true }
def Utf8AllUptoSaid : Prop := utf8AllUptoRow.holds Try.pinned (OpenSpec.upto utf8AllSpec)

/-- 'orthoepylaw02.Utf8Back', WHERE WHAT IT READS IS OF BULK AT MOST 1048576: true; the input reads as it did. -/
def utf8BackUptoRow : OpenClaim := { program := "ytoalfgmnikbpaaa", sum := "45a724856f3a59b2d20a46f6513c8ffdca1a26f0a4fc2a7e63557255212ca4d8", func := "orthoepy/orthoepylaw02.Utf8Back", spec := "utf8Back", apart := false, narrowed := true }
def Utf8BackUptoSaid : Prop := utf8BackUptoRow.holds Try.pinned (OpenSpec.upto utf8BackSpec)

/-- 'orthoepylaw02.Utf8Longest', WHERE WHAT IT READS IS OF BULK AT MOST 1048576: true; the input reads as it did. -/
def utf8LongestUptoRow : OpenClaim := { program := "ytoalfgmnikbpaaa", sum := "45a724856f3a59b2d20a46f6513c8ffdca1a26f0a4fc2a7e63557255212ca4d8", func := "orthoepy/orthoepylaw02.Utf8Longest", spec := "utf8Longest", apart := false, narrowed := true }
def Utf8LongestUptoSaid : Prop := utf8LongestUptoRow.holds Try.pinned (OpenSpec.upto utf8LongestSpec)

/-- 'orthoepylaw02.Utf8Reader', WHERE WHAT IT READS IS OF BULK AT MOST 1048576: true; the input reads as it did. -/
def utf8ReaderUptoRow : OpenClaim := { program := "ytoalfgmnikbpaaa", sum := "45a724856f3a59b2d20a46f6513c8ffdca1a26f0a4fc2a7e63557255212ca4d8", func := "orthoepy/orthoepylaw02.Utf8Reader", spec := "utf8Reader", apart := false, narrowed := true }
def Utf8ReaderUptoSaid : Prop := utf8ReaderUptoRow.holds Try.pinned (OpenSpec.upto utf8ReaderSpec)

/-- 'orthoepylaw02.Utf8Turned', WHERE WHAT IT READS IS OF BULK AT MOST 1048576: true; the input reads as it did. -/
def utf8TurnedUptoRow : OpenClaim := { program := "ytoalfgmnikbpaaa", sum := "45a724856f3a59b2d20a46f6513c8ffdca1a26f0a4fc2a7e63557255212ca4d8", func := "orthoepy/orthoepylaw02.Utf8Turned", spec := "utf8Turned", apart := false, narrowed := true }
def Utf8TurnedUptoSaid : Prop := utf8TurnedUptoRow.holds Try.pinned (OpenSpec.upto utf8TurnedSpec)

end Rows
end Go.Proofs.Ytoalfgmnikbpaaa
