/-
  No cell of these rows narrows 'for every input' (looked for: loops, veiled, ifaces, maps, wideKeys, modest, calm, conditions, laid).
  DERIVED. THE GIVEN ROWS OF THIS SEAT. 7 by the template 'for every input the law returns true; each argument reads behind the call as it read before'; 0 by the template 'total and deterministic' (their statements: YtkpeblpgfngjcaaTotals.lean).
  GIVEN WITH THE SEED: the statements are not yours to turn. If you find one false, say at which input.
  Laid BY PROGRAM, IN A SANDBOX (cutbox-rows.mjs): the forced cells as the released guide's own fill.sh prints them over the translation bca227c2c3bd86ac… (all of the seat's roots in one cut). By AI agents, Wed Nov 11 2026. No macro, syntax, notation, axiom, sorry.
-/
import Derived.Test.YtkpeblpgfngjcaaChecked
import GoSem.Claim
import GoSem.ClaimJoined
import GoSem.ClaimMapViews
import Derived.JoinedTies
import Derived.KernelRfl
namespace Go.Proofs.Ytkpeblpgfngjcaa
/- THE CELL 'sum', in the pinned program and in every row, IS THE sha256 OF THE DUMP (.gsa) THAT YtkpeblpgfngjcaaProg.lean LOADS. Nothing in Lean hashes anything: it is a label: what it is worth is what the hold of that sum in a sandbox is worth. -/
noncomputable def Try.pinned : Pinned := { name := "ytkpeblpgfngjcaa", sum := "bca227c2c3bd86ac22e048c3f23468593c3620cf9467c91b11d28588aa54488d", checked := Try.checked }
namespace Rows
def none {H : Type} : Left H := { results := [], args := [] }

/-- 'orthoepylaw22.QuoteAll': WHATEVER THE INPUT: true; the input reads as it did. -/
def quoteAllSpec : ChangeSpec := { name := "quoteAll", fn := fun _ => fun
  | [d1, d2] => { results := [.lit (.bool true)], args := [d1, d2] }
  | _ => none }
def quoteAllRow : OpenClaim := { program := "ytkpeblpgfngjcaa", sum := "bca227c2c3bd86ac22e048c3f23468593c3620cf9467c91b11d28588aa54488d", func := "orthoepy/orthoepylaw22.QuoteAll", spec := "quoteAll", inPlace := ["internal/abi.NoEscape"], unfollowed := true, recurses := true, apart := false }
def QuoteAllSaid : Prop := quoteAllRow.holds Try.pinned (OpenSpec.ofChange quoteAllSpec)

/-- ITS FALSE NEIGHBOUR: 'it returns false'. Refute it at one input. -/
def quoteAllWrong : ChangeSpec := { name := "quoteAll", fn := fun _ => fun
  | [d1, d2] => { results := [.lit (.bool false)], args := [d1, d2] }
  | _ => none }
def QuoteAllWrongFalsely : Prop := quoteAllRow.holds Try.pinned (OpenSpec.ofChange quoteAllWrong)

/-- 'orthoepylaw22.QuoteBack': WHATEVER THE INPUT: true; the input reads as it did. -/
def quoteBackSpec : ChangeSpec := { name := "quoteBack", fn := fun _ => fun
  | [d] => { results := [.lit (.bool true)], args := [d] }
  | _ => none }
def quoteBackRow : OpenClaim := { program := "ytkpeblpgfngjcaa", sum := "bca227c2c3bd86ac22e048c3f23468593c3620cf9467c91b11d28588aa54488d", func := "orthoepy/orthoepylaw22.QuoteBack", spec := "quoteBack", inPlace := ["internal/abi.NoEscape"], unfollowed := true, recurses := true, apart := false }
def QuoteBackSaid : Prop := quoteBackRow.holds Try.pinned (OpenSpec.ofChange quoteBackSpec)

/-- ITS FALSE NEIGHBOUR: 'it returns false'. Refute it at one input. -/
def quoteBackWrong : ChangeSpec := { name := "quoteBack", fn := fun _ => fun
  | [d] => { results := [.lit (.bool false)], args := [d] }
  | _ => none }
def QuoteBackWrongFalsely : Prop := quoteBackRow.holds Try.pinned (OpenSpec.ofChange quoteBackWrong)

/-- 'orthoepylaw22.QuoteShortest': WHATEVER THE INPUT: true; the input reads as it did. -/
def quoteShortestSpec : ChangeSpec := { name := "quoteShortest", fn := fun _ => fun
  | [d] => { results := [.lit (.bool true)], args := [d] }
  | _ => none }
def quoteShortestRow : OpenClaim := { program := "ytkpeblpgfngjcaa", sum := "bca227c2c3bd86ac22e048c3f23468593c3620cf9467c91b11d28588aa54488d", func := "orthoepy/orthoepylaw22.QuoteShortest", spec := "quoteShortest", inPlace := ["internal/abi.NoEscape"], unfollowed := true, recurses := true, apart := false }
def QuoteShortestSaid : Prop := quoteShortestRow.holds Try.pinned (OpenSpec.ofChange quoteShortestSpec)

/-- ITS FALSE NEIGHBOUR: 'it returns false'. Refute it at one input. -/
def quoteShortestWrong : ChangeSpec := { name := "quoteShortest", fn := fun _ => fun
  | [d] => { results := [.lit (.bool false)], args := [d] }
  | _ => none }
def QuoteShortestWrongFalsely : Prop := quoteShortestRow.holds Try.pinned (OpenSpec.ofChange quoteShortestWrong)

/-- 'orthoepylaw22.QuoteOdd': WHATEVER THE INPUT: true; the input reads as it did. -/
def quoteOddSpec : ChangeSpec := { name := "quoteOdd", fn := fun _ => fun
  | [d1, d2] => { results := [.lit (.bool true)], args := [d1, d2] }
  | _ => none }
def quoteOddRow : OpenClaim := { program := "ytkpeblpgfngjcaa", sum := "bca227c2c3bd86ac22e048c3f23468593c3620cf9467c91b11d28588aa54488d", func := "orthoepy/orthoepylaw22.QuoteOdd", spec := "quoteOdd", inPlace := ["internal/abi.NoEscape"], unfollowed := true, recurses := true, apart := false }
def QuoteOddSaid : Prop := quoteOddRow.holds Try.pinned (OpenSpec.ofChange quoteOddSpec)

/-- ITS FALSE NEIGHBOUR: 'it returns false'. Refute it at one input. -/
def quoteOddWrong : ChangeSpec := { name := "quoteOdd", fn := fun _ => fun
  | [d1, d2] => { results := [.lit (.bool false)], args := [d1, d2] }
  | _ => none }
def QuoteOddWrongFalsely : Prop := quoteOddRow.holds Try.pinned (OpenSpec.ofChange quoteOddWrong)

/-- 'orthoepylaw22.QuoteJoins': WHATEVER THE INPUT: true; the input reads as it did. -/
def quoteJoinsSpec : ChangeSpec := { name := "quoteJoins", fn := fun _ => fun
  | [d1, d2] => { results := [.lit (.bool true)], args := [d1, d2] }
  | _ => none }
def quoteJoinsRow : OpenClaim := { program := "ytkpeblpgfngjcaa", sum := "bca227c2c3bd86ac22e048c3f23468593c3620cf9467c91b11d28588aa54488d", func := "orthoepy/orthoepylaw22.QuoteJoins", spec := "quoteJoins", inPlace := ["internal/abi.NoEscape"], unfollowed := true, recurses := true, apart := false }
def QuoteJoinsSaid : Prop := quoteJoinsRow.holds Try.pinned (OpenSpec.ofChange quoteJoinsSpec)

/-- ITS FALSE NEIGHBOUR: 'it returns false'. Refute it at one input. -/
def quoteJoinsWrong : ChangeSpec := { name := "quoteJoins", fn := fun _ => fun
  | [d1, d2] => { results := [.lit (.bool false)], args := [d1, d2] }
  | _ => none }
def QuoteJoinsWrongFalsely : Prop := quoteJoinsRow.holds Try.pinned (OpenSpec.ofChange quoteJoinsWrong)

/-- 'orthoepylaw22.QuoteScalars': WHATEVER THE INPUT: true; the input reads as it did. -/
def quoteScalarsSpec : ChangeSpec := { name := "quoteScalars", fn := fun _ => fun
  | [d] => { results := [.lit (.bool true)], args := [d] }
  | _ => none }
def quoteScalarsRow : OpenClaim := { program := "ytkpeblpgfngjcaa", sum := "bca227c2c3bd86ac22e048c3f23468593c3620cf9467c91b11d28588aa54488d", func := "orthoepy/orthoepylaw22.QuoteScalars", spec := "quoteScalars", inPlace := ["internal/abi.NoEscape"], unfollowed := true, recurses := true, apart := false }
def QuoteScalarsSaid : Prop := quoteScalarsRow.holds Try.pinned (OpenSpec.ofChange quoteScalarsSpec)

/-- ITS FALSE NEIGHBOUR: 'it returns false'. Refute it at one input. -/
def quoteScalarsWrong : ChangeSpec := { name := "quoteScalars", fn := fun _ => fun
  | [d] => { results := [.lit (.bool false)], args := [d] }
  | _ => none }
def QuoteScalarsWrongFalsely : Prop := quoteScalarsRow.holds Try.pinned (OpenSpec.ofChange quoteScalarsWrong)

/-- 'orthoepylaw22.QuoteApart': WHATEVER THE INPUT: true; the input reads as it did. -/
def quoteApartSpec : ChangeSpec := { name := "quoteApart", fn := fun _ => fun
  | [d1, d2] => { results := [.lit (.bool true)], args := [d1, d2] }
  | _ => none }
def quoteApartRow : OpenClaim := { program := "ytkpeblpgfngjcaa", sum := "bca227c2c3bd86ac22e048c3f23468593c3620cf9467c91b11d28588aa54488d", func := "orthoepy/orthoepylaw22.QuoteApart", spec := "quoteApart", inPlace := ["internal/abi.NoEscape"], unfollowed := true, recurses := true, apart := false }
def QuoteApartSaid : Prop := quoteApartRow.holds Try.pinned (OpenSpec.ofChange quoteApartSpec)

/-- ITS FALSE NEIGHBOUR: 'it returns false'. Refute it at one input. -/
def quoteApartWrong : ChangeSpec := { name := "quoteApart", fn := fun _ => fun
  | [d1, d2] => { results := [.lit (.bool false)], args := [d1, d2] }
  | _ => none }
def QuoteApartWrongFalsely : Prop := quoteApartRow.holds Try.pinned (OpenSpec.ofChange quoteApartWrong)

/- THE SECOND FORM. 'bulk': how many values and letters a reading holds, each counted each time it is reached (what is shared counts as often as it is met; a slice's spare places count too). A statement '..UptoSaid' is the law's where the arguments, and the package variables that the reading takes, are together of bulk at most 1048576: NARROWER than '..Said'. Prove '..Said' where nothing that the law and all that it calls make is longer than what came in: it says more and counts as full. Else prove '..UptoSaid'. A law counts once. -/
mutual
def uptoBulk {H : Type} : DataW H → Nat
  | .lit (.string bytes) => bytes.length + 1
  | .lit _ => 1
  | .nil => 1
  | .ptr d => uptoBulk d + 1
  | .slice elems spare => uptoBulkAll elems + uptoBulkAll spare + 1
  | .agg parts => uptoBulkAll parts + 1
  | .iface _ d => uptoBulk d + 1
  | .map entries => uptoBulkEntries entries + 1
  | .held _ => 1
def uptoBulkAll {H : Type} : List (DataW H) → Nat
  | [] => 0
  | d :: r => uptoBulk d + uptoBulkAll r
def uptoBulkEntries {H : Type} : List (Lit × DataW H) → Nat
  | [] => 0
  | x :: r => uptoBulkEntry x + uptoBulkEntries r
def uptoBulkEntry {H : Type} : Lit × DataW H → Nat
  | (.string bytes, d) => bytes.length + uptoBulk d + 1
  | (_, d) => uptoBulk d + 1
 end
def uptoSmall : (H : Type) → List (DataW H) → Bool := fun _ ds => decide (uptoBulkAll ds ≤ 1048576)
def OpenSpec.upto (s : _root_.Go.ChangeSpec) : _root_.Go.OpenSpec := { _root_.Go.OpenSpec.ofChange s with cond := some uptoSmall }

/-- 'orthoepylaw22.QuoteAll', WHERE WHAT IT READS IS OF BULK AT MOST 1048576: true; the input reads as it did. -/
def quoteAllUptoRow : OpenClaim := { program := "ytkpeblpgfngjcaa", sum := "bca227c2c3bd86ac22e048c3f23468593c3620cf9467c91b11d28588aa54488d", func := "orthoepy/orthoepylaw22.QuoteAll", spec := "quoteAll", inPlace := ["internal/abi.NoEscape"], unfollowed := true, recurses := true, apart := false, narrowed := true }
def QuoteAllUptoSaid : Prop := quoteAllUptoRow.holds Try.pinned (OpenSpec.upto quoteAllSpec)

/-- 'orthoepylaw22.QuoteBack', WHERE WHAT IT READS IS OF BULK AT MOST 1048576: true; the input reads as it did. -/
def quoteBackUptoRow : OpenClaim := { program := "ytkpeblpgfngjcaa", sum := "bca227c2c3bd86ac22e048c3f23468593c3620cf9467c91b11d28588aa54488d", func := "orthoepy/orthoepylaw22.QuoteBack", spec := "quoteBack", inPlace := ["internal/abi.NoEscape"], unfollowed := true, recurses := true, apart := false, narrowed := true }
def QuoteBackUptoSaid : Prop := quoteBackUptoRow.holds Try.pinned (OpenSpec.upto quoteBackSpec)

/-- 'orthoepylaw22.QuoteShortest', WHERE WHAT IT READS IS OF BULK AT MOST 1048576: true; the input reads as it did. -/
def quoteShortestUptoRow : OpenClaim := { program := "ytkpeblpgfngjcaa", sum := "bca227c2c3bd86ac22e048c3f23468593c3620cf9467c91b11d28588aa54488d", func := "orthoepy/orthoepylaw22.QuoteShortest", spec := "quoteShortest", inPlace := ["internal/abi.NoEscape"], unfollowed := true, recurses := true, apart := false, narrowed := true }
def QuoteShortestUptoSaid : Prop := quoteShortestUptoRow.holds Try.pinned (OpenSpec.upto quoteShortestSpec)

/-- 'orthoepylaw22.QuoteOdd', WHERE WHAT IT READS IS OF BULK AT MOST 1048576: true; the input reads as it did. -/
def quoteOddUptoRow : OpenClaim := { program := "ytkpeblpgfngjcaa", sum := "bca227c2c3bd86ac22e048c3f23468593c3620cf9467c91b11d28588aa54488d", func := "orthoepy/orthoepylaw22.QuoteOdd", spec := "quoteOdd", inPlace := ["internal/abi.NoEscape"], unfollowed := true, recurses := true, apart := false, narrowed := true }
def QuoteOddUptoSaid : Prop := quoteOddUptoRow.holds Try.pinned (OpenSpec.upto quoteOddSpec)

/-- 'orthoepylaw22.QuoteJoins', WHERE WHAT IT READS IS OF BULK AT MOST 1048576: true; the input reads as it did. -/
def quoteJoinsUptoRow : OpenClaim := { program := "ytkpeblpgfngjcaa", sum := "bca227c2c3bd86ac22e048c3f23468593c3620cf9467c91b11d28588aa54488d", func := "orthoepy/orthoepylaw22.QuoteJoins", spec := "quoteJoins", inPlace := ["internal/abi.NoEscape"], unfollowed := true, recurses := true, apart := false, narrowed := true }
def QuoteJoinsUptoSaid : Prop := quoteJoinsUptoRow.holds Try.pinned (OpenSpec.upto quoteJoinsSpec)

/-- 'orthoepylaw22.QuoteScalars', WHERE WHAT IT READS IS OF BULK AT MOST 1048576: true; the input reads as it did. -/
def quoteScalarsUptoRow : OpenClaim := { program := "ytkpeblpgfngjcaa", sum := "bca227c2c3bd86ac22e048c3f23468593c3620cf9467c91b11d28588aa54488d", func := "orthoepy/orthoepylaw22.QuoteScalars", spec := "quoteScalars", inPlace := ["internal/abi.NoEscape"], unfollowed := true, recurses := true, apart := false, narrowed := true }
def QuoteScalarsUptoSaid : Prop := quoteScalarsUptoRow.holds Try.pinned (OpenSpec.upto quoteScalarsSpec)

/-- 'orthoepylaw22.QuoteApart', WHERE WHAT IT READS IS OF BULK AT MOST 1048576: true; the input reads as it did. -/
def quoteApartUptoRow : OpenClaim := { program := "ytkpeblpgfngjcaa", sum := "bca227c2c3bd86ac22e048c3f23468593c3620cf9467c91b11d28588aa54488d", func := "orthoepy/orthoepylaw22.QuoteApart", spec := "quoteApart", inPlace := ["internal/abi.NoEscape"], unfollowed := true, recurses := true, apart := false, narrowed := true }
def QuoteApartUptoSaid : Prop := quoteApartUptoRow.holds Try.pinned (OpenSpec.upto quoteApartSpec)

end Rows
end Go.Proofs.Ytkpeblpgfngjcaa
