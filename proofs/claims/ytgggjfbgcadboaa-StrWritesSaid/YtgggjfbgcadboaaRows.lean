/-
  No cell of these rows narrows 'for every input' (looked for: loops, veiled, ifaces, maps, wideKeys, modest, calm, conditions, laid).
  DERIVED. THE GIVEN ROWS OF THIS SEAT. 5 by the template 'for every input the law returns true; each argument reads behind the call as it read before'; 0 by the template 'total and deterministic' (their statements: YtgggjfbgcadboaaTotals.lean).
  GIVEN WITH THE SEED: the statements are not yours to turn. If you find one false, say at which input.
  Laid BY PROGRAM, IN A SANDBOX (cutbox-rows.mjs): the forced cells as the released guide's own fill.sh prints them over the translation a4163504c43e1a2f… (all of the seat's roots in one cut). By AI agents, Wed Nov 11 2026. No macro, syntax, notation, axiom, sorry.
-/
import Derived.Test.YtgggjfbgcadboaaChecked
import GoSem.Claim
import GoSem.ClaimJoined
import GoSem.ClaimMapViews
import Derived.JoinedTies
import Derived.KernelRfl
namespace Go.Proofs.Ytgggjfbgcadboaa
/- THE CELL 'sum', in the pinned program and in every row, IS THE sha256 OF THE DUMP (.gsa) THAT YtgggjfbgcadboaaProg.lean LOADS. Nothing in Lean hashes anything: it is a label: what it is worth is what the hold of that sum in a sandbox is worth. -/
noncomputable def Try.pinned : Pinned := { name := "ytgggjfbgcadboaa", sum := "a4163504c43e1a2f51c9036133466dd2269b47e296cd6db33ca80a57ac99680f", checked := Try.checked }
namespace Rows
def none {H : Type} : Left H := { results := [], args := [] }

/-- 'orthoepylaw12.StrPlays': WHATEVER THE INPUT: true; the input reads as it did. -/
def strPlaysSpec : ChangeSpec := { name := "strPlays", fn := fun _ => fun
  | [d] => { results := [.lit (.bool true)], args := [d] }
  | _ => none }
def strPlaysRow : OpenClaim := { program := "ytgggjfbgcadboaa", sum := "a4163504c43e1a2f51c9036133466dd2269b47e296cd6db33ca80a57ac99680f", func := "orthoepy/orthoepylaw12.StrPlays", spec := "strPlays", unfollowed := true, recurses := true, apart := false }
def StrPlaysSaid : Prop := strPlaysRow.holds Try.pinned (OpenSpec.ofChange strPlaysSpec)

/-- ITS FALSE NEIGHBOUR: 'it returns false'. Refute it at one input. -/
def strPlaysWrong : ChangeSpec := { name := "strPlays", fn := fun _ => fun
  | [d] => { results := [.lit (.bool false)], args := [d] }
  | _ => none }
def StrPlaysWrongFalsely : Prop := strPlaysRow.holds Try.pinned (OpenSpec.ofChange strPlaysWrong)

/-- 'orthoepylaw12.StrHopes': WHATEVER THE INPUT: true; the input reads as it did. -/
def strHopesSpec : ChangeSpec := { name := "strHopes", fn := fun _ => fun
  | [d] => { results := [.lit (.bool true)], args := [d] }
  | _ => none }
def strHopesRow : OpenClaim := { program := "ytgggjfbgcadboaa", sum := "a4163504c43e1a2f51c9036133466dd2269b47e296cd6db33ca80a57ac99680f", func := "orthoepy/orthoepylaw12.StrHopes", spec := "strHopes", unfollowed := true, recurses := true, apart := false }
def StrHopesSaid : Prop := strHopesRow.holds Try.pinned (OpenSpec.ofChange strHopesSpec)

/-- ITS FALSE NEIGHBOUR: 'it returns false'. Refute it at one input. -/
def strHopesWrong : ChangeSpec := { name := "strHopes", fn := fun _ => fun
  | [d] => { results := [.lit (.bool false)], args := [d] }
  | _ => none }
def StrHopesWrongFalsely : Prop := strHopesRow.holds Try.pinned (OpenSpec.ofChange strHopesWrong)

/-- 'orthoepylaw12.StrWrites': WHATEVER THE INPUT: true; the input reads as it did. -/
def strWritesSpec : ChangeSpec := { name := "strWrites", fn := fun _ => fun
  | [d1, d2] => { results := [.lit (.bool true)], args := [d1, d2] }
  | _ => none }
def strWritesRow : OpenClaim := { program := "ytgggjfbgcadboaa", sum := "a4163504c43e1a2f51c9036133466dd2269b47e296cd6db33ca80a57ac99680f", func := "orthoepy/orthoepylaw12.StrWrites", spec := "strWrites", unfollowed := true, recurses := true, apart := false }
def StrWritesSaid : Prop := strWritesRow.holds Try.pinned (OpenSpec.ofChange strWritesSpec)

/-- ITS FALSE NEIGHBOUR: 'it returns false'. Refute it at one input. -/
def strWritesWrong : ChangeSpec := { name := "strWrites", fn := fun _ => fun
  | [d1, d2] => { results := [.lit (.bool false)], args := [d1, d2] }
  | _ => none }
def StrWritesWrongFalsely : Prop := strWritesRow.holds Try.pinned (OpenSpec.ofChange strWritesWrong)

/-- 'orthoepylaw12.StrUnits': WHATEVER THE INPUT: true; the input reads as it did. -/
def strUnitsSpec : ChangeSpec := { name := "strUnits", fn := fun _ => fun
  | [d1, d2, d3] => { results := [.lit (.bool true)], args := [d1, d2, d3] }
  | _ => none }
def strUnitsRow : OpenClaim := { program := "ytgggjfbgcadboaa", sum := "a4163504c43e1a2f51c9036133466dd2269b47e296cd6db33ca80a57ac99680f", func := "orthoepy/orthoepylaw12.StrUnits", spec := "strUnits", unfollowed := true, recurses := true, apart := false }
def StrUnitsSaid : Prop := strUnitsRow.holds Try.pinned (OpenSpec.ofChange strUnitsSpec)

/-- ITS FALSE NEIGHBOUR: 'it returns false'. Refute it at one input. -/
def strUnitsWrong : ChangeSpec := { name := "strUnits", fn := fun _ => fun
  | [d1, d2, d3] => { results := [.lit (.bool false)], args := [d1, d2, d3] }
  | _ => none }
def StrUnitsWrongFalsely : Prop := strUnitsRow.holds Try.pinned (OpenSpec.ofChange strUnitsWrong)

/-- 'orthoepylaw12.StrScalars': WHATEVER THE INPUT: true; the input reads as it did. -/
def strScalarsSpec : ChangeSpec := { name := "strScalars", fn := fun _ => fun
  | [d] => { results := [.lit (.bool true)], args := [d] }
  | _ => none }
def strScalarsRow : OpenClaim := { program := "ytgggjfbgcadboaa", sum := "a4163504c43e1a2f51c9036133466dd2269b47e296cd6db33ca80a57ac99680f", func := "orthoepy/orthoepylaw12.StrScalars", spec := "strScalars", unfollowed := true, recurses := true, apart := false }
def StrScalarsSaid : Prop := strScalarsRow.holds Try.pinned (OpenSpec.ofChange strScalarsSpec)

/-- ITS FALSE NEIGHBOUR: 'it returns false'. Refute it at one input. -/
def strScalarsWrong : ChangeSpec := { name := "strScalars", fn := fun _ => fun
  | [d] => { results := [.lit (.bool false)], args := [d] }
  | _ => none }
def StrScalarsWrongFalsely : Prop := strScalarsRow.holds Try.pinned (OpenSpec.ofChange strScalarsWrong)

/- THE SECOND FORM. 'bulk': how many values and letters a reading holds, each counted each time it is reached (what is shared counts as often as it is met; a slice's spare places count too). A statement '..UptoSaid' is the law's where the arguments, and the package variables that the reading takes, are together of bulk at most 1048576: NARROWER than '..Said'. Prove '..Said' where nothing that the law and all that it calls make is longer than what came in: it says more and counts as full. Else prove '..UptoSaid'. A law counts once. -/
mutual
def uptoBulk {H : Type} : DataW H → Nat
  | .lit (.string bytes) => bytes.length + 1
  | .lit _ => 1
  | .nil => 1
  | .ptr d => uptoBulk d + 1
  | .slice elems spare => uptoBulkAll elems + uptoBulkAll spare + 1
  | .agg parts => uptoBulkAll parts + 1
  | .iface _ d => uptoBulk d + 1
  | .map entries => uptoBulkEntries entries + 1
  | .held _ => 1
def uptoBulkAll {H : Type} : List (DataW H) → Nat
  | [] => 0
  | d :: r => uptoBulk d + uptoBulkAll r
def uptoBulkEntries {H : Type} : List (Lit × DataW H) → Nat
  | [] => 0
  | x :: r => uptoBulkEntry x + uptoBulkEntries r
def uptoBulkEntry {H : Type} : Lit × DataW H → Nat
  | (.string bytes, d) => bytes.length + uptoBulk d + 1
  | (_, d) => uptoBulk d + 1
 end
def uptoSmall : (H : Type) → List (DataW H) → Bool := fun _ ds => decide (uptoBulkAll ds ≤ 1048576)
def OpenSpec.upto (s : _root_.Go.ChangeSpec) : _root_.Go.OpenSpec := { _root_.Go.OpenSpec.ofChange s with cond := some uptoSmall }

/-- 'orthoepylaw12.StrPlays', WHERE WHAT IT READS IS OF BULK AT MOST 1048576: true; the input reads as it did. -/
def strPlaysUptoRow : OpenClaim := { program := "ytgggjfbgcadboaa", sum := "a4163504c43e1a2f51c9036133466dd2269b47e296cd6db33ca80a57ac99680f", func := "orthoepy/orthoepylaw12.StrPlays", spec := "strPlays", unfollowed := true, recurses := true, apart := false, narrowed := true }
def StrPlaysUptoSaid : Prop := strPlaysUptoRow.holds Try.pinned (OpenSpec.upto strPlaysSpec)

/-- 'orthoepylaw12.StrHopes', WHERE WHAT IT READS IS OF BULK AT MOST 1048576: true; the input reads as it did. -/
def strHopesUptoRow : OpenClaim := { program := "ytgggjfbgcadboaa", sum := "a4163504c43e1a2f51c9036133466dd2269b47e296cd6db33ca80a57ac99680f", func := "orthoepy/orthoepylaw12.StrHopes", spec := "strHopes", unfollowed := true, recurses := true, apart := false, narrowed := true }
def StrHopesUptoSaid : Prop := strHopesUptoRow.holds Try.pinned (OpenSpec.upto strHopesSpec)

/-- 'orthoepylaw12.StrWrites', WHERE WHAT IT READS IS OF BULK AT MOST 1048576: true; the input reads as it did. -/
def strWritesUptoRow : OpenClaim := { program := "ytgggjfbgcadboaa", sum := "a4163504c43e1a2f51c9036133466dd2269b47e296cd6db33ca80a57ac99680f", func := "orthoepy/orthoepylaw12.StrWrites", spec := "strWrites", unfollowed := true, recurses := true, apart := false, narrowed := true }
def StrWritesUptoSaid : Prop := strWritesUptoRow.holds Try.pinned (OpenSpec.upto strWritesSpec)

/-- 'orthoepylaw12.StrUnits', WHERE WHAT IT READS IS OF BULK AT MOST 1048576: true; the input reads as it did. -/
def strUnitsUptoRow : OpenClaim := { program := "ytgggjfbgcadboaa", sum := "a4163504c43e1a2f51c9036133466dd2269b47e296cd6db33ca80a57ac99680f", func := "orthoepy/orthoepylaw12.StrUnits", spec := "strUnits", unfollowed := true, recurses := true, apart := false, narrowed := true }
def StrUnitsUptoSaid : Prop := strUnitsUptoRow.holds Try.pinned (OpenSpec.upto strUnitsSpec)

/-- 'orthoepylaw12.StrScalars', WHERE WHAT IT READS IS OF BULK AT MOST 1048576: true; the input reads as it did. -/
def strScalarsUptoRow : OpenClaim := { program := "ytgggjfbgcadboaa", sum := "a4163504c43e1a2f51c9036133466dd2269b47e296cd6db33ca80a57ac99680f", func := "orthoepy/orthoepylaw12.StrScalars", spec := "strScalars", unfollowed := true, recurses := true, apart := false, narrowed := true }
def StrScalarsUptoSaid : Prop := strScalarsUptoRow.holds Try.pinned (OpenSpec.upto strScalarsSpec)

end Rows
end Go.Proofs.Ytgggjfbgcadboaa
