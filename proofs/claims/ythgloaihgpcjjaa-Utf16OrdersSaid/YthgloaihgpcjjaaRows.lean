/-
  No cell of these rows narrows 'for every input' (looked for: loops, veiled, ifaces, maps, wideKeys, modest, calm, conditions, laid).
  DERIVED. THE GIVEN ROWS OF THIS SEAT. 5 by the template 'for every input the law returns true; each argument reads behind the call as it read before'; 0 by the template 'total and deterministic' (their statements: YthgloaihgpcjjaaTotals.lean).
  GIVEN WITH THE SEED: the statements are not yours to turn. If you find one false, say at which input.
  Laid BY PROGRAM, IN A SANDBOX (cutbox-rows.mjs): the forced cells as the released guide's own fill.sh prints them over the translation b1a7c0bbd87baa09… (all of the seat's roots in one cut). By AI agents, Wed Nov 11 2026. No macro, syntax, notation, axiom, sorry.
-/
import Derived.Test.YthgloaihgpcjjaaChecked
import GoSem.Claim
import GoSem.ClaimJoined
import GoSem.ClaimMapViews
import Derived.JoinedTies
import Derived.KernelRfl
namespace Go.Proofs.Ythgloaihgpcjjaa
/- THE CELL 'sum', in the pinned program and in every row, IS THE sha256 OF THE DUMP (.gsa) THAT YthgloaihgpcjjaaProg.lean LOADS. Nothing in Lean hashes anything: it is a label: what it is worth is what the hold of that sum in a sandbox is worth. -/
noncomputable def Try.pinned : Pinned := { name := "ythgloaihgpcjjaa", sum := "b1a7c0bbd87baa09ce507714e134c5c227f70bb570866a7f9d29a61754ee5c81", checked := Try.checked }
namespace Rows
def none {H : Type} : Left H := { results := [], args := [] }

/-- 'orthoepylaw03.Utf16All': WHATEVER THE INPUT: true; the input reads as it did. -/
def utf16AllSpec : ChangeSpec := { name := "utf16All", fn := fun _ => fun
  | [d1, d2, d3] => { results := [.lit (.bool true)], args := [d1, d2, d3] }
  | _ => none }
def utf16AllRow : OpenClaim := { program := "ythgloaihgpcjjaa", sum := "b1a7c0bbd87baa09ce507714e134c5c227f70bb570866a7f9d29a61754ee5c81", func := "orthoepy/orthoepylaw03.Utf16All", spec := "utf16All", unfollowed := true, recurses := true, apart := false }
def Utf16AllSaid : Prop := utf16AllRow.holds Try.pinned (OpenSpec.ofChange utf16AllSpec)

/-- ITS FALSE NEIGHBOUR: 'it returns false'. Refute it at one input. -/
def utf16AllWrong : ChangeSpec := { name := "utf16All", fn := fun _ => fun
  | [d1, d2, d3] => { results := [.lit (.bool false)], args := [d1, d2, d3] }
  | _ => none }
def Utf16AllWrongFalsely : Prop := utf16AllRow.holds Try.pinned (OpenSpec.ofChange utf16AllWrong)

/-- 'orthoepylaw03.Utf16Back': WHATEVER THE INPUT: true; the input reads as it did. -/
def utf16BackSpec : ChangeSpec := { name := "utf16Back", fn := fun _ => fun
  | [d] => { results := [.lit (.bool true)], args := [d] }
  | _ => none }
def utf16BackRow : OpenClaim := { program := "ythgloaihgpcjjaa", sum := "b1a7c0bbd87baa09ce507714e134c5c227f70bb570866a7f9d29a61754ee5c81", func := "orthoepy/orthoepylaw03.Utf16Back", spec := "utf16Back", unfollowed := true, recurses := true, apart := false }
def Utf16BackSaid : Prop := utf16BackRow.holds Try.pinned (OpenSpec.ofChange utf16BackSpec)

/-- ITS FALSE NEIGHBOUR: 'it returns false'. Refute it at one input. -/
def utf16BackWrong : ChangeSpec := { name := "utf16Back", fn := fun _ => fun
  | [d] => { results := [.lit (.bool false)], args := [d] }
  | _ => none }
def Utf16BackWrongFalsely : Prop := utf16BackRow.holds Try.pinned (OpenSpec.ofChange utf16BackWrong)

/-- 'orthoepylaw03.Utf16Orders': WHATEVER THE INPUT: true; the input reads as it did. -/
def utf16OrdersSpec : ChangeSpec := { name := "utf16Orders", fn := fun _ => fun
  | [d1, d2, d3] => { results := [.lit (.bool true)], args := [d1, d2, d3] }
  | _ => none }
def utf16OrdersRow : OpenClaim := { program := "ythgloaihgpcjjaa", sum := "b1a7c0bbd87baa09ce507714e134c5c227f70bb570866a7f9d29a61754ee5c81", func := "orthoepy/orthoepylaw03.Utf16Orders", spec := "utf16Orders", unfollowed := true, recurses := true, apart := false }
def Utf16OrdersSaid : Prop := utf16OrdersRow.holds Try.pinned (OpenSpec.ofChange utf16OrdersSpec)

/-- ITS FALSE NEIGHBOUR: 'it returns false'. Refute it at one input. -/
def utf16OrdersWrong : ChangeSpec := { name := "utf16Orders", fn := fun _ => fun
  | [d1, d2, d3] => { results := [.lit (.bool false)], args := [d1, d2, d3] }
  | _ => none }
def Utf16OrdersWrongFalsely : Prop := utf16OrdersRow.holds Try.pinned (OpenSpec.ofChange utf16OrdersWrong)

/-- 'orthoepylaw03.Utf16Scalars': WHATEVER THE INPUT: true; the input reads as it did. -/
def utf16ScalarsSpec : ChangeSpec := { name := "utf16Scalars", fn := fun _ => fun
  | [d1, d2, d3] => { results := [.lit (.bool true)], args := [d1, d2, d3] }
  | _ => none }
def utf16ScalarsRow : OpenClaim := { program := "ythgloaihgpcjjaa", sum := "b1a7c0bbd87baa09ce507714e134c5c227f70bb570866a7f9d29a61754ee5c81", func := "orthoepy/orthoepylaw03.Utf16Scalars", spec := "utf16Scalars", unfollowed := true, recurses := true, apart := false }
def Utf16ScalarsSaid : Prop := utf16ScalarsRow.holds Try.pinned (OpenSpec.ofChange utf16ScalarsSpec)

/-- ITS FALSE NEIGHBOUR: 'it returns false'. Refute it at one input. -/
def utf16ScalarsWrong : ChangeSpec := { name := "utf16Scalars", fn := fun _ => fun
  | [d1, d2, d3] => { results := [.lit (.bool false)], args := [d1, d2, d3] }
  | _ => none }
def Utf16ScalarsWrongFalsely : Prop := utf16ScalarsRow.holds Try.pinned (OpenSpec.ofChange utf16ScalarsWrong)

/-- 'orthoepylaw03.Utf16Lone': WHATEVER THE INPUT: true; the input reads as it did. -/
def utf16LoneSpec : ChangeSpec := { name := "utf16Lone", fn := fun _ => fun
  | [d1, d2, d3] => { results := [.lit (.bool true)], args := [d1, d2, d3] }
  | _ => none }
def utf16LoneRow : OpenClaim := { program := "ythgloaihgpcjjaa", sum := "b1a7c0bbd87baa09ce507714e134c5c227f70bb570866a7f9d29a61754ee5c81", func := "orthoepy/orthoepylaw03.Utf16Lone", spec := "utf16Lone", unfollowed := true, recurses := true, apart := false }
def Utf16LoneSaid : Prop := utf16LoneRow.holds Try.pinned (OpenSpec.ofChange utf16LoneSpec)

/-- ITS FALSE NEIGHBOUR: 'it returns false'. Refute it at one input. -/
def utf16LoneWrong : ChangeSpec := { name := "utf16Lone", fn := fun _ => fun
  | [d1, d2, d3] => { results := [.lit (.bool false)], args := [d1, d2, d3] }
  | _ => none }
def Utf16LoneWrongFalsely : Prop := utf16LoneRow.holds Try.pinned (OpenSpec.ofChange utf16LoneWrong)

/- THE SECOND FORM. 'bulk': how many values and letters a reading holds, each counted each time it is reached (what is shared counts as often as it is met; a slice's spare places count too). A statement '..UptoSaid' is the law's where the arguments, and the package variables that the reading takes, are together of bulk at most 1048576: NARROWER than '..Said'. Prove '..Said' where nothing that the law and all that it calls make is longer than what came in: it says more and counts as full. Else prove '..UptoSaid'. A law counts once. -/
mutual
def uptoBulk {H : Type} : DataW H → Nat
  | .lit (.string bytes) => bytes.length + 1
  | .lit _ => 1
  | .nil => 1
  | .ptr d => uptoBulk d + 1
  | .slice elems spare => uptoBulkAll elems + uptoBulkAll spare + 1
  | .agg parts => uptoBulkAll parts + 1
  | .iface _ d => uptoBulk d + 1
  | .map entries => uptoBulkEntries entries + 1
  | .held _ => 1
def uptoBulkAll {H : Type} : List (DataW H) → Nat
  | [] => 0
  | d :: r => uptoBulk d + uptoBulkAll r
def uptoBulkEntries {H : Type} : List (Lit × DataW H) → Nat
  | [] => 0
  | x :: r => uptoBulkEntry x + uptoBulkEntries r
def uptoBulkEntry {H : Type} : Lit × DataW H → Nat
  | (.string bytes, d) => bytes.length + uptoBulk d + 1
  | (_, d) => uptoBulk d + 1
 end
def uptoSmall : (H : Type) → List (DataW H) → Bool := fun _ ds => decide (uptoBulkAll ds ≤ 1048576)
def OpenSpec.upto (s : _root_.Go.ChangeSpec) : _root_.Go.OpenSpec := { _root_.Go.OpenSpec.ofChange s with cond := some uptoSmall }

/-- 'orthoepylaw03.Utf16All', WHERE WHAT IT READS IS OF BULK AT MOST 1048576: true; the input reads as it did. -/
def utf16AllUptoRow : OpenClaim := { program := "ythgloaihgpcjjaa", sum := "b1a7c0bbd87baa09ce507714e134c5c227f70bb570866a7f9d29a61754ee5c81", func := "orthoepy/orthoepylaw03.Utf16All", spec := "utf16All", unfollowed := true, recurses := true, apart := false, narrowed := true }
def Utf16AllUptoSaid : Prop := utf16AllUptoRow.holds Try.pinned (OpenSpec.upto utf16AllSpec)

/-- 'orthoepylaw03.Utf16Back', WHERE WHAT IT READS IS OF BULK AT MOST 1048576: true; the input reads as it did. -/
def utf16BackUptoRow : OpenClaim := { program := "ythgloaihgpcjjaa", sum := "b1a7c0bbd87baa09ce507714e134c5c227f70bb570866a7f9d29a61754ee5c81", func := "orthoepy/orthoepylaw03.Utf16Back", spec := "utf16Back", unfollowed := true, recurses := true, apart := false, narrowed := true }
def Utf16BackUptoSaid : Prop := utf16BackUptoRow.holds Try.pinned (OpenSpec.upto utf16BackSpec)

/-- 'orthoepylaw03.Utf16Orders', WHERE WHAT IT READS IS OF BULK AT MOST 1048576: true; the input reads as it did. -/
def utf16OrdersUptoRow : OpenClaim := { program := "ythgloaihgpcjjaa", sum := "b1a7c0bbd87baa09ce507714e134c5c227f70bb570866a7f9d29a61754ee5c81", func := "orthoepy/orthoepylaw03.Utf16Orders", spec := "utf16Orders", unfollowed := true, recurses := true, apart := false, narrowed := true }
def Utf16OrdersUptoSaid : Prop := utf16OrdersUptoRow.holds Try.pinned (OpenSpec.upto utf16OrdersSpec)

/-- 'orthoepylaw03.Utf16Scalars', WHERE WHAT IT READS IS OF BULK AT MOST 1048576: true; the input reads as it did. -/
def utf16ScalarsUptoRow : OpenClaim := { program := "ythgloaihgpcjjaa", sum := "b1a7c0bbd87baa09ce507714e134c5c227f70bb570866a7f9d29a61754ee5c81", func := "orthoepy/orthoepylaw03.Utf16Scalars", spec := "utf16Scalars", unfollowed := true, recurses := true, apart := false, narrowed := true }
def Utf16ScalarsUptoSaid : Prop := utf16ScalarsUptoRow.holds Try.pinned (OpenSpec.upto utf16ScalarsSpec)

/-- 'orthoepylaw03.Utf16Lone', WHERE WHAT IT READS IS OF BULK AT MOST 1048576: true; the input reads as it did. -/
def utf16LoneUptoRow : OpenClaim := { program := "ythgloaihgpcjjaa", sum := "b1a7c0bbd87baa09ce507714e134c5c227f70bb570866a7f9d29a61754ee5c81", func := "orthoepy/orthoepylaw03.Utf16Lone", spec := "utf16Lone", unfollowed := true, recurses := true, apart := false, narrowed := true }
def Utf16LoneUptoSaid : Prop := utf16LoneUptoRow.holds Try.pinned (OpenSpec.upto utf16LoneSpec)

end Rows
end Go.Proofs.Ythgloaihgpcjjaa
