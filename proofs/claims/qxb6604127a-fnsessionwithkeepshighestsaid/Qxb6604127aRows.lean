/-
  No cell of these rows narrows 'for every input' (looked for: loops, veiled, ifaces, maps, wideKeys, modest, calm, conditions, laid).
  DERIVED. THE GIVEN ROWS OF THIS SEAT. 4 by the template 'for every input the law returns true; each argument reads behind the call as it read before'; 0 by the template 'total and deterministic' (their statements: Qxb6604127aTotals.lean).
  GIVEN WITH THE SEED: the statements are not yours to turn. If you find one false, say at which input.
  Laid BY PROGRAM, IN A SANDBOX (cutbox-rows.mjs): the forced cells as the released guide's own fill.sh prints them over the translation 6af9713ef49893f8… (all of the seat's roots in one cut). By AI agents, Wed Nov 11 2026. No macro, syntax, notation, axiom, sorry.
-/
import Derived.Test.Qxb6604127aChecked
import GoSem.Claim
import GoSem.ClaimJoined
import GoSem.ClaimMapViews
import Derived.JoinedTies
import Derived.KernelRfl
namespace Go.Proofs.Qxb6604127a
/- THE CELL 'sum', in the pinned program and in every row, IS THE sha256 OF THE DUMP (.gsa) THAT Qxb6604127aProg.lean LOADS. Nothing in Lean hashes anything: it is a label: what it is worth is what the hold of that sum in a sandbox is worth. -/
noncomputable def Try.pinned : Pinned := { name := "qxb6604127a", sum := "6af9713ef49893f81405bc020354d072ee6c645566360a9674baec448c163c9b", checked := Try.checked }
namespace Rows
def none {H : Type} : Left H := { results := [], args := [] }

/-- 'zzlaws_store_b1.FnAppendStringRoundTrip': WHATEVER THE INPUT: true; the input reads as it did. -/
def fnAppendStringRoundTripSpec : ChangeSpec := { name := "fnAppendStringRoundTrip", fn := fun _ => fun
  | [d1, d2] => { results := [.lit (.bool true)], args := [d1, d2] }
  | _ => none }
def fnAppendStringRoundTripRow : OpenClaim := { program := "qxb6604127a", sum := "6af9713ef49893f81405bc020354d072ee6c645566360a9674baec448c163c9b", func := "example.com/quorumline/quorumline/zzlaws_store_b1.FnAppendStringRoundTrip", spec := "fnAppendStringRoundTrip", apart := false }
def FnAppendStringRoundTripSaid : Prop := fnAppendStringRoundTripRow.holds Try.pinned (OpenSpec.ofChange fnAppendStringRoundTripSpec)

/-- ITS FALSE NEIGHBOUR: 'it returns false'. Refute it at one input. -/
def fnAppendStringRoundTripWrong : ChangeSpec := { name := "fnAppendStringRoundTrip", fn := fun _ => fun
  | [d1, d2] => { results := [.lit (.bool false)], args := [d1, d2] }
  | _ => none }
def FnAppendStringRoundTripWrongFalsely : Prop := fnAppendStringRoundTripRow.holds Try.pinned (OpenSpec.ofChange fnAppendStringRoundTripWrong)

/-- 'zzlaws_store_b1.FnAppendStringConcat': WHATEVER THE INPUT: true; the input reads as it did. -/
def fnAppendStringConcatSpec : ChangeSpec := { name := "fnAppendStringConcat", fn := fun _ => fun
  | [d1, d2] => { results := [.lit (.bool true)], args := [d1, d2] }
  | _ => none }
def fnAppendStringConcatRow : OpenClaim := { program := "qxb6604127a", sum := "6af9713ef49893f81405bc020354d072ee6c645566360a9674baec448c163c9b", func := "example.com/quorumline/quorumline/zzlaws_store_b1.FnAppendStringConcat", spec := "fnAppendStringConcat", apart := false }
def FnAppendStringConcatSaid : Prop := fnAppendStringConcatRow.holds Try.pinned (OpenSpec.ofChange fnAppendStringConcatSpec)

/-- ITS FALSE NEIGHBOUR: 'it returns false'. Refute it at one input. -/
def fnAppendStringConcatWrong : ChangeSpec := { name := "fnAppendStringConcat", fn := fun _ => fun
  | [d1, d2] => { results := [.lit (.bool false)], args := [d1, d2] }
  | _ => none }
def FnAppendStringConcatWrongFalsely : Prop := fnAppendStringConcatRow.holds Try.pinned (OpenSpec.ofChange fnAppendStringConcatWrong)

/-- 'zzlaws_store_b1.FnSessionWithSpec': WHATEVER THE INPUT: true; the input reads as it did. -/
def fnSessionWithSpecSpec : ChangeSpec := { name := "fnSessionWithSpec", fn := fun _ => fun
  | [d1, d2, d3, d4] => { results := [.lit (.bool true)], args := [d1, d2, d3, d4] }
  | _ => none }
def fnSessionWithSpecRow : OpenClaim := { program := "qxb6604127a", sum := "6af9713ef49893f81405bc020354d072ee6c645566360a9674baec448c163c9b", func := "example.com/quorumline/quorumline/zzlaws_store_b1.FnSessionWithSpec", spec := "fnSessionWithSpec", inPlace := ["slices.overlaps[example.com/quorumline/quorumline/store.request]"], apart := false }
def FnSessionWithSpecSaid : Prop := fnSessionWithSpecRow.holds Try.pinned (OpenSpec.ofChange fnSessionWithSpecSpec)

/-- ITS FALSE NEIGHBOUR: 'it returns false'. Refute it at one input. -/
def fnSessionWithSpecWrong : ChangeSpec := { name := "fnSessionWithSpec", fn := fun _ => fun
  | [d1, d2, d3, d4] => { results := [.lit (.bool false)], args := [d1, d2, d3, d4] }
  | _ => none }
def FnSessionWithSpecWrongFalsely : Prop := fnSessionWithSpecRow.holds Try.pinned (OpenSpec.ofChange fnSessionWithSpecWrong)

/-- 'zzlaws_store_b1.FnSessionWithKeepsHighest': WHATEVER THE INPUT: true; the input reads as it did. -/
def fnSessionWithKeepsHighestSpec : ChangeSpec := { name := "fnSessionWithKeepsHighest", fn := fun _ => fun
  | [d] => { results := [.lit (.bool true)], args := [d] }
  | _ => none }
def fnSessionWithKeepsHighestRow : OpenClaim := { program := "qxb6604127a", sum := "6af9713ef49893f81405bc020354d072ee6c645566360a9674baec448c163c9b", func := "example.com/quorumline/quorumline/zzlaws_store_b1.FnSessionWithKeepsHighest", spec := "fnSessionWithKeepsHighest", inPlace := ["slices.overlaps[example.com/quorumline/quorumline/store.request]"], apart := false }
def FnSessionWithKeepsHighestSaid : Prop := fnSessionWithKeepsHighestRow.holds Try.pinned (OpenSpec.ofChange fnSessionWithKeepsHighestSpec)

/-- ITS FALSE NEIGHBOUR: 'it returns false'. Refute it at one input. -/
def fnSessionWithKeepsHighestWrong : ChangeSpec := { name := "fnSessionWithKeepsHighest", fn := fun _ => fun
  | [d] => { results := [.lit (.bool false)], args := [d] }
  | _ => none }
def FnSessionWithKeepsHighestWrongFalsely : Prop := fnSessionWithKeepsHighestRow.holds Try.pinned (OpenSpec.ofChange fnSessionWithKeepsHighestWrong)

end Rows
end Go.Proofs.Qxb6604127a
